import JvmDerived
import JvmDerived.Pilot.@@N@@Statement
import JvmDerived.Pilot.@@N@@Code
set_option linter.unusedVariables false
set_option linter.unusedSimpArgs false
namespace Jvm.Pilot.@@N@@
open Jvm Jvm.ClassFile Sem Op Lib Jvm.Free Jvm.Stand Jvm.LawKit Jvm.RoadKit Bundle Jvm.Pilot.@@N@@.Jvm.D
section Own
variable {p : Program} {l : Launch} {e : Env} {R : Room} {s : State} {m : MethodId} {args : Array Value} {below : List Frame} {meth : Method} {c : Code} {T : State} {locs : List Loc} {cells slots : Nat}
/-- from S the run comes to an end that E tells -/
def OwnG (p : Program) (e : Env) (below : List Frame) (E : Outcome → State → Prop) (S : State) : Prop :=
  ∃ s₂ o, Steps p.tables e below S s₂ ∧ s₂.status = .running ∧ Ended s₂ below o ∧ E o s₂
/-- it returned, Q holds of the value and the heap, and the frame is k new cells of n slots -/
def OwnE (s : State) (Q : Option Value → Heap → List Loc → Prop) (k n : Nat) (o : Outcome) (U : State) : Prop :=
  ∃ v L, o = .returned v ∧ Q v U.heap L ∧ FrameEnd s o U L k n
theorem own_by {E : Outcome → State → Prop} {S S' : State} (h : ∀ t, Steps p.tables e below S' t → Steps p.tables e below S t) (g : OwnG p e below E S') : OwnG p e below E S := by
  obtain ⟨s2, o, h1, r⟩ := g
  exact ⟨s2, o, h _ h1, r⟩
theorem own_ret (X : Stand p l e R s m args below meth c T locs cells slots) (hx : p.tables.exec = Jvm.exec) {pc : Nat} {Ls : Array Slot} {w : Value} {t : FieldType} {i : Instr} {rest : List Value} (hret : meth.sig.returnType = some t) (hn : narrow t w = w)
    (hi : (i = .ireturn ∧ (t = .int ∨ t = .boolean ∨ t = .byte ∨ t = .char ∨ t = .short) ∧ ∃ z, w = .int z) ∨ (i = .lreturn ∧ t = .long ∧ ∃ z, w = .long z) ∨ (i = .dreturn ∧ t = .double ∧ ∃ z, w = .double z) ∨ (i = .freturn ∧ t = .float ∧ ∃ z, w = .float z) ∨ (i = .areturn ∧ t.isReference = true ∧ w.isRef = true))
    (hd : decode c.code pc = .ok (i, 1)) (hlk : meth.locks = false) {Q : Option Value → Heap → List Loc → Prop} {k n : Nat} (hk : cells ≤ k) (hs : slots ≤ n) (hQ : Q (some w) T.heap locs) : OwnG p e below (OwnE s Q k n) (T.setTop (mkF m pc Ls (w :: rest))) := by
  obtain ⟨fs, hr, hrun, hended, hW, hsame⟩ := X.leave (v := some w) (fun h => by rw [hret] at h; cases h) hlk
  exact ⟨_, _, retOut X hx hret hn hi hd hr, hrun, hended, _, _, rfl, hQ, ⟨_, rfl⟩, hW, hsame.mono hk hs⟩
theorem own_retI (X : Stand p l e R s m args below meth c T locs cells slots) (hx : p.tables.exec = Jvm.exec) {pc : Nat} {Ls : Array Slot} {z : Int32} {t : FieldType} {rest : List Value} (hret : meth.sig.returnType = some t) (ht : t = .int ∨ t = .boolean ∨ t = .byte ∨ t = .char ∨ t = .short) (hn : narrow t (.int z) = .int z)
    (hd : decode c.code pc = .ok (.ireturn, 1)) (hlk : meth.locks = false) {Q : Option Value → Heap → List Loc → Prop} {k n : Nat} (hk : cells ≤ k) (hs : slots ≤ n) (hQ : Q (some (.int z)) T.heap locs) : OwnG p e below (OwnE s Q k n) (T.setTop (mkF m pc Ls (.int z :: rest))) :=
  own_ret X hx hret hn (Or.inl ⟨rfl, ht, _, rfl⟩) hd hlk hk hs hQ
theorem own_retL (X : Stand p l e R s m args below meth c T locs cells slots) (hx : p.tables.exec = Jvm.exec) {pc : Nat} {Ls : Array Slot} {z : Int64} {rest : List Value} (hret : meth.sig.returnType = some .long)
    (hd : decode c.code pc = .ok (.lreturn, 1)) (hlk : meth.locks = false) {Q : Option Value → Heap → List Loc → Prop} {k n : Nat} (hk : cells ≤ k) (hs : slots ≤ n) (hQ : Q (some (.long z)) T.heap locs) : OwnG p e below (OwnE s Q k n) (T.setTop (mkF m pc Ls (.long z :: rest))) :=
  own_ret X hx hret rfl (Or.inr (Or.inl ⟨rfl, rfl, _, rfl⟩)) hd hlk hk hs hQ
theorem own_retD (X : Stand p l e R s m args below meth c T locs cells slots) (hx : p.tables.exec = Jvm.exec) {pc : Nat} {Ls : Array Slot} {z : UInt64} {rest : List Value} (hret : meth.sig.returnType = some .double)
    (hd : decode c.code pc = .ok (.dreturn, 1)) (hlk : meth.locks = false) {Q : Option Value → Heap → List Loc → Prop} {k n : Nat} (hk : cells ≤ k) (hs : slots ≤ n) (hQ : Q (some (.double z)) T.heap locs) : OwnG p e below (OwnE s Q k n) (T.setTop (mkF m pc Ls (.double z :: rest))) :=
  own_ret X hx hret rfl (Or.inr (Or.inr (Or.inl ⟨rfl, rfl, _, rfl⟩))) hd hlk hk hs hQ
theorem own_narR {t : FieldType} (ht : t.isReference = true) {w : Value} (hw : w.isRef = true) : narrow t w = w := by
  cases t <;> cases w <;> first | rfl | (simp [FieldType.isReference] at ht; done) | (simp [Value.isRef] at hw; done)
theorem own_retA (X : Stand p l e R s m args below meth c T locs cells slots) (hx : p.tables.exec = Jvm.exec) {pc : Nat} {Ls : Array Slot} {w : Value} {t : FieldType} {rest : List Value} (hret : meth.sig.returnType = some t) (ht : t.isReference = true) (hw : w.isRef = true)
    (hd : decode c.code pc = .ok (.areturn, 1)) (hlk : meth.locks = false) {Q : Option Value → Heap → List Loc → Prop} {k n : Nat} (hk : cells ≤ k) (hs : slots ≤ n) (hQ : Q (some w) T.heap locs) : OwnG p e below (OwnE s Q k n) (T.setTop (mkF m pc Ls (w :: rest))) :=
  own_ret X hx hret (own_narR ht hw) (Or.inr (Or.inr (Or.inr (Or.inr ⟨rfl, ht, hw⟩)))) hd hlk hk hs hQ
theorem own_ret0 (X : Stand p l e R s m args below meth c T locs cells slots) (hx : p.tables.exec = Jvm.exec) {pc : Nat} {Ls : Array Slot} (hret : meth.sig.returnType = none)
    (hd : decode c.code pc = .ok (.return_, 1)) (hlk : meth.locks = false) {Q : Option Value → Heap → List Loc → Prop} {k n : Nat} (hk : cells ≤ k) (hs : slots ≤ n) (hQ : Q none T.heap locs) : OwnG p e below (OwnE s Q k n) (T.setTop (mkF m pc Ls [])) := by
  obtain ⟨fs, hr, hrun, hended, hW, hsame⟩ := X.leave (v := none) (fun _ => rfl) hlk
  exact ⟨_, _, X.returnOut hx hret hd hr, hrun, hended, _, _, rfl, hQ, ⟨_, rfl⟩, hW, hsame.mono hk hs⟩
/-- the same, where the walk may have interned -/
def OwnEW (s : State) (Q : Option Value → Heap → List Loc → Prop) (k n : Nat) (o : Outcome) (U : State) : Prop :=
  ∃ v L, o = .returned v ∧ Q v U.heap L ∧ ReturnedEndW s o U L k n
theorem own_endW {s U : State} {o : Outcome} {L : List Loc} {k n k' n' : Nat} (h : ReturnedEndW s o U L k n) (hk : k ≤ k') (hn : n ≤ n') : ReturnedEndW s o U L k' n' := ⟨h.1, h.2.1, h.2.2.1, h.2.2.2.mono hk hn⟩
theorem own_retW {vm₁ : Vm} (X : Stand p l e R (s.setVm vm₁) m args below meth c T locs cells slots) {n1 : Nat} (hS : s.Since vm₁ n1) (hn1 : n1 ≤ T.heap.size) (hx : p.tables.exec = Jvm.exec) {pc : Nat} {Ls : Array Slot} {w : Value} {t : FieldType} {i : Instr} {rest : List Value} (hret : meth.sig.returnType = some t) (hn : narrow t w = w)
    (hi : (i = .ireturn ∧ (t = .int ∨ t = .boolean ∨ t = .byte ∨ t = .char ∨ t = .short) ∧ ∃ z, w = .int z) ∨ (i = .lreturn ∧ t = .long ∧ ∃ z, w = .long z) ∨ (i = .dreturn ∧ t = .double ∧ ∃ z, w = .double z) ∨ (i = .freturn ∧ t = .float ∧ ∃ z, w = .float z) ∨ (i = .areturn ∧ t.isReference = true ∧ w.isRef = true))
    (hd : decode c.code pc = .ok (i, 1)) (hlk : meth.locks = false) {Q : Option Value → Heap → List Loc → Prop} {k n : Nat} (hk : cells ≤ k) (hs : slots ≤ n) (hQ : Q (some w) T.heap locs) : OwnG p e below (OwnEW s Q k n) (T.setTop (mkF m pc Ls (w :: rest))) := by
  obtain ⟨fs, hr, hrun, hended, hE⟩ := X.leaveW hS hn1 (v := some w) (fun h => by rw [hret] at h; cases h) hlk
  exact ⟨_, _, retOut X hx hret hn hi hd hr, hrun, hended, _, _, rfl, hQ, own_endW hE hk hs⟩
theorem own_retWI {vm₁ : Vm} (X : Stand p l e R (s.setVm vm₁) m args below meth c T locs cells slots) {n1 : Nat} (hS : s.Since vm₁ n1) (hn1 : n1 ≤ T.heap.size) (hx : p.tables.exec = Jvm.exec) {pc : Nat} {Ls : Array Slot} {z : Int32} {t : FieldType} {rest : List Value} (hret : meth.sig.returnType = some t) (ht : t = .int ∨ t = .boolean ∨ t = .byte ∨ t = .char ∨ t = .short) (hn : narrow t (.int z) = .int z)
    (hd : decode c.code pc = .ok (.ireturn, 1)) (hlk : meth.locks = false) {Q : Option Value → Heap → List Loc → Prop} {k n : Nat} (hk : cells ≤ k) (hs : slots ≤ n) (hQ : Q (some (.int z)) T.heap locs) : OwnG p e below (OwnEW s Q k n) (T.setTop (mkF m pc Ls (.int z :: rest))) :=
  own_retW X hS hn1 hx hret hn (Or.inl ⟨rfl, ht, _, rfl⟩) hd hlk hk hs hQ
theorem own_retWA {vm₁ : Vm} (X : Stand p l e R (s.setVm vm₁) m args below meth c T locs cells slots) {n1 : Nat} (hS : s.Since vm₁ n1) (hn1 : n1 ≤ T.heap.size) (hx : p.tables.exec = Jvm.exec) {pc : Nat} {Ls : Array Slot} {w : Value} {t : FieldType} {rest : List Value} (hret : meth.sig.returnType = some t) (ht : t.isReference = true) (hw : w.isRef = true)
    (hd : decode c.code pc = .ok (.areturn, 1)) (hlk : meth.locks = false) {Q : Option Value → Heap → List Loc → Prop} {k n : Nat} (hk : cells ≤ k) (hs : slots ≤ n) (hQ : Q (some w) T.heap locs) : OwnG p e below (OwnEW s Q k n) (T.setTop (mkF m pc Ls (w :: rest))) :=
  own_retW X hS hn1 hx hret (own_narR ht hw) (Or.inr (Or.inr (Or.inr (Or.inr ⟨rfl, ht, hw⟩)))) hd hlk hk hs hQ
theorem own_retW0 {vm₁ : Vm} (X : Stand p l e R (s.setVm vm₁) m args below meth c T locs cells slots) {n1 : Nat} (hS : s.Since vm₁ n1) (hn1 : n1 ≤ T.heap.size) (hx : p.tables.exec = Jvm.exec) {pc : Nat} {Ls : Array Slot} (hret : meth.sig.returnType = none)
    (hd : decode c.code pc = .ok (.return_, 1)) (hlk : meth.locks = false) {Q : Option Value → Heap → List Loc → Prop} {k n : Nat} (hk : cells ≤ k) (hs : slots ≤ n) (hQ : Q none T.heap locs) : OwnG p e below (OwnEW s Q k n) (T.setTop (mkF m pc Ls [])) := by
  obtain ⟨fs, hr, hrun, hended, hE⟩ := X.leaveW hS hn1 (v := none) (fun _ => rfl) hlk
  exact ⟨_, _, X.returnOut hx hret hd hr, hrun, hended, _, _, rfl, hQ, own_endW hE hk hs⟩
theorem own_ext0 {h h' : Heap} (K : Keep h h' []) : Ext h h' := ⟨K.1, fun a c q => K.2.1 a c q (by simp)⟩
theorem own_staK {Z : State} {h h' : Heap} {C n d : String} {v : Value} {ws : List Addr} (S : Sta Z h C n d v) (K : Keep h h' ws) (q : ∀ x ∈ ws, ∃ c : Cell, h[x]? = some c ∧ c.vm.isStatics = false) : Sta Z h' C n d v := by
  obtain ⟨cf, i, k, f, st, cell, h1, h2, h3, h4, h5, h6, h7⟩ := S
  refine ⟨cf, i, k, f, st, cell, h1, h2, h3, h4, K.2.1 st cell h5 (fun hm => ?_), h6, h7⟩
  obtain ⟨c, c1, c2⟩ := q st hm
  rw [h5] at c1
  cases c1
  rw [h6] at c2
  cases c2
theorem own_plain {Z : State} {h : Heap} {a : Addr} {C : String} (E : Exa Z h a C) : ∃ c : Cell, h[a]? = some c ∧ c.vm.isStatics = false := by
  obtain ⟨c, k, h1, h2, h3, h4, h5⟩ := E
  exact ⟨c, h1, h4⟩
theorem own_arrK {Z : State} {h h' : Heap} {a : Addr} {c : Cell} {ty : FieldType} {ws : List Addr} (A : Arr Z h a c ty) (K : Keep h h' ws) (q : a ∉ ws) : Arr Z h' a c ty := ⟨K.2.1 a c A.1 q, A.2⟩
/-- the array at a, of the class k, holds just vs -/
def OwnA (Z : State) (h : Heap) (a : Addr) (k : ClassId) (ty : FieldType) (vs : List Value) : Prop := ∃ c : Cell, Arr Z h a c ty ∧ c.cls = k ∧ c.slots.toList = vs
theorem OwnA.lt {Z : State} {h : Heap} {a : Addr} {k : ClassId} {ty : FieldType} {vs : List Value} (F : OwnA Z h a k ty vs) : a < h.size := by obtain ⟨c, A, -⟩ := F; exact A.lt
theorem OwnA.ext {Z : State} {h h' : Heap} {a : Addr} {k : ClassId} {ty : FieldType} {vs : List Value} (F : OwnA Z h a k ty vs) (E : Ext h h') : OwnA Z h' a k ty vs := by obtain ⟨c, A, r⟩ := F; exact ⟨c, A.ext E, r⟩
theorem OwnA.other {Z : State} {h h' : Heap} {a b : Addr} {k : ClassId} {ty : FieldType} {vs : List Value} {sl : Nat} {v : Value} (F : OwnA Z h a k ty vs) (W : Wr h h' b sl v) (q : a ≠ b) : OwnA Z h' a k ty vs := by obtain ⟨c, A, r⟩ := F; exact ⟨c, A.other W q, r⟩
theorem OwnA.keep {Z : State} {h h' : Heap} {a : Addr} {k : ClassId} {ty : FieldType} {vs : List Value} {ws : List Addr} (F : OwnA Z h a k ty vs) (K : Keep h h' ws) (q : a ∉ ws) : OwnA Z h' a k ty vs := by obtain ⟨c, A, r⟩ := F; exact ⟨c, own_arrK A K q, r⟩
theorem OwnA.new {Z : State} {h : Heap} {a : Addr} {k : ClassId} {ty : FieldType} {z : Int32} (A : Arr Z h a (newA k ty z) ty) : OwnA Z h a k ty (List.replicate z.toNatClampNeg (defaultValue ty)) := ⟨_, A, rfl, by simp [newA]⟩
theorem OwnA.set {Z : State} {h h' : Heap} {a : Addr} {k : ClassId} {ty : FieldType} {vs : List Value} {j : Nat} {v : Value} (F : OwnA Z h a k ty vs) (W : Wr h h' a j v) : OwnA Z h' a k ty (vs.set j v) := by
  obtain ⟨c, A, r1, r2⟩ := F
  refine ⟨_, A.same W, r1, ?_⟩
  rw [← r2]
  simp [Cell.setSlot]
theorem OwnA.inb {c : Cell} {vs : List Value} {j : Int32} (H : c.slots.toList = vs) (h1 : ¬ j < 0) (h2 : j.toNatClampNeg < vs.length) : ¬ (j < 0 ∨ c.slots.size ≤ j.toNatClampNeg) := by
  rintro (q | q)
  · exact h1 q
  · rw [← H, Array.length_toList] at h2; omega
theorem OwnA.at {c : Cell} {vs : List Value} {j : Int32} {v : Value} (H : c.slots.toList = vs) (h : vs[j.toNatClampNeg]? = some v) : c.slots[j.toNatClampNeg]? = some v := by
  rw [← H] at h; simpa using h
theorem OwnA.size {c : Cell} {vs : List Value} {z : Int32} (H : c.slots.toList = vs) (h : vs.length = z.toNatClampNeg) : c.slots.size = z.toNatClampNeg := by
  rw [← h, ← H, Array.length_toList]
theorem OwnA.ofArv {Z : State} {h : Heap} {a : Addr} {k : ClassId} {ty : FieldType} {z : Int32} {vs : List Value} {d : Value} (F : Arv Z h a k ty z vs d) (hl : z.toNatClampNeg = vs.length) : OwnA Z h a k ty vs := by
  obtain ⟨c, A, r1, r2, r3, r4, r5⟩ := F
  refine ⟨c, A, r1, ?_⟩
  apply List.ext_getElem?
  intro i
  by_cases hi : i < c.slots.size
  · have q := r4 i hi
    rw [Array.getElem?_toList, q, List.getD_eq_getElem?_getD]
    rw [r2, hl] at hi
    rw [List.getElem?_eq_getElem hi]; rfl
  · rw [Array.getElem?_toList, Array.getElem?_eq_none (by omega), List.getElem?_eq_none (by omega)]
theorem OwnA.one {Z : State} {h : Heap} {a : Addr} {k k' : ClassId} {ty ty' : FieldType} {vs vs' : List Value} (F : OwnA Z h a k ty vs) (G : OwnA Z h a k' ty' vs') : vs = vs' := by
  obtain ⟨c, A, -, r⟩ := F
  obtain ⟨c', A', -, r'⟩ := G
  have q := A.1.symm.trans A'.1
  cases q
  rw [← r, ← r']
theorem own_fldOne {Z : State} {h : Heap} {a : Addr} {C n d : String} {v w : Value} (F : Fld Z h a C n d v) (G : Fld Z h a C n d w) : v = w := by
  obtain ⟨c, cf, k, i, f, h1, h2, h3, h4, h5, h6, h7⟩ := F
  obtain ⟨c', cf', k', i', f', g1, g2, g3, g4, g5, g6, g7⟩ := G
  have q := h1.symm.trans g1
  cases q
  have q := h2.symm.trans g2
  cases q
  have q := h7.symm.trans g7
  cases q
  rfl
theorem own_eqI {args : Array Value} {s : State} {u : Term} {k : Int32} (h : (Jvm.Cond.eq u (.int k)).value args s none s [] = some true) : u.eval args s none [] s = some (.int k) := by
  cases hv : u.eval args s none [] s with
  | none => simp [Cond.value, hv] at h
  | some v => cases v <;> simp [Cond.value, Term.eval, hv] at h ⊢ <;> exact h
theorem own_eqL {args : Array Value} {s : State} {u : Term} {k : Int64} (h : (Jvm.Cond.eq u (.long k)).value args s none s [] = some true) : u.eval args s none [] s = some (.long k) := by
  cases hv : u.eval args s none [] s with
  | none => simp [Cond.value, hv] at h
  | some v => cases v <;> simp [Cond.value, Term.eval, hv] at h ⊢ <;> exact h
theorem own_size {args : Array Value} {s : State} {u : Term} {a : Addr} {cl : Cell} {ty : FieldType} {k : Int32} (ev : u.eval args s none [] s = some (.ref a)) (A : Arr s s.heap a cl ty) (h : (Jvm.Cond.eq (.length u) (.int k)).value args s none s [] = some true) : cl.slots.size = k.toNatClampNeg := by
  have h1 := own_eqI h
  have h2 : s.arrayAt? a = some cl := A.fin (Vm.Alike.refl _)
  simp only [Term.eval, ev, h2, Option.bind_eq_bind, Option.bind_some] at h1
  split at h1
  · rename_i hl
    have h3 : cl.slots.size.toInt32 = k := by simpa using h1
    rw [← h3]
    have := len_toInt hl
    rw [Int32.toNatClampNeg, this]; rfl
  · simp at h1
theorem own_elL {args : Array Value} {s : State} {u : Term} {a : Addr} {cl : Cell} {ty : FieldType} {j : Int32} {k : Int64} (ev : u.eval args s none [] s = some (.ref a)) (A : Arr s s.heap a cl ty) (h : (Jvm.Cond.eq (.elem u (.int j)) (.long k)).value args s none s [] = some true) : cl.slots[j.toNatClampNeg]? = some (.long k) :=
  (elem_in (own_eqL h) ev (Term.int_eval _) A.1).2
theorem own_elI {args : Array Value} {s : State} {u : Term} {a : Addr} {cl : Cell} {ty : FieldType} {j k : Int32} (ev : u.eval args s none [] s = some (.ref a)) (A : Arr s s.heap a cl ty) (h : (Jvm.Cond.eq (.elem u (.int j)) (.int k)).value args s none s [] = some true) : cl.slots[j.toNatClampNeg]? = some (.int k) :=
  (elem_in (own_eqI h) ev (Term.int_eval _) A.1).2
theorem own_ne {args : Array Value} {s : State} {u : Term} {z k : Int32} (ev : u.eval args s none [] s = some (.int z)) (h : (Jvm.Cond.not (Jvm.Cond.eq u (.int k))).value args s none s [] = some true) : ¬ z = k := by
  have h2 := not_v h
  intro q
  subst q
  simp [Cond.value, Term.eval, ev] at h2
theorem own_in {i z : Int32} {cl : Cell} (S : cl.slots.size = z.toNatClampNeg) (h1 : ¬ i < 0) (h2 : i < z) : ¬ (i < 0 ∨ cl.slots.size ≤ i.toNatClampNeg) := by
  rintro (q | q)
  · exact h1 q
  · rw [S] at q
    rw [Int32.lt_iff_toInt_lt] at h1 h2
    have e0 : (0 : Int32).toInt = 0 := rfl
    have e1 : ((i.toNatClampNeg : Nat) : Int) = i.toInt := by rw [Int32.toNatClampNeg]; exact Int.toNat_of_nonneg (by omega)
    have e2 : ((z.toNatClampNeg : Nat) : Int) = z.toInt := by rw [Int32.toNatClampNeg]; exact Int.toNat_of_nonneg (by omega)
    omega
end Own

theorem pd_0 : parseMethodDescriptor "()B" = some ⟨[], some .byte⟩ := by decide +kernel
theorem pd_1 : parseMethodDescriptor "(IILjava/util/function/BiFunction;)I" = some ⟨[.int, .int, (.object "java/util/function/BiFunction")], some .int⟩ := by decide +kernel
theorem pd_2 : parseMethodDescriptor "(II)V" = some ⟨[.int, .int], none⟩ := by decide +kernel
theorem pd_3 : parseMethodDescriptor "()Z" = some ⟨[], some .boolean⟩ := by decide +kernel
theorem pd_4 : parseMethodDescriptor "([BI)C" = some ⟨[(.array .byte), .int], some .char⟩ := by decide +kernel
theorem pd_5 : parseMethodDescriptor "()Ljava/lang/String;" = some ⟨[], some (.object "java/lang/String")⟩ := by decide +kernel
theorem pd_6 : parseMethodDescriptor "()I" = some ⟨[], some .int⟩ := by decide +kernel
theorem pd_7 : parseMethodDescriptor "(I)C" = some ⟨[.int], some .char⟩ := by decide +kernel
theorem own_narC (b : Int32) : narrow .char (.int (b &&& 255)) = .int (b &&& 255) := by
  show Value.int ((b &&& 255).toUInt32.toUInt16.toUInt32.toInt32) = _
  rw [i2c_mask]
def QSame (r : Option Value) (h0 : Heap) (n0 : Nat) (v : Option Value) (h : Heap) (L : List Loc) : Prop := v = r ∧ Fr n0 L ∧ h = h0
theorem d3_0 : decode jdk_42_method_152_code 0 = .ok (.getstatic 38, 3) := by decide +kernel
theorem d3_3 : decode jdk_42_method_152_code 3 = .ok (.ifCond .eq 10, 3) := by decide +kernel
theorem d3_6 : decode jdk_42_method_152_code 6 = .ok (.aload_n 0, 1) := by decide +kernel
theorem d3_7 : decode jdk_42_method_152_code 7 = .ok (.getfield 15, 3) := by decide +kernel
theorem d3_10 : decode jdk_42_method_152_code 10 = .ok (.goto 4, 3) := by decide +kernel
theorem d3_13 : decode jdk_42_method_152_code 13 = .ok (.iconst 1, 1) := by decide +kernel
theorem d3_14 : decode jdk_42_method_152_code 14 = .ok (.ireturn, 1) := by decide +kernel
theorem pn_0 : plainName "java/lang/String" = true := by first | (simp [plainName, overriddenIn]; done) | decide +kernel
theorem ef_rmCoder (m : MethodId) (a : Addr) : entryFrame m #[(.ref a)] 1 = mkF m 0 #[.val (.ref a)] [] := by first | (simp [entryFrame, mkF, argsToLocals, Value.category, maxLocals]; done) | rfl
set_option maxRecDepth 65536 in
set_option maxHeartbeats 40000000 in
theorem rmCoder (l : Launch) (Z : State) (a0 : Array Value) (hw : ∀ d ∈ tables_1, d.before a0 Z = true) (ws : List Jvm.Cond) (a : Addr) (cz : Int32) (h0 : Heap) (n0 : Nat) (Z0 : n0 ≤ h0.size) (Cc : Fld Z h0 a "java/lang/String" "coder" "B" (.int 0)) (Sc : Sta Z h0 "java/lang/String" "COMPACT_STRINGS" "Z" (.int cz)) (hcz : ¬ cz = 0) :
    MetFree l (⟨"java/lang/String", "coder", "()B"⟩ : MethodName) (head1 (Jvm.Cond.code (⟨"java/lang/String", "coder", "()B"⟩ : MethodName) jdk_42_method_152_code (1 : Nat) (Option.some Jvm.ClassFile.FieldType.byte) :: ws) ({ frames := 0, cells := 0, slots := 0, locals := 0 } : Room)) (fun aZ UZ => aZ = #[(.ref a)] ∧ Z.Warmed39 UZ.vm ∧ UZ.heap = h0) (fun _ _ _ _ _ => True) (fun _ UZ oZ VZ => ∃ vZ LZ, oZ = .returned vZ ∧ (QSame (some (.int 0)) h0 n0) vZ VZ.heap LZ ∧ FrameEnd UZ oZ VZ LZ ({ frames := 0, cells := 0, slots := 0, locals := 0 } : Room).cells ({ frames := 0, cells := 0, slots := 0, locals := 0 } : Room).slots) := by
  refine MetFree.of_bodySF (plainFor_of_name pn_0) hisR ?_
  intro p e s m args below meth c s₁ Bd hml0 hP hK
  obtain ⟨rfl, hZ, hh⟩ := hP
  have hx := Bd.exec
  have hby := Bd.bytes
  have hml : c.maxLocals = 1 := hml0
  have hown : s.vm.findClass "java/lang/String" = some m.cls := findClass_of_methodNamed Bd.named
  have hnm := (name_of_methodNamed Bd.named Bd.method).1
  have X0 : Stand p l e ({ frames := 0, cells := 0, slots := 0, locals := 0 } : Room) s m #[(.ref a)] below meth c s₁ [] 0 0 := Stand.of_body Bd
  have e0 : s₁.heap = h0 := by rw [← hh, Bd.state]; rfl
  have N0 := Fr.nil n0
  show OwnG p e below (OwnE s (QSame (some (.int 0)) h0 n0) ({ frames := 0, cells := 0, slots := 0, locals := 0 } : Room).cells ({ frames := 0, cells := 0, slots := 0, locals := 0 } : Room).slots) _
  refine own_by (S' := s₁.setTop (mkF m 0 #[.val (.ref a)] [])) (fun tZ kZ => castTop (ef_rmCoder m a) kZ) ?_
  obtain ⟨T1, X1, e1, st1⟩ := getS2 X0 hx hZ hown (host := "") (Or.inl (hw _ (List.mem_of_getElem? (i := 23) rfl))) Via.refl e0 Sc (g := (mkF m 0 #[.val (.ref a)] [])) rfl (hb hby d3_0)
  refine own_by (S' := T1.setTop (mkF m 3 #[.val (.ref a)] [(.int cz)])) st1 ?_
  refine own_by (S' := T1.setTop (mkF m 6 #[.val (.ref a)] [])) (fun tZ kZ => XS.ifNo X1.here hx rfl (hb hby d3_3) rfl ((if0 _ _).trans (feq hcz).1) kZ) ?_
  refine own_by (S' := T1.setTop (mkF m 7 #[.val (.ref a)] [(.ref a)])) (fun tZ kZ => XS.aloadN X1.here hx rfl (hb hby d3_6) rfl rfl kZ) ?_
  obtain ⟨T2, X2, e2, st2⟩ := getF X1 hx hZ hown (host := "") (Or.inl (hw _ (List.mem_of_getElem? (i := 24) rfl))) Via.refl e1 Cc (g := (mkF m 7 #[.val (.ref a)] [(.ref a)])) rfl rfl (hb hby d3_7)
  refine own_by (S' := T2.setTop (mkF m 10 #[.val (.ref a)] [(.int (0 : Int32))])) st2 ?_
  refine own_by (S' := T2.setTop (mkF m 14 #[.val (.ref a)] [(.int (0 : Int32))])) (fun tZ kZ => XS.goto X2.here hx rfl (pc0 := 10) (pc' := 14) rfl (hb hby d3_10) (by decide) (by decide) kZ) ?_
  exact own_retI X2 hx (t := .byte) Bd.returns (by simp) rfl (hb hby d3_14) Bd.notSynchronized (by decide) (by decide) ⟨rfl, N0, e2⟩
theorem own_shr0 (z : Int32) : z >>> ((0 : Int32) &&& 31) = z := by
  have h : ((0 : Int32) &&& 31) = 0 := by decide
  rw [h]; exact Int32.shiftRight_zero
theorem d2_0 : decode jdk_42_method_54_code 0 = .ok (.aload_n 0, 1) := by decide +kernel
theorem d2_1 : decode jdk_42_method_54_code 1 = .ok (.getfield 9, 3) := by decide +kernel
theorem d2_4 : decode jdk_42_method_54_code 4 = .ok (.arraylength, 1) := by decide +kernel
theorem d2_5 : decode jdk_42_method_54_code 5 = .ok (.aload_n 0, 1) := by decide +kernel
theorem d2_6 : decode jdk_42_method_54_code 6 = .ok (.invokevirtual 335, 3) := by decide +kernel
theorem d2_9 : decode jdk_42_method_54_code 9 = .ok (.ishr, 1) := by decide +kernel
theorem d2_10 : decode jdk_42_method_54_code 10 = .ok (.ireturn, 1) := by decide +kernel
theorem ef_rmLen (m : MethodId) (a : Addr) : entryFrame m #[(.ref a)] 1 = mkF m 0 #[.val (.ref a)] [] := by first | (simp [entryFrame, mkF, argsToLocals, Value.category, maxLocals]; done) | rfl
set_option maxRecDepth 65536 in
set_option maxHeartbeats 40000000 in
theorem rmLen (l : Launch) (Z : State) (a0 : Array Value) (hw : ∀ d ∈ tables_1, d.before a0 Z = true) (ws : List Jvm.Cond) (a t : Addr) (z cz : Int32) (cl : Cell) (h0 : Heap) (n0 : Nat) (Z0 : n0 ≤ h0.size) (Ex : Exa Z h0 a "java/lang/String") (Vv : Fld Z h0 a "java/lang/String" "value" "[B" (.ref t)) (Cc : Fld Z h0 a "java/lang/String" "coder" "B" (.int 0)) (Ar : Arr Z h0 t cl .byte) (Sz : cl.slots.size = z.toNatClampNeg) (Nz : ¬ z < 0) (Sc : Sta Z h0 "java/lang/String" "COMPACT_STRINGS" "Z" (.int cz)) (hcz : ¬ cz = 0) :
    MetFree l (⟨"java/lang/String", "length", "()I"⟩ : MethodName) (head1 (Jvm.Cond.code (⟨"java/lang/String", "length", "()I"⟩ : MethodName) jdk_42_method_54_code (1 : Nat) (Option.some Jvm.ClassFile.FieldType.int) :: ws) ({ frames := 1, cells := 0, slots := 0, locals := 13 } : Room)) (fun aZ UZ => aZ = #[(.ref a)] ∧ Z.Warmed39 UZ.vm ∧ UZ.heap = h0) (fun _ _ _ _ _ => True) (fun _ UZ oZ VZ => ∃ vZ LZ, oZ = .returned vZ ∧ (QSame (some (.int z)) h0 n0) vZ VZ.heap LZ ∧ FrameEnd UZ oZ VZ LZ ({ frames := 1, cells := 0, slots := 0, locals := 13 } : Room).cells ({ frames := 1, cells := 0, slots := 0, locals := 13 } : Room).slots) := by
  refine MetFree.of_bodySF (plainFor_of_name pn_0) hisR ?_
  intro p e s m args below meth c s₁ Bd hml0 hP hK
  obtain ⟨rfl, hZ, hh⟩ := hP
  have hx := Bd.exec
  have hby := Bd.bytes
  have hml : c.maxLocals = 1 := hml0
  have hown : s.vm.findClass "java/lang/String" = some m.cls := findClass_of_methodNamed Bd.named
  have hnm := (name_of_methodNamed Bd.named Bd.method).1
  have X0 : Stand p l e ({ frames := 1, cells := 0, slots := 0, locals := 13 } : Room) s m #[(.ref a)] below meth c s₁ [] 0 0 := Stand.of_body Bd
  have e0 : s₁.heap = h0 := by rw [← hh, Bd.state]; rfl
  have N0 := Fr.nil n0
  show OwnG p e below (OwnE s (QSame (some (.int z)) h0 n0) ({ frames := 1, cells := 0, slots := 0, locals := 13 } : Room).cells ({ frames := 1, cells := 0, slots := 0, locals := 13 } : Room).slots) _
  refine own_by (S' := s₁.setTop (mkF m 0 #[.val (.ref a)] [])) (fun tZ kZ => castTop (ef_rmLen m a) kZ) ?_
  refine own_by (S' := s₁.setTop (mkF m 1 #[.val (.ref a)] [(.ref a)])) (fun tZ kZ => XS.aloadN X0.here hx rfl (hb hby d2_0) rfl rfl kZ) ?_
  obtain ⟨T1, X1, e1, st1⟩ := getF X0 hx hZ hown (host := "") (Or.inl (hw _ (List.mem_of_getElem? (i := 16) rfl))) Via.refl e0 Vv (g := (mkF m 1 #[.val (.ref a)] [(.ref a)])) rfl rfl (hb hby d2_1)
  refine own_by (S' := T1.setTop (mkF m 4 #[.val (.ref a)] [(.ref t)])) st1 ?_
  refine own_by (S' := T1.setTop (mkF m 5 #[.val (.ref a)] [(.int z)])) (fun tZ kZ => X1.arraylength hx (by rw [e1]; exact Ar.1) (State.isArrayOf_alike hZ.alike Ar.2.1) (g := (mkF m 4 #[.val (.ref a)] [(.ref t)])) rfl rfl (hb hby d2_4) _ (by rw [len_of Sz Nz]; exact kZ)) ?_
  refine own_by (S' := T1.setTop (mkF m 6 #[.val (.ref a)] [(.ref a), (.int z)])) (fun tZ kZ => XS.aloadN X1.here hx rfl (hb hby d2_5) rfl rfl kZ) ?_
  obtain ⟨cq2, kq2, q2a, q2b, q2c⟩ := isOf hZ e1 Ex
  obtain ⟨_, _, ⟨T2, L2, k2, n2⟩, -, X2, ⟨Lc2, hQ2, l2, y2, z2⟩, st2⟩ := X1.virtualBack hx (y := (⟨"java/lang/String", "coder", "()B"⟩ : MethodName)) (z := (⟨"java/lang/String", "coder", "()B"⟩ : MethodName)) hown (mvT hZ (hw _ (List.mem_of_getElem? (i := 18) rfl))) (mvT hZ (hw _ (List.mem_of_getElem? (i := 19) rfl))) (notFace_of_selects (args := #[]) (mvT hZ (hw _ (List.mem_of_getElem? (i := 21) rfl)))) (mvT hZ (hw _ (List.mem_of_getElem? (i := 21) rfl))) (mvT hZ (hw _ (List.mem_of_getElem? (i := 20) rfl))) (by decide) (backOf (W := 1) (rmCoder l Z a0 hw [] a cz h0 n0 Z0 Cc Sc hcz) hZ (hw _ (List.mem_of_getElem? (i := 22) rfl)) (hw _ (List.mem_of_getElem? (i := 14) rfl)) (by decide) (by decide)) q2a q2c (g := (mkF m 6 #[.val (.ref a)] [(.ref a), (.int z)])) rfl (by rw [hml]; rfl) (Steps.refl _) (argsL := []) (rest := [(.int z)]) (lenOf pd_0 rfl) rfl (by show 2 * 0 + _ ≤ _; exact Nat.le_of_eq rfl) (hb hby d2_6) (fun _ _ => ⟨rfl, e1, (by decide : 0 + 0 ≤ _), (by decide : 0 + 0 ≤ _)⟩)
  dsimp only [Pt.U, Pt.locs, Pt.cells, Pt.slots] at X2 l2 y2 z2 st2 hQ2
  subst l2 y2 z2
  obtain ⟨rfl, N2q, heq2⟩ := hQ2
  have N2 := Fr.app N0 N2q
  refine own_by (S' := T2.setTop (mkF m 9 #[.val (.ref a)] [(.int (0 : Int32)), (.int z)])) (fun tZ kZ => st2.trans kZ) ?_
  refine own_by (S' := T2.setTop (mkF m 10 #[.val (.ref a)] [(.int (z >>> ((0 : Int32) &&& 31)))])) (fun tZ kZ => XS.ishr X2.here hx rfl (hb hby d2_9) rfl kZ) ?_
  rw [own_shr0]
  exact own_retI X2 hx (t := .int) Bd.returns (by simp) rfl (hb hby d2_10) Bd.notSynchronized (by decide) (by decide) ⟨rfl, N2, heq2⟩
theorem d5_0 : decode jdk_42_method_154_code 0 = .ok (.getstatic 38, 3) := by decide +kernel
theorem d5_3 : decode jdk_42_method_154_code 3 = .ok (.ifCond .eq 14, 3) := by decide +kernel
theorem d5_6 : decode jdk_42_method_154_code 6 = .ok (.aload_n 0, 1) := by decide +kernel
theorem d5_7 : decode jdk_42_method_154_code 7 = .ok (.getfield 15, 3) := by decide +kernel
theorem d5_10 : decode jdk_42_method_154_code 10 = .ok (.ifCond .ne 7, 3) := by decide +kernel
theorem d5_13 : decode jdk_42_method_154_code 13 = .ok (.iconst 1, 1) := by decide +kernel
theorem d5_14 : decode jdk_42_method_154_code 14 = .ok (.goto 4, 3) := by decide +kernel
theorem d5_17 : decode jdk_42_method_154_code 17 = .ok (.iconst 0, 1) := by decide +kernel
theorem d5_18 : decode jdk_42_method_154_code 18 = .ok (.ireturn, 1) := by decide +kernel
theorem ef_rmIsL (m : MethodId) (a : Addr) : entryFrame m #[(.ref a)] 1 = mkF m 0 #[.val (.ref a)] [] := by first | (simp [entryFrame, mkF, argsToLocals, Value.category, maxLocals]; done) | rfl
set_option maxRecDepth 65536 in
set_option maxHeartbeats 40000000 in
theorem rmIsL (l : Launch) (Z : State) (a0 : Array Value) (hw : ∀ d ∈ tables_1, d.before a0 Z = true) (ws : List Jvm.Cond) (a : Addr) (cz : Int32) (h0 : Heap) (n0 : Nat) (Z0 : n0 ≤ h0.size) (Cc : Fld Z h0 a "java/lang/String" "coder" "B" (.int 0)) (Sc : Sta Z h0 "java/lang/String" "COMPACT_STRINGS" "Z" (.int cz)) (hcz : ¬ cz = 0) :
    MetFree l (⟨"java/lang/String", "isLatin1", "()Z"⟩ : MethodName) (head1 (Jvm.Cond.code (⟨"java/lang/String", "isLatin1", "()Z"⟩ : MethodName) jdk_42_method_154_code (1 : Nat) (Option.some Jvm.ClassFile.FieldType.boolean) :: ws) ({ frames := 0, cells := 0, slots := 0, locals := 0 } : Room)) (fun aZ UZ => aZ = #[(.ref a)] ∧ Z.Warmed39 UZ.vm ∧ UZ.heap = h0) (fun _ _ _ _ _ => True) (fun _ UZ oZ VZ => ∃ vZ LZ, oZ = .returned vZ ∧ (QSame (some (.int 1)) h0 n0) vZ VZ.heap LZ ∧ FrameEnd UZ oZ VZ LZ ({ frames := 0, cells := 0, slots := 0, locals := 0 } : Room).cells ({ frames := 0, cells := 0, slots := 0, locals := 0 } : Room).slots) := by
  refine MetFree.of_bodySF (plainFor_of_name pn_0) hisR ?_
  intro p e s m args below meth c s₁ Bd hml0 hP hK
  obtain ⟨rfl, hZ, hh⟩ := hP
  have hx := Bd.exec
  have hby := Bd.bytes
  have hml : c.maxLocals = 1 := hml0
  have hown : s.vm.findClass "java/lang/String" = some m.cls := findClass_of_methodNamed Bd.named
  have hnm := (name_of_methodNamed Bd.named Bd.method).1
  have X0 : Stand p l e ({ frames := 0, cells := 0, slots := 0, locals := 0 } : Room) s m #[(.ref a)] below meth c s₁ [] 0 0 := Stand.of_body Bd
  have e0 : s₁.heap = h0 := by rw [← hh, Bd.state]; rfl
  have N0 := Fr.nil n0
  show OwnG p e below (OwnE s (QSame (some (.int 1)) h0 n0) ({ frames := 0, cells := 0, slots := 0, locals := 0 } : Room).cells ({ frames := 0, cells := 0, slots := 0, locals := 0 } : Room).slots) _
  refine own_by (S' := s₁.setTop (mkF m 0 #[.val (.ref a)] [])) (fun tZ kZ => castTop (ef_rmIsL m a) kZ) ?_
  obtain ⟨T1, X1, e1, st1⟩ := getS2 X0 hx hZ hown (host := "") (Or.inl (hw _ (List.mem_of_getElem? (i := 23) rfl))) Via.refl e0 Sc (g := (mkF m 0 #[.val (.ref a)] [])) rfl (hb hby d5_0)
  refine own_by (S' := T1.setTop (mkF m 3 #[.val (.ref a)] [(.int cz)])) st1 ?_
  refine own_by (S' := T1.setTop (mkF m 6 #[.val (.ref a)] [])) (fun tZ kZ => XS.ifNo X1.here hx rfl (hb hby d5_3) rfl ((if0 _ _).trans (feq hcz).1) kZ) ?_
  refine own_by (S' := T1.setTop (mkF m 7 #[.val (.ref a)] [(.ref a)])) (fun tZ kZ => XS.aloadN X1.here hx rfl (hb hby d5_6) rfl rfl kZ) ?_
  obtain ⟨T2, X2, e2, st2⟩ := getF X1 hx hZ hown (host := "") (Or.inl (hw _ (List.mem_of_getElem? (i := 24) rfl))) Via.refl e1 Cc (g := (mkF m 7 #[.val (.ref a)] [(.ref a)])) rfl rfl (hb hby d5_7)
  refine own_by (S' := T2.setTop (mkF m 10 #[.val (.ref a)] [(.int (0 : Int32))])) st2 ?_
  refine own_by (S' := T2.setTop (mkF m 13 #[.val (.ref a)] [])) (fun tZ kZ => XS.ifNo X2.here hx rfl (hb hby d5_10) rfl ((if0 _ _).trans (teq rfl).2) kZ) ?_
  refine own_by (S' := T2.setTop (mkF m 14 #[.val (.ref a)] [(.int (1 : Int32))])) (fun tZ kZ => XS.iconst X2.here hx rfl (hb hby d5_13) kZ) ?_
  refine own_by (S' := T2.setTop (mkF m 18 #[.val (.ref a)] [(.int (1 : Int32))])) (fun tZ kZ => XS.goto X2.here hx rfl (pc0 := 14) (pc' := 18) rfl (hb hby d5_14) (by decide) (by decide) kZ) ?_
  exact own_retI X2 hx (t := .boolean) Bd.returns (by simp) rfl (hb hby d5_18) Bd.notSynchronized (by decide) (by decide) ⟨rfl, N0, e2⟩
theorem d8_0 : decode jdk_41_method_11_code 0 = .ok (.iload_n 0, 1) := by decide +kernel
theorem d8_1 : decode jdk_41_method_11_code 1 = .ok (.ifCond .lt 8, 3) := by decide +kernel
theorem d8_4 : decode jdk_41_method_11_code 4 = .ok (.iload_n 0, 1) := by decide +kernel
theorem d8_5 : decode jdk_41_method_11_code 5 = .ok (.iload_n 1, 1) := by decide +kernel
theorem d8_6 : decode jdk_41_method_11_code 6 = .ok (.if_icmp .lt 10, 3) := by decide +kernel
theorem d8_9 : decode jdk_41_method_11_code 9 = .ok (.aload_n 2, 1) := by decide +kernel
theorem d8_10 : decode jdk_41_method_11_code 10 = .ok (.iload_n 0, 1) := by decide +kernel
theorem d8_11 : decode jdk_41_method_11_code 11 = .ok (.iload_n 1, 1) := by decide +kernel
theorem d8_12 : decode jdk_41_method_11_code 12 = .ok (.invokestatic 95, 3) := by decide +kernel
theorem d8_15 : decode jdk_41_method_11_code 15 = .ok (.athrow, 1) := by decide +kernel
theorem d8_16 : decode jdk_41_method_11_code 16 = .ok (.iload_n 0, 1) := by decide +kernel
theorem d8_17 : decode jdk_41_method_11_code 17 = .ok (.ireturn, 1) := by decide +kernel
theorem pn_1 : plainName "jdk/internal/util/Preconditions" = true := by first | (simp [plainName, overriddenIn]; done) | decide +kernel
theorem ef_rmPCI (m : MethodId) (i : Int32) (z : Int32) (fm : Value) (rf : fm.isRef = true) : entryFrame m #[(.int i), (.int z), fm] 3 = mkF m 0 #[.val (.int i), .val (.int z), .val fm] [] := by rcases ref_cases rf with rfl | ⟨f, rfl⟩ <;> rfl
set_option maxRecDepth 65536 in
set_option maxHeartbeats 40000000 in
theorem rmPCI (l : Launch) (Z : State) (a0 : Array Value) (hw : ∀ d ∈ tables_1, d.before a0 Z = true) (ws : List Jvm.Cond) (i z : Int32) (fm : Value) (h0 : Heap) (n0 : Nat) (Z0 : n0 ≤ h0.size) (h1 : ¬ i < 0) (h2 : i < z) (rf : fm.isRef = true) :
    MetFree l (⟨"jdk/internal/util/Preconditions", "checkIndex", "(IILjava/util/function/BiFunction;)I"⟩ : MethodName) (head1 (Jvm.Cond.code (⟨"jdk/internal/util/Preconditions", "checkIndex", "(IILjava/util/function/BiFunction;)I"⟩ : MethodName) jdk_41_method_11_code (3 : Nat) (Option.some Jvm.ClassFile.FieldType.int) :: ws) ({ frames := 0, cells := 0, slots := 0, locals := 0 } : Room)) (fun aZ UZ => aZ = #[(.int i), (.int z), fm] ∧ Z.Warmed39 UZ.vm ∧ UZ.heap = h0) (fun _ _ _ _ _ => True) (fun _ UZ oZ VZ => ∃ vZ LZ, oZ = .returned vZ ∧ (QSame (some (.int i)) h0 n0) vZ VZ.heap LZ ∧ FrameEnd UZ oZ VZ LZ ({ frames := 0, cells := 0, slots := 0, locals := 0 } : Room).cells ({ frames := 0, cells := 0, slots := 0, locals := 0 } : Room).slots) := by
  refine MetFree.of_bodySF (plainFor_of_name pn_1) hisR ?_
  intro p e s m args below meth c s₁ Bd hml0 hP hK
  obtain ⟨rfl, hZ, hh⟩ := hP
  have hx := Bd.exec
  have hby := Bd.bytes
  have hml : c.maxLocals = 3 := hml0
  have hown : s.vm.findClass "jdk/internal/util/Preconditions" = some m.cls := findClass_of_methodNamed Bd.named
  have hnm := (name_of_methodNamed Bd.named Bd.method).1
  have X0 : Stand p l e ({ frames := 0, cells := 0, slots := 0, locals := 0 } : Room) s m #[(.int i), (.int z), fm] below meth c s₁ [] 0 0 := Stand.of_body Bd
  have e0 : s₁.heap = h0 := by rw [← hh, Bd.state]; rfl
  have N0 := Fr.nil n0
  show OwnG p e below (OwnE s (QSame (some (.int i)) h0 n0) ({ frames := 0, cells := 0, slots := 0, locals := 0 } : Room).cells ({ frames := 0, cells := 0, slots := 0, locals := 0 } : Room).slots) _
  refine own_by (S' := s₁.setTop (mkF m 0 #[.val (.int i), .val (.int z), .val fm] [])) (fun tZ kZ => castTop (ef_rmPCI m i z fm rf) kZ) ?_
  refine own_by (S' := s₁.setTop (mkF m 1 #[.val (.int i), .val (.int z), .val fm] [(.int i)])) (fun tZ kZ => XS.iloadN X0.here hx rfl (hb hby d8_0) rfl kZ) ?_
  refine own_by (S' := s₁.setTop (mkF m 4 #[.val (.int i), .val (.int z), .val fm] [])) (fun tZ kZ => XS.ifNo X0.here hx rfl (hb hby d8_1) rfl ((if0 _ _).trans (flt h1).1) kZ) ?_
  refine own_by (S' := s₁.setTop (mkF m 5 #[.val (.int i), .val (.int z), .val fm] [(.int i)])) (fun tZ kZ => XS.iloadN X0.here hx rfl (hb hby d8_4) rfl kZ) ?_
  refine own_by (S' := s₁.setTop (mkF m 6 #[.val (.int i), .val (.int z), .val fm] [(.int z), (.int i)])) (fun tZ kZ => XS.iloadN X0.here hx rfl (hb hby d8_5) rfl kZ) ?_
  refine own_by (S' := s₁.setTop (mkF m 16 #[.val (.int i), .val (.int z), .val fm] [])) (fun tZ kZ => XS.icmpYes X0.here hx rfl (pc0 := 6) (pc' := 16) rfl (hb hby d8_6) rfl (tlt h2).1 (by decide) (by decide) kZ) ?_
  refine own_by (S' := s₁.setTop (mkF m 17 #[.val (.int i), .val (.int z), .val fm] [(.int i)])) (fun tZ kZ => XS.iloadN X0.here hx rfl (hb hby d8_16) rfl kZ) ?_
  exact own_retI X0 hx (t := .int) Bd.returns (by simp) rfl (hb hby d8_17) Bd.notSynchronized (by decide) (by decide) ⟨rfl, N0, e0⟩
theorem d7_0 : decode jdk_42_method_155_code 0 = .ok (.iload_n 0, 1) := by decide +kernel
theorem d7_1 : decode jdk_42_method_155_code 1 = .ok (.iload_n 1, 1) := by decide +kernel
theorem d7_2 : decode jdk_42_method_155_code 2 = .ok (.getstatic 1053, 3) := by decide +kernel
theorem d7_5 : decode jdk_42_method_155_code 5 = .ok (.invokestatic 1059, 3) := by decide +kernel
theorem d7_8 : decode jdk_42_method_155_code 8 = .ok (.pop, 1) := by decide +kernel
theorem d7_9 : decode jdk_42_method_155_code 9 = .ok (.return_, 1) := by decide +kernel
theorem ef_rmCI (m : MethodId) (i : Int32) (z : Int32) : entryFrame m #[(.int i), (.int z)] 2 = mkF m 0 #[.val (.int i), .val (.int z)] [] := by first | (simp [entryFrame, mkF, argsToLocals, Value.category, maxLocals]; done) | rfl
set_option maxRecDepth 65536 in
set_option maxHeartbeats 40000000 in
theorem rmCI (l : Launch) (Z : State) (a0 : Array Value) (hw : ∀ d ∈ tables_1, d.before a0 Z = true) (ws : List Jvm.Cond) (i z : Int32) (fm : Value) (h0 : Heap) (n0 : Nat) (Z0 : n0 ≤ h0.size) (h1 : ¬ i < 0) (h2 : i < z) (Sf : Sta Z h0 "jdk/internal/util/Preconditions" "SIOOBE_FORMATTER" "Ljava/util/function/BiFunction;" fm) (rf : fm.isRef = true) :
    MetFree l (⟨"java/lang/String", "checkIndex", "(II)V"⟩ : MethodName) (head1 (Jvm.Cond.code (⟨"java/lang/String", "checkIndex", "(II)V"⟩ : MethodName) jdk_42_method_155_code (2 : Nat) (Option.none : Option Jvm.ClassFile.FieldType) :: ws) ({ frames := 1, cells := 0, slots := 0, locals := 14 } : Room)) (fun aZ UZ => aZ = #[(.int i), (.int z)] ∧ Z.Warmed39 UZ.vm ∧ UZ.heap = h0) (fun _ _ _ _ _ => True) (fun _ UZ oZ VZ => ∃ vZ LZ, oZ = .returned vZ ∧ (QSame none h0 n0) vZ VZ.heap LZ ∧ FrameEnd UZ oZ VZ LZ ({ frames := 1, cells := 0, slots := 0, locals := 14 } : Room).cells ({ frames := 1, cells := 0, slots := 0, locals := 14 } : Room).slots) := by
  refine MetFree.of_bodySF (plainFor_of_name pn_0) hisR ?_
  intro p e s m args below meth c s₁ Bd hml0 hP hK
  obtain ⟨rfl, hZ, hh⟩ := hP
  have hx := Bd.exec
  have hby := Bd.bytes
  have hml : c.maxLocals = 2 := hml0
  have hown : s.vm.findClass "java/lang/String" = some m.cls := findClass_of_methodNamed Bd.named
  have hnm := (name_of_methodNamed Bd.named Bd.method).1
  have X0 : Stand p l e ({ frames := 1, cells := 0, slots := 0, locals := 14 } : Room) s m #[(.int i), (.int z)] below meth c s₁ [] 0 0 := Stand.of_body Bd
  have e0 : s₁.heap = h0 := by rw [← hh, Bd.state]; rfl
  have N0 := Fr.nil n0
  show OwnG p e below (OwnE s (QSame none h0 n0) ({ frames := 1, cells := 0, slots := 0, locals := 14 } : Room).cells ({ frames := 1, cells := 0, slots := 0, locals := 14 } : Room).slots) _
  refine own_by (S' := s₁.setTop (mkF m 0 #[.val (.int i), .val (.int z)] [])) (fun tZ kZ => castTop (ef_rmCI m i z) kZ) ?_
  refine own_by (S' := s₁.setTop (mkF m 1 #[.val (.int i), .val (.int z)] [(.int i)])) (fun tZ kZ => XS.iloadN X0.here hx rfl (hb hby d7_0) rfl kZ) ?_
  refine own_by (S' := s₁.setTop (mkF m 2 #[.val (.int i), .val (.int z)] [(.int z), (.int i)])) (fun tZ kZ => XS.iloadN X0.here hx rfl (hb hby d7_1) rfl kZ) ?_
  obtain ⟨T1, X1, e1, st1⟩ := getS2 X0 hx hZ hown (host := "") (Or.inl (hw _ (List.mem_of_getElem? (i := 43) rfl))) Via.refl e0 Sf (g := (mkF m 2 #[.val (.int i), .val (.int z)] [(.int z), (.int i)])) rfl (hb hby d7_2)
  refine own_by (S' := T1.setTop (mkF m 5 #[.val (.int i), .val (.int z)] [fm, (.int z), (.int i)])) st1 ?_
  obtain ⟨_, _, ⟨T2, L2, k2, n2⟩, -, X2, ⟨Lc2, hQ2, l2, y2, z2⟩, st2⟩ := Jvm.LawKit.callS X1 hx (y := (⟨"jdk/internal/util/Preconditions", "checkIndex", "(IILjava/util/function/BiFunction;)I"⟩ : MethodName)) hown (mvT hZ (hw _ (List.mem_of_getElem? (i := 45) rfl))) (mvT hZ (hw _ (List.mem_of_getElem? (i := 46) rfl))) (mvT hZ (hw _ (List.mem_of_getElem? (i := 44) rfl))) (mvT hZ (hw _ (List.mem_of_getElem? (i := 47) rfl))) (by decide) (backOf (W := 0) (rmPCI l Z a0 hw [] i z fm h0 n0 Z0 h1 h2 rf) hZ (hw _ (List.mem_of_getElem? (i := 47) rfl)) (hw _ (List.mem_of_getElem? (i := 44) rfl)) (by decide) (by decide)) (g := (mkF m 5 #[.val (.int i), .val (.int z)] [fm, (.int z), (.int i)])) rfl (by rw [hml]; rfl) (argsL := [(.int i), (.int z), fm]) (rest := []) (lenOf pd_1 rfl) rfl (by show 2 * 0 + _ ≤ _; exact Nat.le_of_eq rfl) (hb hby d7_5) (fun _ _ => ⟨rfl, e1, (by decide : 0 + 0 ≤ _), (by decide : 0 + 0 ≤ _)⟩)
  dsimp only [Pt.U, Pt.locs, Pt.cells, Pt.slots] at X2 l2 y2 z2 st2 hQ2
  subst l2 y2 z2
  obtain ⟨rfl, N2q, heq2⟩ := hQ2
  have N2 := Fr.app N0 N2q
  refine own_by (S' := T2.setTop (mkF m 8 #[.val (.int i), .val (.int z)] [(.int i)])) (fun tZ kZ => st2 _ kZ) ?_
  refine own_by (S' := T2.setTop (mkF m 9 #[.val (.int i), .val (.int z)] [])) (fun tZ kZ => XS.pop X2.here hx rfl (hb hby d7_8) rfl rfl kZ) ?_
  exact own_ret0 X2 hx Bd.returns (hb hby d7_9) Bd.notSynchronized (by decide) (by decide) ⟨rfl, N2, heq2⟩
theorem d6_0 : decode jdk_43_method_2_code 0 = .ok (.iload_n 1, 1) := by decide +kernel
theorem d6_1 : decode jdk_43_method_2_code 1 = .ok (.aload_n 0, 1) := by decide +kernel
theorem d6_2 : decode jdk_43_method_2_code 2 = .ok (.arraylength, 1) := by decide +kernel
theorem d6_3 : decode jdk_43_method_2_code 3 = .ok (.invokestatic 9, 3) := by decide +kernel
theorem d6_6 : decode jdk_43_method_2_code 6 = .ok (.aload_n 0, 1) := by decide +kernel
theorem d6_7 : decode jdk_43_method_2_code 7 = .ok (.iload_n 1, 1) := by decide +kernel
theorem d6_8 : decode jdk_43_method_2_code 8 = .ok (.baload, 1) := by decide +kernel
theorem d6_9 : decode jdk_43_method_2_code 9 = .ok (.sipush 255, 3) := by decide +kernel
theorem d6_12 : decode jdk_43_method_2_code 12 = .ok (.iand, 1) := by decide +kernel
theorem d6_13 : decode jdk_43_method_2_code 13 = .ok (.i2c, 1) := by decide +kernel
theorem d6_14 : decode jdk_43_method_2_code 14 = .ok (.ireturn, 1) := by decide +kernel
theorem pn_2 : plainName "java/lang/StringLatin1" = true := by first | (simp [plainName, overriddenIn]; done) | decide +kernel
theorem ef_rmLCh (m : MethodId) (t : Addr) (i : Int32) : entryFrame m #[(.ref t), (.int i)] 2 = mkF m 0 #[.val (.ref t), .val (.int i)] [] := by first | (simp [entryFrame, mkF, argsToLocals, Value.category, maxLocals]; done) | rfl
set_option maxRecDepth 65536 in
set_option maxHeartbeats 40000000 in
theorem rmLCh (l : Launch) (Z : State) (a0 : Array Value) (hw : ∀ d ∈ tables_1, d.before a0 Z = true) (ws : List Jvm.Cond) (t : Addr) (i z b : Int32) (cl : Cell) (fm : Value) (h0 : Heap) (n0 : Nat) (Z0 : n0 ≤ h0.size) (Ar : Arr Z h0 t cl .byte) (Sz : cl.slots.size = z.toNatClampNeg) (Nz : ¬ z < 0) (h1 : ¬ i < 0) (h2 : i < z) (hat : cl.slots[i.toNatClampNeg]? = some (.int b)) (Sf : Sta Z h0 "jdk/internal/util/Preconditions" "SIOOBE_FORMATTER" "Ljava/util/function/BiFunction;" fm) (rf : fm.isRef = true) :
    MetFree l (⟨"java/lang/StringLatin1", "charAt", "([BI)C"⟩ : MethodName) (head1 (Jvm.Cond.code (⟨"java/lang/StringLatin1", "charAt", "([BI)C"⟩ : MethodName) jdk_43_method_2_code (2 : Nat) (Option.some Jvm.ClassFile.FieldType.char) :: ws) ({ frames := 2, cells := 0, slots := 0, locals := 27 } : Room)) (fun aZ UZ => aZ = #[(.ref t), (.int i)] ∧ Z.Warmed39 UZ.vm ∧ UZ.heap = h0) (fun _ _ _ _ _ => True) (fun _ UZ oZ VZ => ∃ vZ LZ, oZ = .returned vZ ∧ (QSame (some (.int (b &&& 255))) h0 n0) vZ VZ.heap LZ ∧ FrameEnd UZ oZ VZ LZ ({ frames := 2, cells := 0, slots := 0, locals := 27 } : Room).cells ({ frames := 2, cells := 0, slots := 0, locals := 27 } : Room).slots) := by
  refine MetFree.of_bodySF (plainFor_of_name pn_2) hisR ?_
  intro p e s m args below meth c s₁ Bd hml0 hP hK
  obtain ⟨rfl, hZ, hh⟩ := hP
  have hx := Bd.exec
  have hby := Bd.bytes
  have hml : c.maxLocals = 2 := hml0
  have hown : s.vm.findClass "java/lang/StringLatin1" = some m.cls := findClass_of_methodNamed Bd.named
  have hnm := (name_of_methodNamed Bd.named Bd.method).1
  have X0 : Stand p l e ({ frames := 2, cells := 0, slots := 0, locals := 27 } : Room) s m #[(.ref t), (.int i)] below meth c s₁ [] 0 0 := Stand.of_body Bd
  have e0 : s₁.heap = h0 := by rw [← hh, Bd.state]; rfl
  have N0 := Fr.nil n0
  show OwnG p e below (OwnE s (QSame (some (.int (b &&& 255))) h0 n0) ({ frames := 2, cells := 0, slots := 0, locals := 27 } : Room).cells ({ frames := 2, cells := 0, slots := 0, locals := 27 } : Room).slots) _
  refine own_by (S' := s₁.setTop (mkF m 0 #[.val (.ref t), .val (.int i)] [])) (fun tZ kZ => castTop (ef_rmLCh m t i) kZ) ?_
  refine own_by (S' := s₁.setTop (mkF m 1 #[.val (.ref t), .val (.int i)] [(.int i)])) (fun tZ kZ => XS.iloadN X0.here hx rfl (hb hby d6_0) rfl kZ) ?_
  refine own_by (S' := s₁.setTop (mkF m 2 #[.val (.ref t), .val (.int i)] [(.ref t), (.int i)])) (fun tZ kZ => XS.aloadN X0.here hx rfl (hb hby d6_1) rfl rfl kZ) ?_
  refine own_by (S' := s₁.setTop (mkF m 3 #[.val (.ref t), .val (.int i)] [(.int z), (.int i)])) (fun tZ kZ => X0.arraylength hx (by rw [e0]; exact Ar.1) (State.isArrayOf_alike hZ.alike Ar.2.1) (g := (mkF m 2 #[.val (.ref t), .val (.int i)] [(.ref t), (.int i)])) rfl rfl (hb hby d6_2) _ (by rw [len_of Sz Nz]; exact kZ)) ?_
  obtain ⟨_, _, ⟨T1, L1, k1, n1⟩, -, X1, ⟨Lc1, hQ1, l1, y1, z1⟩, st1⟩ := Jvm.LawKit.callS X0 hx (y := (⟨"java/lang/String", "checkIndex", "(II)V"⟩ : MethodName)) hown (mvT hZ (hw _ (List.mem_of_getElem? (i := 40) rfl))) (mvT hZ (hw _ (List.mem_of_getElem? (i := 41) rfl))) (mvT hZ (hw _ (List.mem_of_getElem? (i := 14) rfl))) (mvT hZ (hw _ (List.mem_of_getElem? (i := 42) rfl))) (by decide) (backOf (W := 0) (rmCI l Z a0 hw [] i z fm h0 n0 Z0 h1 h2 Sf rf) hZ (hw _ (List.mem_of_getElem? (i := 42) rfl)) (hw _ (List.mem_of_getElem? (i := 14) rfl)) (by decide) (by decide)) (g := (mkF m 3 #[.val (.ref t), .val (.int i)] [(.int z), (.int i)])) rfl (by rw [hml]; rfl) (argsL := [(.int i), (.int z)]) (rest := []) (lenOf pd_2 rfl) rfl (by show 2 * 0 + _ ≤ _; exact Nat.le_of_eq rfl) (hb hby d6_3) (fun _ _ => ⟨rfl, e0, (by decide : 0 + 0 ≤ _), (by decide : 0 + 0 ≤ _)⟩)
  dsimp only [Pt.U, Pt.locs, Pt.cells, Pt.slots] at X1 l1 y1 z1 st1 hQ1
  subst l1 y1 z1
  obtain ⟨rfl, N1q, heq1⟩ := hQ1
  have N1 := Fr.app N0 N1q
  refine own_by (S' := T1.setTop (mkF m 6 #[.val (.ref t), .val (.int i)] [])) (fun tZ kZ => st1 _ kZ) ?_
  refine own_by (S' := T1.setTop (mkF m 7 #[.val (.ref t), .val (.int i)] [(.ref t)])) (fun tZ kZ => XS.aloadN X1.here hx rfl (hb hby d6_6) rfl rfl kZ) ?_
  refine own_by (S' := T1.setTop (mkF m 8 #[.val (.ref t), .val (.int i)] [(.int i), (.ref t)])) (fun tZ kZ => XS.iloadN X1.here hx rfl (hb hby d6_7) rfl kZ) ?_
  refine own_by (S' := T1.setTop (mkF m 9 #[.val (.ref t), .val (.int i)] [(.int b)])) (fun tZ kZ => X1.baloadBytes hx (j := i) (v := (.int b)) (by rw [heq1]; exact Ar.1) (State.isArrayOf_alike hZ.alike Ar.2.1) Ar.2.2 (own_in Sz h1 h2) hat (g := (mkF m 8 #[.val (.ref t), .val (.int i)] [(.int i), (.ref t)])) rfl rfl (hb hby d6_8) _ kZ) ?_
  refine own_by (S' := T1.setTop (mkF m 12 #[.val (.ref t), .val (.int i)] [(.int (255 : Int32)), (.int b)])) (fun tZ kZ => XS.sipush X1.here hx rfl (hb hby d6_9) kZ) ?_
  refine own_by (S' := T1.setTop (mkF m 13 #[.val (.ref t), .val (.int i)] [(.int (b &&& (255 : Int32)))])) (fun tZ kZ => XS.iand X1.here hx rfl (hb hby d6_12) rfl kZ) ?_
  refine own_by (S' := T1.setTop (mkF m 14 #[.val (.ref t), .val (.int i)] [(.int ((b &&& (255 : Int32)).toUInt32.toUInt16.toUInt32.toInt32))])) (fun tZ kZ => XS.i2c X1.here hx rfl (hb hby d6_13) rfl kZ) ?_
  rw [i2c_mask]
  exact own_retI X1 hx (t := .char) Bd.returns (by simp) (own_narC b) (hb hby d6_14) Bd.notSynchronized (by decide) (by decide) ⟨rfl, N1, heq1⟩
theorem d4_0 : decode jdk_42_method_56_code 0 = .ok (.aload_n 0, 1) := by decide +kernel
theorem d4_1 : decode jdk_42_method_56_code 1 = .ok (.invokevirtual 492, 3) := by decide +kernel
theorem d4_4 : decode jdk_42_method_56_code 4 = .ok (.ifCond .eq 12, 3) := by decide +kernel
theorem d4_7 : decode jdk_42_method_56_code 7 = .ok (.aload_n 0, 1) := by decide +kernel
theorem d4_8 : decode jdk_42_method_56_code 8 = .ok (.getfield 9, 3) := by decide +kernel
theorem d4_11 : decode jdk_42_method_56_code 11 = .ok (.iload_n 1, 1) := by decide +kernel
theorem d4_12 : decode jdk_42_method_56_code 12 = .ok (.invokestatic 495, 3) := by decide +kernel
theorem d4_15 : decode jdk_42_method_56_code 15 = .ok (.ireturn, 1) := by decide +kernel
theorem d4_16 : decode jdk_42_method_56_code 16 = .ok (.aload_n 0, 1) := by decide +kernel
theorem d4_17 : decode jdk_42_method_56_code 17 = .ok (.getfield 9, 3) := by decide +kernel
theorem d4_20 : decode jdk_42_method_56_code 20 = .ok (.iload_n 1, 1) := by decide +kernel
theorem d4_21 : decode jdk_42_method_56_code 21 = .ok (.invokestatic 498, 3) := by decide +kernel
theorem d4_24 : decode jdk_42_method_56_code 24 = .ok (.ireturn, 1) := by decide +kernel
theorem ef_rmCh (m : MethodId) (a : Addr) (i : Int32) : entryFrame m #[(.ref a), (.int i)] 2 = mkF m 0 #[.val (.ref a), .val (.int i)] [] := by first | (simp [entryFrame, mkF, argsToLocals, Value.category, maxLocals]; done) | rfl
set_option maxRecDepth 65536 in
set_option maxHeartbeats 40000000 in
theorem rmCh (l : Launch) (Z : State) (a0 : Array Value) (hw : ∀ d ∈ tables_1, d.before a0 Z = true) (ws : List Jvm.Cond) (a t : Addr) (z cz : Int32) (cl : Cell) (i b : Int32) (fm : Value) (h0 : Heap) (n0 : Nat) (Z0 : n0 ≤ h0.size) (Ex : Exa Z h0 a "java/lang/String") (Vv : Fld Z h0 a "java/lang/String" "value" "[B" (.ref t)) (Cc : Fld Z h0 a "java/lang/String" "coder" "B" (.int 0)) (Ar : Arr Z h0 t cl .byte) (Sz : cl.slots.size = z.toNatClampNeg) (Nz : ¬ z < 0) (Sc : Sta Z h0 "java/lang/String" "COMPACT_STRINGS" "Z" (.int cz)) (hcz : ¬ cz = 0) (h1 : ¬ i < 0) (h2 : i < z) (hat : cl.slots[i.toNatClampNeg]? = some (.int b)) (Sf : Sta Z h0 "jdk/internal/util/Preconditions" "SIOOBE_FORMATTER" "Ljava/util/function/BiFunction;" fm) (rf : fm.isRef = true) :
    MetFree l (⟨"java/lang/String", "charAt", "(I)C"⟩ : MethodName) (head1 (Jvm.Cond.code (⟨"java/lang/String", "charAt", "(I)C"⟩ : MethodName) jdk_42_method_56_code (2 : Nat) (Option.some Jvm.ClassFile.FieldType.char) :: ws) ({ frames := 3, cells := 0, slots := 0, locals := 40 } : Room)) (fun aZ UZ => aZ = #[(.ref a), (.int i)] ∧ Z.Warmed39 UZ.vm ∧ UZ.heap = h0) (fun _ _ _ _ _ => True) (fun _ UZ oZ VZ => ∃ vZ LZ, oZ = .returned vZ ∧ (QSame (some (.int (b &&& 255))) h0 n0) vZ VZ.heap LZ ∧ FrameEnd UZ oZ VZ LZ ({ frames := 3, cells := 0, slots := 0, locals := 40 } : Room).cells ({ frames := 3, cells := 0, slots := 0, locals := 40 } : Room).slots) := by
  refine MetFree.of_bodySF (plainFor_of_name pn_0) hisR ?_
  intro p e s m args below meth c s₁ Bd hml0 hP hK
  obtain ⟨rfl, hZ, hh⟩ := hP
  have hx := Bd.exec
  have hby := Bd.bytes
  have hml : c.maxLocals = 2 := hml0
  have hown : s.vm.findClass "java/lang/String" = some m.cls := findClass_of_methodNamed Bd.named
  have hnm := (name_of_methodNamed Bd.named Bd.method).1
  have X0 : Stand p l e ({ frames := 3, cells := 0, slots := 0, locals := 40 } : Room) s m #[(.ref a), (.int i)] below meth c s₁ [] 0 0 := Stand.of_body Bd
  have e0 : s₁.heap = h0 := by rw [← hh, Bd.state]; rfl
  have N0 := Fr.nil n0
  show OwnG p e below (OwnE s (QSame (some (.int (b &&& 255))) h0 n0) ({ frames := 3, cells := 0, slots := 0, locals := 40 } : Room).cells ({ frames := 3, cells := 0, slots := 0, locals := 40 } : Room).slots) _
  refine own_by (S' := s₁.setTop (mkF m 0 #[.val (.ref a), .val (.int i)] [])) (fun tZ kZ => castTop (ef_rmCh m a i) kZ) ?_
  refine own_by (S' := s₁.setTop (mkF m 1 #[.val (.ref a), .val (.int i)] [(.ref a)])) (fun tZ kZ => XS.aloadN X0.here hx rfl (hb hby d4_0) rfl rfl kZ) ?_
  obtain ⟨cq1, kq1, q1a, q1b, q1c⟩ := isOf hZ e0 Ex
  obtain ⟨_, _, ⟨T1, L1, k1, n1⟩, -, X1, ⟨Lc1, hQ1, l1, y1, z1⟩, st1⟩ := X0.virtualBack hx (y := (⟨"java/lang/String", "isLatin1", "()Z"⟩ : MethodName)) (z := (⟨"java/lang/String", "isLatin1", "()Z"⟩ : MethodName)) hown (mvT hZ (hw _ (List.mem_of_getElem? (i := 31) rfl))) (mvT hZ (hw _ (List.mem_of_getElem? (i := 32) rfl))) (notFace_of_selects (args := #[]) (mvT hZ (hw _ (List.mem_of_getElem? (i := 34) rfl)))) (mvT hZ (hw _ (List.mem_of_getElem? (i := 34) rfl))) (mvT hZ (hw _ (List.mem_of_getElem? (i := 33) rfl))) (by decide) (backOf (W := 0) (rmIsL l Z a0 hw [] a cz h0 n0 Z0 Cc Sc hcz) hZ (hw _ (List.mem_of_getElem? (i := 35) rfl)) (hw _ (List.mem_of_getElem? (i := 14) rfl)) (by decide) (by decide)) q1a q1c (g := (mkF m 1 #[.val (.ref a), .val (.int i)] [(.ref a)])) rfl (by rw [hml]; rfl) (Steps.refl _) (argsL := []) (rest := []) (lenOf pd_3 rfl) rfl (by show 2 * 0 + _ ≤ _; exact Nat.le_of_eq rfl) (hb hby d4_1) (fun _ _ => ⟨rfl, e0, (by decide : 0 + 0 ≤ _), (by decide : 0 + 0 ≤ _)⟩)
  dsimp only [Pt.U, Pt.locs, Pt.cells, Pt.slots] at X1 l1 y1 z1 st1 hQ1
  subst l1 y1 z1
  obtain ⟨rfl, N1q, heq1⟩ := hQ1
  have N1 := Fr.app N0 N1q
  refine own_by (S' := T1.setTop (mkF m 4 #[.val (.ref a), .val (.int i)] [(.int (1 : Int32))])) (fun tZ kZ => st1.trans kZ) ?_
  refine own_by (S' := T1.setTop (mkF m 7 #[.val (.ref a), .val (.int i)] [])) (fun tZ kZ => XS.ifNo X1.here hx rfl (hb hby d4_4) rfl ((if0 _ _).trans (feq (by decide)).1) kZ) ?_
  refine own_by (S' := T1.setTop (mkF m 8 #[.val (.ref a), .val (.int i)] [(.ref a)])) (fun tZ kZ => XS.aloadN X1.here hx rfl (hb hby d4_7) rfl rfl kZ) ?_
  obtain ⟨T2, X2, e2, st2⟩ := getF X1 hx hZ hown (host := "") (Or.inl (hw _ (List.mem_of_getElem? (i := 16) rfl))) Via.refl heq1 Vv (g := (mkF m 8 #[.val (.ref a), .val (.int i)] [(.ref a)])) rfl rfl (hb hby d4_8)
  refine own_by (S' := T2.setTop (mkF m 11 #[.val (.ref a), .val (.int i)] [(.ref t)])) st2 ?_
  refine own_by (S' := T2.setTop (mkF m 12 #[.val (.ref a), .val (.int i)] [(.int i), (.ref t)])) (fun tZ kZ => XS.iloadN X2.here hx rfl (hb hby d4_11) rfl kZ) ?_
  obtain ⟨_, _, ⟨T3, L3, k3, n3⟩, -, X3, ⟨Lc3, hQ3, l3, y3, z3⟩, st3⟩ := Jvm.LawKit.callS X2 hx (y := (⟨"java/lang/StringLatin1", "charAt", "([BI)C"⟩ : MethodName)) hown (mvT hZ (hw _ (List.mem_of_getElem? (i := 36) rfl))) (mvT hZ (hw _ (List.mem_of_getElem? (i := 37) rfl))) (mvT hZ (hw _ (List.mem_of_getElem? (i := 38) rfl))) (mvT hZ (hw _ (List.mem_of_getElem? (i := 39) rfl))) (by decide) (backOf (W := 0) (rmLCh l Z a0 hw [] t i z b cl fm h0 n0 Z0 Ar Sz Nz h1 h2 hat Sf rf) hZ (hw _ (List.mem_of_getElem? (i := 39) rfl)) (hw _ (List.mem_of_getElem? (i := 38) rfl)) (by decide) (by decide)) (g := (mkF m 12 #[.val (.ref a), .val (.int i)] [(.int i), (.ref t)])) rfl (by rw [hml]; rfl) (argsL := [(.ref t), (.int i)]) (rest := []) (lenOf pd_4 rfl) rfl (by show 2 * 0 + _ ≤ _; exact Nat.le_of_eq rfl) (hb hby d4_12) (fun _ _ => ⟨rfl, e2, (by decide : 0 + 0 ≤ _), (by decide : 0 + 0 ≤ _)⟩)
  dsimp only [Pt.U, Pt.locs, Pt.cells, Pt.slots] at X3 l3 y3 z3 st3 hQ3
  subst l3 y3 z3
  obtain ⟨rfl, N3q, heq3⟩ := hQ3
  have N3 := Fr.app N1 N3q
  refine own_by (S' := T3.setTop (mkF m 15 #[.val (.ref a), .val (.int i)] [(.int (b &&& 255))])) (fun tZ kZ => st3 _ kZ) ?_
  exact own_retI X3 hx (t := .char) Bd.returns (by simp) (own_narC b) (hb hby d4_15) Bd.notSynchronized (by decide) (by decide) ⟨rfl, N3, heq3⟩
theorem d1_0 : decode prog_81_method_6_code 0 = .ok (.aload_n 0, 1) := by decide +kernel
theorem d1_1 : decode prog_81_method_6_code 1 = .ok (.getfield 35, 3) := by decide +kernel
theorem d1_4 : decode prog_81_method_6_code 4 = .ok (.areturn, 1) := by decide +kernel
theorem pn_3 : plainName "com/example/modelwright/modelwright/statement/Cardinality" = true := by first | (simp [plainName, overriddenIn]; done) | decide +kernel
theorem ef_rmSuf (m : MethodId) (a : Addr) : entryFrame m #[(.ref a)] 1 = mkF m 0 #[.val (.ref a)] [] := by first | (simp [entryFrame, mkF, argsToLocals, Value.category, maxLocals]; done) | rfl
set_option maxRecDepth 65536 in
set_option maxHeartbeats 40000000 in
theorem rmSuf (l : Launch) (Z : State) (a0 : Array Value) (hw : ∀ d ∈ tables_1, d.before a0 Z = true) (ws : List Jvm.Cond) (a b : Addr) (h0 : Heap) (n0 : Nat) (Z0 : n0 ≤ h0.size) (Fs : Fld Z h0 a "com/example/modelwright/modelwright/statement/Cardinality" "suffix" "Ljava/lang/String;" (.ref b)) :
    MetFree l (⟨"com/example/modelwright/modelwright/statement/Cardinality", "suffix", "()Ljava/lang/String;"⟩ : MethodName) (head1 (Jvm.Cond.code (⟨"com/example/modelwright/modelwright/statement/Cardinality", "suffix", "()Ljava/lang/String;"⟩ : MethodName) prog_81_method_6_code (1 : Nat) (Option.some (Jvm.ClassFile.FieldType.object "java/lang/String")) :: ws) ({ frames := 0, cells := 0, slots := 0, locals := 0 } : Room)) (fun aZ UZ => aZ = #[(.ref a)] ∧ Z.Warmed39 UZ.vm ∧ UZ.heap = h0) (fun _ _ _ _ _ => True) (fun _ UZ oZ VZ => ∃ vZ LZ, oZ = .returned vZ ∧ (QSame (some (.ref b)) h0 n0) vZ VZ.heap LZ ∧ FrameEnd UZ oZ VZ LZ ({ frames := 0, cells := 0, slots := 0, locals := 0 } : Room).cells ({ frames := 0, cells := 0, slots := 0, locals := 0 } : Room).slots) := by
  refine MetFree.of_bodySF (plainFor_of_name pn_3) hisR ?_
  intro p e s m args below meth c s₁ Bd hml0 hP hK
  obtain ⟨rfl, hZ, hh⟩ := hP
  have hx := Bd.exec
  have hby := Bd.bytes
  have hml : c.maxLocals = 1 := hml0
  have hown : s.vm.findClass "com/example/modelwright/modelwright/statement/Cardinality" = some m.cls := findClass_of_methodNamed Bd.named
  have hnm := (name_of_methodNamed Bd.named Bd.method).1
  have X0 : Stand p l e ({ frames := 0, cells := 0, slots := 0, locals := 0 } : Room) s m #[(.ref a)] below meth c s₁ [] 0 0 := Stand.of_body Bd
  have e0 : s₁.heap = h0 := by rw [← hh, Bd.state]; rfl
  have N0 := Fr.nil n0
  show OwnG p e below (OwnE s (QSame (some (.ref b)) h0 n0) ({ frames := 0, cells := 0, slots := 0, locals := 0 } : Room).cells ({ frames := 0, cells := 0, slots := 0, locals := 0 } : Room).slots) _
  refine own_by (S' := s₁.setTop (mkF m 0 #[.val (.ref a)] [])) (fun tZ kZ => castTop (ef_rmSuf m a) kZ) ?_
  refine own_by (S' := s₁.setTop (mkF m 1 #[.val (.ref a)] [(.ref a)])) (fun tZ kZ => XS.aloadN X0.here hx rfl (hb hby d1_0) rfl rfl kZ) ?_
  obtain ⟨T1, X1, e1, st1⟩ := getF X0 hx hZ hown (host := "") (Or.inl (hw _ (List.mem_of_getElem? (i := 8) rfl))) Via.refl e0 Fs (g := (mkF m 1 #[.val (.ref a)] [(.ref a)])) rfl rfl (hb hby d1_1)
  refine own_by (S' := T1.setTop (mkF m 4 #[.val (.ref a)] [(.ref b)])) st1 ?_
  exact own_retA X1 hx Bd.returns rfl rfl (hb hby d1_4) Bd.notSynchronized (by decide) (by decide) ⟨rfl, N0, e1⟩
theorem d9_0 : decode prog_81_method_5_code 0 = .ok (.aload_n 0, 1) := by decide +kernel
theorem d9_1 : decode prog_81_method_5_code 1 = .ok (.getstatic 10, 3) := by decide +kernel
theorem d9_4 : decode prog_81_method_5_code 4 = .ok (.if_acmp .eq 10, 3) := by decide +kernel
theorem d9_7 : decode prog_81_method_5_code 7 = .ok (.aload_n 0, 1) := by decide +kernel
theorem d9_8 : decode prog_81_method_5_code 8 = .ok (.getstatic 13, 3) := by decide +kernel
theorem d9_11 : decode prog_81_method_5_code 11 = .ok (.if_acmp .ne 7, 3) := by decide +kernel
theorem d9_14 : decode prog_81_method_5_code 14 = .ok (.iconst 1, 1) := by decide +kernel
theorem d9_15 : decode prog_81_method_5_code 15 = .ok (.goto 4, 3) := by decide +kernel
theorem d9_18 : decode prog_81_method_5_code 18 = .ok (.iconst 0, 1) := by decide +kernel
theorem d9_19 : decode prog_81_method_5_code 19 = .ok (.ireturn, 1) := by decide +kernel
theorem ef_rmMany (m : MethodId) (a : Addr) : entryFrame m #[(.ref a)] 1 = mkF m 0 #[.val (.ref a)] [] := by first | (simp [entryFrame, mkF, argsToLocals, Value.category, maxLocals]; done) | rfl
set_option maxRecDepth 65536 in
set_option maxHeartbeats 40000000 in
theorem rmMany (l : Launch) (Z : State) (a0 : Array Value) (hw : ∀ d ∈ tables_1, d.before a0 Z = true) (ws : List Jvm.Cond) (a b d : Addr) (h0 : Heap) (n0 : Nat) (Z0 : n0 ≤ h0.size) (Sb : Sta Z h0 "com/example/modelwright/modelwright/statement/Cardinality" "ZERO_OR_MORE" "Lcom/example/modelwright/modelwright/statement/Cardinality;" (.ref b)) (Sd : Sta Z h0 "com/example/modelwright/modelwright/statement/Cardinality" "ONE_OR_MORE" "Lcom/example/modelwright/modelwright/statement/Cardinality;" (.ref d)) :
    MetFree l (⟨"com/example/modelwright/modelwright/statement/Cardinality", "many", "()Z"⟩ : MethodName) (head1 (Jvm.Cond.code (⟨"com/example/modelwright/modelwright/statement/Cardinality", "many", "()Z"⟩ : MethodName) prog_81_method_5_code (1 : Nat) (Option.some Jvm.ClassFile.FieldType.boolean) :: ws) ({ frames := 0, cells := 0, slots := 0, locals := 0 } : Room)) (fun aZ UZ => aZ = #[(.ref a)] ∧ Z.Warmed39 UZ.vm ∧ UZ.heap = h0) (fun _ _ _ _ _ => True) (fun _ UZ oZ VZ => ∃ vZ LZ, oZ = .returned vZ ∧ (QSame (some (.int (if a = b ∨ a = d then 1 else 0))) h0 n0) vZ VZ.heap LZ ∧ FrameEnd UZ oZ VZ LZ ({ frames := 0, cells := 0, slots := 0, locals := 0 } : Room).cells ({ frames := 0, cells := 0, slots := 0, locals := 0 } : Room).slots) := by
  refine MetFree.of_bodySF (plainFor_of_name pn_3) hisR ?_
  intro p e s m args below meth c s₁ Bd hml0 hP hK
  obtain ⟨rfl, hZ, hh⟩ := hP
  have hx := Bd.exec
  have hby := Bd.bytes
  have hml : c.maxLocals = 1 := hml0
  have hown : s.vm.findClass "com/example/modelwright/modelwright/statement/Cardinality" = some m.cls := findClass_of_methodNamed Bd.named
  have hnm := (name_of_methodNamed Bd.named Bd.method).1
  have X0 : Stand p l e ({ frames := 0, cells := 0, slots := 0, locals := 0 } : Room) s m #[(.ref a)] below meth c s₁ [] 0 0 := Stand.of_body Bd
  have e0 : s₁.heap = h0 := by rw [← hh, Bd.state]; rfl
  have N0 := Fr.nil n0
  show OwnG p e below (OwnE s (QSame (some (.int (if a = b ∨ a = d then 1 else 0))) h0 n0) ({ frames := 0, cells := 0, slots := 0, locals := 0 } : Room).cells ({ frames := 0, cells := 0, slots := 0, locals := 0 } : Room).slots) _
  refine own_by (S' := s₁.setTop (mkF m 0 #[.val (.ref a)] [])) (fun tZ kZ => castTop (ef_rmMany m a) kZ) ?_
  refine own_by (S' := s₁.setTop (mkF m 1 #[.val (.ref a)] [(.ref a)])) (fun tZ kZ => XS.aloadN X0.here hx rfl (hb hby d9_0) rfl rfl kZ) ?_
  obtain ⟨T1, X1, e1, st1⟩ := getS2 X0 hx hZ hown (host := "") (Or.inl (hw _ (List.mem_of_getElem? (i := 53) rfl))) Via.refl e0 Sb (g := (mkF m 1 #[.val (.ref a)] [(.ref a)])) rfl (hb hby d9_1)
  refine own_by (S' := T1.setTop (mkF m 4 #[.val (.ref a)] [(.ref b), (.ref a)])) st1 ?_
  by_cases h1 : a = b
  · refine own_by (S' := T1.setTop (mkF m 14 #[.val (.ref a)] [])) (fun tZ kZ => Jvm.RoadKit.acmp (g := (mkF m 4 #[.val (.ref a)] [(.ref b), (.ref a)])) X1 hx rfl rfl rfl (pc0 := 4) (pc' := 14) (same := true) rfl (hb hby d9_4) rfl (decide_eq_true (congrArg Value.ref h1)) (by decide) (by decide) kZ) ?_
    refine own_by (S' := T1.setTop (mkF m 15 #[.val (.ref a)] [(.int (1 : Int32))])) (fun tZ kZ => XS.iconst X1.here hx rfl (hb hby d9_14) kZ) ?_
    refine own_by (S' := T1.setTop (mkF m 19 #[.val (.ref a)] [(.int (1 : Int32))])) (fun tZ kZ => XS.goto X1.here hx rfl (pc0 := 15) (pc' := 19) rfl (hb hby d9_15) (by decide) (by decide) kZ) ?_
    exact own_retI X1 hx (t := .boolean) Bd.returns (by simp) rfl (hb hby d9_19) Bd.notSynchronized (by decide) (by decide) ⟨by rw [if_pos (Or.inl h1)], N0, e1⟩
  · refine own_by (S' := T1.setTop (mkF m 7 #[.val (.ref a)] [])) (fun tZ kZ => Jvm.RoadKit.acmp (g := (mkF m 4 #[.val (.ref a)] [(.ref b), (.ref a)])) X1 hx rfl rfl rfl (pc0 := 4) (pc' := 7) (same := false) rfl (hb hby d9_4) rfl (decide_eq_false fun q => h1 (Value.ref.inj q)) (by decide) (by decide) kZ) ?_
    refine own_by (S' := T1.setTop (mkF m 8 #[.val (.ref a)] [(.ref a)])) (fun tZ kZ => XS.aloadN X1.here hx rfl (hb hby d9_7) rfl rfl kZ) ?_
    obtain ⟨T2, X2, e2, st2⟩ := getS2 X1 hx hZ hown (host := "") (Or.inl (hw _ (List.mem_of_getElem? (i := 55) rfl))) Via.refl e1 Sd (g := (mkF m 8 #[.val (.ref a)] [(.ref a)])) rfl (hb hby d9_8)
    refine own_by (S' := T2.setTop (mkF m 11 #[.val (.ref a)] [(.ref d), (.ref a)])) st2 ?_
    by_cases h2 : a = d
    · refine own_by (S' := T2.setTop (mkF m 14 #[.val (.ref a)] [])) (fun tZ kZ => Jvm.RoadKit.acmp (g := (mkF m 11 #[.val (.ref a)] [(.ref d), (.ref a)])) X2 hx rfl rfl rfl (pc0 := 11) (pc' := 14) (same := true) rfl (hb hby d9_11) rfl (decide_eq_true (congrArg Value.ref h2)) (by decide) (by decide) kZ) ?_
      refine own_by (S' := T2.setTop (mkF m 15 #[.val (.ref a)] [(.int (1 : Int32))])) (fun tZ kZ => XS.iconst X2.here hx rfl (hb hby d9_14) kZ) ?_
      refine own_by (S' := T2.setTop (mkF m 19 #[.val (.ref a)] [(.int (1 : Int32))])) (fun tZ kZ => XS.goto X2.here hx rfl (pc0 := 15) (pc' := 19) rfl (hb hby d9_15) (by decide) (by decide) kZ) ?_
      exact own_retI X2 hx (t := .boolean) Bd.returns (by simp) rfl (hb hby d9_19) Bd.notSynchronized (by decide) (by decide) ⟨by rw [if_pos (Or.inr h2)], N0, e2⟩
    · refine own_by (S' := T2.setTop (mkF m 18 #[.val (.ref a)] [])) (fun tZ kZ => Jvm.RoadKit.acmp (g := (mkF m 11 #[.val (.ref a)] [(.ref d), (.ref a)])) X2 hx rfl rfl rfl (pc0 := 11) (pc' := 18) (same := false) rfl (hb hby d9_11) rfl (decide_eq_false fun q => h2 (Value.ref.inj q)) (by decide) (by decide) kZ) ?_
      refine own_by (S' := T2.setTop (mkF m 19 #[.val (.ref a)] [(.int (0 : Int32))])) (fun tZ kZ => XS.iconst X2.here hx rfl (hb hby d9_18) kZ) ?_
      exact own_retI X2 hx (t := .boolean) Bd.returns (by simp) rfl (hb hby d9_19) Bd.notSynchronized (by decide) (by decide) ⟨by rw [if_neg (fun q => q.elim h1 h2)], N0, e2⟩
def Q0 (h0 : Heap) (n0 : Nat) (v : Option Value) (h : Heap) (L : List Loc) : Prop := v = some (.int 1) ∧ Fr n0 L
theorem pn_4 : plainName "com/example/modelwright/modelwright/statement/CardinalityManyPinLaw" = true := by first | (simp [plainName, overriddenIn]; done) | decide +kernel
theorem ef_rm0 (m : MethodId) (p1 : Int32) : entryFrame m #[(.int p1)] maxLocals = mkF m 0 #[.val (.int p1), .unset, .unset, .unset, .unset, .unset, .unset] [] := by first | (simp [entryFrame, mkF, argsToLocals, Value.category, maxLocals]; done) | rfl
set_option maxRecDepth 65536 in
set_option maxHeartbeats 40000000 in
theorem rm0 (l : Launch) (Z : State) (a0 : Array Value) (hw : ∀ d ∈ tables_1, d.before a0 Z = true) (ws : List Jvm.Cond) (p1 : Int32) (c0 s0 t0 c1 s1 t1 c2 s2 t2 c3 s3 t3 : Addr) (k0 k1 k2 k3 : Cell) (cz : Int32) (fm : Value) (h0 : Heap) (n0 : Nat) (Z0 : n0 ≤ h0.size) (S0 : Sta Z h0 "com/example/modelwright/modelwright/statement/Cardinality" "ZERO_OR_ONE" "Lcom/example/modelwright/modelwright/statement/Cardinality;" (.ref c0)) (E0 : Exa Z h0 c0 "com/example/modelwright/modelwright/statement/Cardinality") (F0 : Fld Z h0 c0 "com/example/modelwright/modelwright/statement/Cardinality" "suffix" "Ljava/lang/String;" (.ref s0)) (G0 : Exa Z h0 s0 "java/lang/String") (V0 : Fld Z h0 s0 "java/lang/String" "value" "[B" (.ref t0)) (C0 : Fld Z h0 s0 "java/lang/String" "coder" "B" (.int 0)) (A0 : Arr Z h0 t0 k0 .byte) (z0 : k0.slots.size = (1 : Int32).toNatClampNeg) (b0 : k0.slots[(0 : Int32).toNatClampNeg]? = some (.int 63)) (S1 : Sta Z h0 "com/example/modelwright/modelwright/statement/Cardinality" "ONE" "Lcom/example/modelwright/modelwright/statement/Cardinality;" (.ref c1)) (E1 : Exa Z h0 c1 "com/example/modelwright/modelwright/statement/Cardinality") (F1 : Fld Z h0 c1 "com/example/modelwright/modelwright/statement/Cardinality" "suffix" "Ljava/lang/String;" (.ref s1)) (G1 : Exa Z h0 s1 "java/lang/String") (V1 : Fld Z h0 s1 "java/lang/String" "value" "[B" (.ref t1)) (C1 : Fld Z h0 s1 "java/lang/String" "coder" "B" (.int 0)) (A1 : Arr Z h0 t1 k1 .byte) (z1 : k1.slots.size = (0 : Int32).toNatClampNeg) (S2 : Sta Z h0 "com/example/modelwright/modelwright/statement/Cardinality" "ZERO_OR_MORE" "Lcom/example/modelwright/modelwright/statement/Cardinality;" (.ref c2)) (E2 : Exa Z h0 c2 "com/example/modelwright/modelwright/statement/Cardinality") (F2 : Fld Z h0 c2 "com/example/modelwright/modelwright/statement/Cardinality" "suffix" "Ljava/lang/String;" (.ref s2)) (G2 : Exa Z h0 s2 "java/lang/String") (V2 : Fld Z h0 s2 "java/lang/String" "value" "[B" (.ref t2)) (C2 : Fld Z h0 s2 "java/lang/String" "coder" "B" (.int 0)) (A2 : Arr Z h0 t2 k2 .byte) (z2 : k2.slots.size = (1 : Int32).toNatClampNeg) (b2 : k2.slots[(0 : Int32).toNatClampNeg]? = some (.int 42)) (S3 : Sta Z h0 "com/example/modelwright/modelwright/statement/Cardinality" "ONE_OR_MORE" "Lcom/example/modelwright/modelwright/statement/Cardinality;" (.ref c3)) (E3 : Exa Z h0 c3 "com/example/modelwright/modelwright/statement/Cardinality") (F3 : Fld Z h0 c3 "com/example/modelwright/modelwright/statement/Cardinality" "suffix" "Ljava/lang/String;" (.ref s3)) (G3 : Exa Z h0 s3 "java/lang/String") (V3 : Fld Z h0 s3 "java/lang/String" "value" "[B" (.ref t3)) (C3 : Fld Z h0 s3 "java/lang/String" "coder" "B" (.int 0)) (A3 : Arr Z h0 t3 k3 .byte) (z3 : k3.slots.size = (1 : Int32).toNatClampNeg) (b3 : k3.slots[(0 : Int32).toNatClampNeg]? = some (.int 43)) (n02 : ¬ c0 = c2) (n03 : ¬ c0 = c3) (n12 : ¬ c1 = c2) (n13 : ¬ c1 = c3) (Sc : Sta Z h0 "java/lang/String" "COMPACT_STRINGS" "Z" (.int cz)) (hcz : ¬ cz = 0) (Sf : Sta Z h0 "jdk/internal/util/Preconditions" "SIOOBE_FORMATTER" "Ljava/util/function/BiFunction;" fm) (rf : fm.isRef = true) :
    MetFree l x (head1 (Jvm.Cond.code x code maxLocals ret :: ws) room_1) (fun aZ UZ => aZ = #[(.int p1)] ∧ Z.Warmed39 UZ.vm ∧ UZ.heap = h0) (fun _ _ _ _ _ => True) (fun _ UZ oZ VZ => ∃ vZ LZ, oZ = .returned vZ ∧ (Q0  h0 n0) vZ VZ.heap LZ ∧ FrameEnd UZ oZ VZ LZ room_1.cells room_1.slots) := by
  refine MetFree.of_bodySF (plainFor_of_name pn_4) hisR ?_
  intro p e s m args below meth c s₁ Bd hml0 hP hK
  obtain ⟨rfl, hZ, hh⟩ := hP
  have hx := Bd.exec
  have hby := Bd.bytes
  have hml : c.maxLocals = 7 := hml0
  have hown : s.vm.findClass "com/example/modelwright/modelwright/statement/CardinalityManyPinLaw" = some m.cls := findClass_of_methodNamed Bd.named
  have hnm := (name_of_methodNamed Bd.named Bd.method).1
  have X0 : Stand p l e room_1 s m #[(.int p1)] below meth c s₁ [] 0 0 := Stand.of_body Bd
  have e0 : s₁.heap = h0 := by rw [← hh, Bd.state]; rfl
  have N0 := Fr.nil n0
  show OwnG p e below (OwnE s (Q0  h0 n0) room_1.cells room_1.slots) _
  refine own_by (S' := s₁.setTop (mkF m 0 #[.val (.int p1), .unset, .unset, .unset, .unset, .unset, .unset] [])) (fun tZ kZ => castTop (ef_rm0 m p1) kZ) ?_
  refine own_by (S' := s₁.setTop (mkF m 1 #[.val (.int p1), .unset, .unset, .unset, .unset, .unset, .unset] [(.int p1)])) (fun tZ kZ => XS.iloadN X0.here hx rfl (hb hby at_0) rfl kZ) ?_
  refine own_by (S' := s₁.setTop (mkF m 2 #[.val (.int p1), .unset, .unset, .unset, .unset, .unset, .unset] [(.int (3 : Int32)), (.int p1)])) (fun tZ kZ => XS.iconst X0.here hx rfl (hb hby at_1) kZ) ?_
  refine own_by (S' := s₁.setTop (mkF m 3 #[.val (.int p1), .unset, .unset, .unset, .unset, .unset, .unset] [(.int (p1 &&& (3 : Int32)))])) (fun tZ kZ => XS.iand X0.here hx rfl (hb hby at_2) rfl kZ) ?_
  obtain ⟨v3, hv3⟩ : ∃ z : Int32, z = (p1 &&& (3 : Int32)) := ⟨_, rfl⟩
  rw [← hv3]
  refine own_by (S' := s₁.setTop (mkF m 4 #[.val (.int p1), .val (.int v3), .unset, .unset, .unset, .unset, .unset] [])) (fun tZ kZ => XS.istoreN X0.here hx rfl (hb hby at_3) rfl (l' := #[.val (.int p1), .val (.int v3), .unset, .unset, .unset, .unset, .unset]) rfl kZ) ?_
  refine own_by (S' := s₁.setTop (mkF m 5 #[.val (.int p1), .val (.int v3), .unset, .unset, .unset, .unset, .unset] [(.int v3)])) (fun tZ kZ => XS.iloadN X0.here hx rfl (hb hby at_4) rfl kZ) ?_
  by_cases hc0 : v3 = (0 : Int32)
  · refine own_by (S' := s₁.setTop (mkF m 8 #[.val (.int p1), .val (.int v3), .unset, .unset, .unset, .unset, .unset] [])) (fun tZ kZ => XS.ifNo X0.here hx rfl (hb hby at_5) rfl ((if0 _ _).trans (teq hc0).2) kZ) ?_
    obtain ⟨T1, X1, e1, st1⟩ := getS2 X0 hx hZ hown (host := "") (Or.inl (hw _ (List.mem_of_getElem? (i := 0) rfl))) Via.refl e0 S0 (g := (mkF m 8 #[.val (.int p1), .val (.int v3), .unset, .unset, .unset, .unset, .unset] [])) rfl (hb hby at_8)
    refine own_by (S' := T1.setTop (mkF m 11 #[.val (.int p1), .val (.int v3), .unset, .unset, .unset, .unset, .unset] [(.ref c0)])) st1 ?_
    refine own_by (S' := T1.setTop (mkF m 12 #[.val (.int p1), .val (.int v3), .val (.ref c0), .unset, .unset, .unset, .unset] [])) (fun tZ kZ => XS.astoreN X1.here hx rfl (hb hby at_11) rfl rfl (l' := #[.val (.int p1), .val (.int v3), .val (.ref c0), .unset, .unset, .unset, .unset]) rfl kZ) ?_
    refine own_by (S' := T1.setTop (mkF m 13 #[.val (.int p1), .val (.int v3), .val (.ref c0), .unset, .unset, .unset, .unset] [(.int (0 : Int32))])) (fun tZ kZ => XS.iconst X1.here hx rfl (hb hby at_12) kZ) ?_
    refine own_by (S' := T1.setTop (mkF m 14 #[.val (.int p1), .val (.int v3), .val (.ref c0), .val (.int (0 : Int32)), .unset, .unset, .unset] [])) (fun tZ kZ => XS.istoreN X1.here hx rfl (hb hby at_13) rfl (l' := #[.val (.int p1), .val (.int v3), .val (.ref c0), .val (.int (0 : Int32)), .unset, .unset, .unset]) rfl kZ) ?_
    refine own_by (S' := T1.setTop (mkF m 51 #[.val (.int p1), .val (.int v3), .val (.ref c0), .val (.int (0 : Int32)), .unset, .unset, .unset] [])) (fun tZ kZ => XS.goto X1.here hx rfl (pc0 := 14) (pc' := 51) rfl (hb hby at_14) (by decide) (by decide) kZ) ?_
    refine own_by (S' := T1.setTop (mkF m 52 #[.val (.int p1), .val (.int v3), .val (.ref c0), .val (.int (0 : Int32)), .unset, .unset, .unset] [(.ref c0)])) (fun tZ kZ => XS.aloadN X1.here hx rfl (hb hby at_51) rfl rfl kZ) ?_
    obtain ⟨cq2, kq2, q2a, q2b, q2c⟩ := isOf hZ e1 E0
    obtain ⟨_, _, ⟨T2, L2, k2, n2⟩, -, X2, ⟨Lc2, hQ2, l2, y2, z2⟩, st2⟩ := X1.virtualBack hx (y := (⟨"com/example/modelwright/modelwright/statement/Cardinality", "suffix", "()Ljava/lang/String;"⟩ : MethodName)) (z := (⟨"com/example/modelwright/modelwright/statement/Cardinality", "suffix", "()Ljava/lang/String;"⟩ : MethodName)) hown (mvT hZ (hw _ (List.mem_of_getElem? (i := 3) rfl))) (mvT hZ (hw _ (List.mem_of_getElem? (i := 4) rfl))) (notFace_of_selects (args := #[]) (mvT hZ (hw _ (List.mem_of_getElem? (i := 6) rfl)))) (mvT hZ (hw _ (List.mem_of_getElem? (i := 6) rfl))) (mvT hZ (hw _ (List.mem_of_getElem? (i := 5) rfl))) (by decide) (backOf (W := 0) (rmSuf l Z a0 hw [] c0 s0 h0 n0 Z0 F0) hZ (hw _ (List.mem_of_getElem? (i := 7) rfl)) (hw _ (List.mem_of_getElem? (i := 1) rfl)) (by decide) (by decide)) q2a q2c (g := (mkF m 52 #[.val (.int p1), .val (.int v3), .val (.ref c0), .val (.int (0 : Int32)), .unset, .unset, .unset] [(.ref c0)])) rfl (by rw [hml]; rfl) (Steps.refl _) (argsL := []) (rest := []) (lenOf pd_5 rfl) rfl (by show 2 * 0 + _ ≤ _; exact Nat.le_of_eq rfl) (hb hby at_52) (fun _ _ => ⟨rfl, e1, (by decide : 0 + 0 ≤ _), (by decide : 0 + 0 ≤ _)⟩)
    dsimp only [Pt.U, Pt.locs, Pt.cells, Pt.slots] at X2 l2 y2 z2 st2 hQ2
    subst l2 y2 z2
    obtain ⟨rfl, N2q, heq2⟩ := hQ2
    have N2 := Fr.app N0 N2q
    refine own_by (S' := T2.setTop (mkF m 55 #[.val (.int p1), .val (.int v3), .val (.ref c0), .val (.int (0 : Int32)), .unset, .unset, .unset] [(.ref s0)])) (fun tZ kZ => st2.trans kZ) ?_
    refine own_by (S' := T2.setTop (mkF m 57 #[.val (.int p1), .val (.int v3), .val (.ref c0), .val (.int (0 : Int32)), .val (.ref s0), .unset, .unset] [])) (fun tZ kZ => XS.astore X2.here hx rfl (hb hby at_55) rfl rfl (l' := #[.val (.int p1), .val (.int v3), .val (.ref c0), .val (.int (0 : Int32)), .val (.ref s0), .unset, .unset]) rfl kZ) ?_
    refine own_by (S' := T2.setTop (mkF m 59 #[.val (.int p1), .val (.int v3), .val (.ref c0), .val (.int (0 : Int32)), .val (.ref s0), .unset, .unset] [(.ref s0)])) (fun tZ kZ => XS.aload X2.here hx rfl (hb hby at_57) rfl rfl kZ) ?_
    obtain ⟨cq3, kq3, q3a, q3b, q3c⟩ := isOf hZ heq2 G0
    obtain ⟨_, _, ⟨T3, L3, k3, n3⟩, -, X3, ⟨Lc3, hQ3, l3, y3, z3⟩, st3⟩ := X2.virtualBack hx (y := (⟨"java/lang/String", "length", "()I"⟩ : MethodName)) (z := (⟨"java/lang/String", "length", "()I"⟩ : MethodName)) hown (mvT hZ (hw _ (List.mem_of_getElem? (i := 10) rfl))) (mvT hZ (hw _ (List.mem_of_getElem? (i := 11) rfl))) (notFace_of_selects (args := #[]) (mvT hZ (hw _ (List.mem_of_getElem? (i := 13) rfl)))) (mvT hZ (hw _ (List.mem_of_getElem? (i := 13) rfl))) (mvT hZ (hw _ (List.mem_of_getElem? (i := 12) rfl))) (by decide) (backOf (W := 0) (rmLen l Z a0 hw [] s0 t0 (1 : Int32) cz k0 h0 n0 Z0 G0 V0 C0 A0 z0 (by decide) Sc hcz) hZ (hw _ (List.mem_of_getElem? (i := 15) rfl)) (hw _ (List.mem_of_getElem? (i := 14) rfl)) (by decide) (by decide)) q3a q3c (g := (mkF m 59 #[.val (.int p1), .val (.int v3), .val (.ref c0), .val (.int (0 : Int32)), .val (.ref s0), .unset, .unset] [(.ref s0)])) rfl (by rw [hml]; rfl) (Steps.refl _) (argsL := []) (rest := []) (lenOf pd_6 rfl) rfl (by show 2 * 0 + _ ≤ _; exact Nat.le_of_eq rfl) (hb hby at_59) (fun _ _ => ⟨rfl, heq2, (by decide : 0 + 0 ≤ _), (by decide : 0 + 0 ≤ _)⟩)
    dsimp only [Pt.U, Pt.locs, Pt.cells, Pt.slots] at X3 l3 y3 z3 st3 hQ3
    subst l3 y3 z3
    obtain ⟨rfl, N3q, heq3⟩ := hQ3
    have N3 := Fr.app N2 N3q
    refine own_by (S' := T3.setTop (mkF m 62 #[.val (.int p1), .val (.int v3), .val (.ref c0), .val (.int (0 : Int32)), .val (.ref s0), .unset, .unset] [(.int (1 : Int32))])) (fun tZ kZ => st3.trans kZ) ?_
    refine own_by (S' := T3.setTop (mkF m 63 #[.val (.int p1), .val (.int v3), .val (.ref c0), .val (.int (0 : Int32)), .val (.ref s0), .unset, .unset] [(.int (1 : Int32)), (.int (1 : Int32))])) (fun tZ kZ => XS.iconst X3.here hx rfl (hb hby at_62) kZ) ?_
    refine own_by (S' := T3.setTop (mkF m 66 #[.val (.int p1), .val (.int v3), .val (.ref c0), .val (.int (0 : Int32)), .val (.ref s0), .unset, .unset] [])) (fun tZ kZ => XS.icmpNo X3.here hx rfl (hb hby at_63) rfl (teq rfl).2 kZ) ?_
    refine own_by (S' := T3.setTop (mkF m 68 #[.val (.int p1), .val (.int v3), .val (.ref c0), .val (.int (0 : Int32)), .val (.ref s0), .unset, .unset] [(.ref s0)])) (fun tZ kZ => XS.aload X3.here hx rfl (hb hby at_66) rfl rfl kZ) ?_
    refine own_by (S' := T3.setTop (mkF m 69 #[.val (.int p1), .val (.int v3), .val (.ref c0), .val (.int (0 : Int32)), .val (.ref s0), .unset, .unset] [(.int (0 : Int32)), (.ref s0)])) (fun tZ kZ => XS.iconst X3.here hx rfl (hb hby at_68) kZ) ?_
    obtain ⟨cq4, kq4, q4a, q4b, q4c⟩ := isOf hZ heq3 G0
    obtain ⟨_, _, ⟨T4, L4, k4, n4⟩, -, X4, ⟨Lc4, hQ4, l4, y4, z4⟩, st4⟩ := X3.virtualBack hx (y := (⟨"java/lang/String", "charAt", "(I)C"⟩ : MethodName)) (z := (⟨"java/lang/String", "charAt", "(I)C"⟩ : MethodName)) hown (mvT hZ (hw _ (List.mem_of_getElem? (i := 26) rfl))) (mvT hZ (hw _ (List.mem_of_getElem? (i := 27) rfl))) (notFace_of_selects (args := #[]) (mvT hZ (hw _ (List.mem_of_getElem? (i := 29) rfl)))) (mvT hZ (hw _ (List.mem_of_getElem? (i := 29) rfl))) (mvT hZ (hw _ (List.mem_of_getElem? (i := 28) rfl))) (by decide) (backOf (W := 0) (rmCh l Z a0 hw [] s0 t0 (1 : Int32) cz k0 (0 : Int32) (63 : Int32) fm h0 n0 Z0 G0 V0 C0 A0 z0 (by decide) Sc hcz (by decide) (by decide) b0 Sf rf) hZ (hw _ (List.mem_of_getElem? (i := 30) rfl)) (hw _ (List.mem_of_getElem? (i := 14) rfl)) (by decide) (by decide)) q4a q4c (g := (mkF m 69 #[.val (.int p1), .val (.int v3), .val (.ref c0), .val (.int (0 : Int32)), .val (.ref s0), .unset, .unset] [(.int (0 : Int32)), (.ref s0)])) rfl (by rw [hml]; rfl) (Steps.refl _) (argsL := [(.int (0 : Int32))]) (rest := []) (lenOf pd_7 rfl) rfl (by show 2 * 0 + _ ≤ _; exact Nat.le_of_eq rfl) (hb hby at_69) (fun _ _ => ⟨rfl, heq3, (by decide : 0 + 0 ≤ _), (by decide : 0 + 0 ≤ _)⟩)
    dsimp only [Pt.U, Pt.locs, Pt.cells, Pt.slots] at X4 l4 y4 z4 st4 hQ4
    subst l4 y4 z4
    obtain ⟨rfl, N4q, heq4⟩ := hQ4
    have N4 := Fr.app N3 N4q
    refine own_by (S' := T4.setTop (mkF m 72 #[.val (.int p1), .val (.int v3), .val (.ref c0), .val (.int (0 : Int32)), .val (.ref s0), .unset, .unset] [(.int ((63 : Int32) &&& 255))])) (fun tZ kZ => st4.trans kZ) ?_
    refine own_by (S' := T4.setTop (mkF m 74 #[.val (.int p1), .val (.int v3), .val (.ref c0), .val (.int (0 : Int32)), .val (.ref s0), .unset, .unset] [(.int (42 : Int32)), (.int ((63 : Int32) &&& 255))])) (fun tZ kZ => XS.bipush X4.here hx rfl (hb hby at_72) kZ) ?_
    refine own_by (S' := T4.setTop (mkF m 77 #[.val (.int p1), .val (.int v3), .val (.ref c0), .val (.int (0 : Int32)), .val (.ref s0), .unset, .unset] [])) (fun tZ kZ => XS.icmpNo X4.here hx rfl (hb hby at_74) rfl (feq (by decide)).1 kZ) ?_
    refine own_by (S' := T4.setTop (mkF m 79 #[.val (.int p1), .val (.int v3), .val (.ref c0), .val (.int (0 : Int32)), .val (.ref s0), .unset, .unset] [(.ref s0)])) (fun tZ kZ => XS.aload X4.here hx rfl (hb hby at_77) rfl rfl kZ) ?_
    refine own_by (S' := T4.setTop (mkF m 80 #[.val (.int p1), .val (.int v3), .val (.ref c0), .val (.int (0 : Int32)), .val (.ref s0), .unset, .unset] [(.int (0 : Int32)), (.ref s0)])) (fun tZ kZ => XS.iconst X4.here hx rfl (hb hby at_79) kZ) ?_
    obtain ⟨cq5, kq5, q5a, q5b, q5c⟩ := isOf hZ heq4 G0
    obtain ⟨_, _, ⟨T5, L5, k5, n5⟩, -, X5, ⟨Lc5, hQ5, l5, y5, z5⟩, st5⟩ := X4.virtualBack hx (y := (⟨"java/lang/String", "charAt", "(I)C"⟩ : MethodName)) (z := (⟨"java/lang/String", "charAt", "(I)C"⟩ : MethodName)) hown (mvT hZ (hw _ (List.mem_of_getElem? (i := 26) rfl))) (mvT hZ (hw _ (List.mem_of_getElem? (i := 27) rfl))) (notFace_of_selects (args := #[]) (mvT hZ (hw _ (List.mem_of_getElem? (i := 29) rfl)))) (mvT hZ (hw _ (List.mem_of_getElem? (i := 29) rfl))) (mvT hZ (hw _ (List.mem_of_getElem? (i := 28) rfl))) (by decide) (backOf (W := 0) (rmCh l Z a0 hw [] s0 t0 (1 : Int32) cz k0 (0 : Int32) (63 : Int32) fm h0 n0 Z0 G0 V0 C0 A0 z0 (by decide) Sc hcz (by decide) (by decide) b0 Sf rf) hZ (hw _ (List.mem_of_getElem? (i := 30) rfl)) (hw _ (List.mem_of_getElem? (i := 14) rfl)) (by decide) (by decide)) q5a q5c (g := (mkF m 80 #[.val (.int p1), .val (.int v3), .val (.ref c0), .val (.int (0 : Int32)), .val (.ref s0), .unset, .unset] [(.int (0 : Int32)), (.ref s0)])) rfl (by rw [hml]; rfl) (Steps.refl _) (argsL := [(.int (0 : Int32))]) (rest := []) (lenOf pd_7 rfl) rfl (by show 2 * 0 + _ ≤ _; exact Nat.le_of_eq rfl) (hb hby at_80) (fun _ _ => ⟨rfl, heq4, (by decide : 0 + 0 ≤ _), (by decide : 0 + 0 ≤ _)⟩)
    dsimp only [Pt.U, Pt.locs, Pt.cells, Pt.slots] at X5 l5 y5 z5 st5 hQ5
    subst l5 y5 z5
    obtain ⟨rfl, N5q, heq5⟩ := hQ5
    have N5 := Fr.app N4 N5q
    refine own_by (S' := T5.setTop (mkF m 83 #[.val (.int p1), .val (.int v3), .val (.ref c0), .val (.int (0 : Int32)), .val (.ref s0), .unset, .unset] [(.int ((63 : Int32) &&& 255))])) (fun tZ kZ => st5.trans kZ) ?_
    refine own_by (S' := T5.setTop (mkF m 85 #[.val (.int p1), .val (.int v3), .val (.ref c0), .val (.int (0 : Int32)), .val (.ref s0), .unset, .unset] [(.int (43 : Int32)), (.int ((63 : Int32) &&& 255))])) (fun tZ kZ => XS.bipush X5.here hx rfl (hb hby at_83) kZ) ?_
    refine own_by (S' := T5.setTop (mkF m 92 #[.val (.int p1), .val (.int v3), .val (.ref c0), .val (.int (0 : Int32)), .val (.ref s0), .unset, .unset] [])) (fun tZ kZ => XS.icmpYes X5.here hx rfl (pc0 := 85) (pc' := 92) rfl (hb hby at_85) rfl (feq (by decide)).2 (by decide) (by decide) kZ) ?_
    refine own_by (S' := T5.setTop (mkF m 93 #[.val (.int p1), .val (.int v3), .val (.ref c0), .val (.int (0 : Int32)), .val (.ref s0), .unset, .unset] [(.int (0 : Int32))])) (fun tZ kZ => XS.iconst X5.here hx rfl (hb hby at_92) kZ) ?_
    refine own_by (S' := T5.setTop (mkF m 95 #[.val (.int p1), .val (.int v3), .val (.ref c0), .val (.int (0 : Int32)), .val (.ref s0), .val (.int (0 : Int32)), .unset] [])) (fun tZ kZ => XS.istore X5.here hx rfl (hb hby at_93) rfl (l' := #[.val (.int p1), .val (.int v3), .val (.ref c0), .val (.int (0 : Int32)), .val (.ref s0), .val (.int (0 : Int32)), .unset]) rfl kZ) ?_
    refine own_by (S' := T5.setTop (mkF m 96 #[.val (.int p1), .val (.int v3), .val (.ref c0), .val (.int (0 : Int32)), .val (.ref s0), .val (.int (0 : Int32)), .unset] [(.ref c0)])) (fun tZ kZ => XS.aloadN X5.here hx rfl (hb hby at_95) rfl rfl kZ) ?_
    obtain ⟨cq6, kq6, q6a, q6b, q6c⟩ := isOf hZ heq5 E0
    obtain ⟨_, _, ⟨T6, L6, k6, n6⟩, -, X6, ⟨Lc6, hQ6, l6, y6, z6⟩, st6⟩ := X5.virtualBack hx (y := (⟨"com/example/modelwright/modelwright/statement/Cardinality", "many", "()Z"⟩ : MethodName)) (z := (⟨"com/example/modelwright/modelwright/statement/Cardinality", "many", "()Z"⟩ : MethodName)) hown (mvT hZ (hw _ (List.mem_of_getElem? (i := 48) rfl))) (mvT hZ (hw _ (List.mem_of_getElem? (i := 49) rfl))) (notFace_of_selects (args := #[]) (mvT hZ (hw _ (List.mem_of_getElem? (i := 51) rfl)))) (mvT hZ (hw _ (List.mem_of_getElem? (i := 51) rfl))) (mvT hZ (hw _ (List.mem_of_getElem? (i := 50) rfl))) (by decide) (backOf (W := 0) (rmMany l Z a0 hw [] c0 c2 c3 h0 n0 Z0 S2 S3) hZ (hw _ (List.mem_of_getElem? (i := 52) rfl)) (hw _ (List.mem_of_getElem? (i := 1) rfl)) (by decide) (by decide)) q6a q6c (g := (mkF m 96 #[.val (.int p1), .val (.int v3), .val (.ref c0), .val (.int (0 : Int32)), .val (.ref s0), .val (.int (0 : Int32)), .unset] [(.ref c0)])) rfl (by rw [hml]; rfl) (Steps.refl _) (argsL := []) (rest := []) (lenOf pd_3 rfl) rfl (by show 2 * 0 + _ ≤ _; exact Nat.le_of_eq rfl) (hb hby at_96) (fun _ _ => ⟨rfl, heq5, (by decide : 0 + 0 ≤ _), (by decide : 0 + 0 ≤ _)⟩)
    dsimp only [Pt.U, Pt.locs, Pt.cells, Pt.slots] at X6 l6 y6 z6 st6 hQ6
    subst l6 y6 z6
    obtain ⟨rfl, N6q, heq6⟩ := hQ6
    have N6 := Fr.app N5 N6q
    refine own_by (S' := T6.setTop (mkF m 99 #[.val (.int p1), .val (.int v3), .val (.ref c0), .val (.int (0 : Int32)), .val (.ref s0), .val (.int (0 : Int32)), .unset] [(.int (if c0 = c2 ∨ c0 = c3 then (1 : Int32) else 0))])) (fun tZ kZ => st6.trans kZ) ?_
    rw [if_neg (fun q => q.elim n02 n03)]
    refine own_by (S' := T6.setTop (mkF m 101 #[.val (.int p1), .val (.int v3), .val (.ref c0), .val (.int (0 : Int32)), .val (.ref s0), .val (.int (0 : Int32)), .val (.int (0 : Int32))] [])) (fun tZ kZ => XS.istore X6.here hx rfl (hb hby at_99) rfl (l' := #[.val (.int p1), .val (.int v3), .val (.ref c0), .val (.int (0 : Int32)), .val (.ref s0), .val (.int (0 : Int32)), .val (.int (0 : Int32))]) rfl kZ) ?_
    refine own_by (S' := T6.setTop (mkF m 103 #[.val (.int p1), .val (.int v3), .val (.ref c0), .val (.int (0 : Int32)), .val (.ref s0), .val (.int (0 : Int32)), .val (.int (0 : Int32))] [(.int (0 : Int32))])) (fun tZ kZ => XS.iload X6.here hx rfl (hb hby at_101) rfl kZ) ?_
    refine own_by (S' := T6.setTop (mkF m 104 #[.val (.int p1), .val (.int v3), .val (.ref c0), .val (.int (0 : Int32)), .val (.ref s0), .val (.int (0 : Int32)), .val (.int (0 : Int32))] [(.int (0 : Int32)), (.int (0 : Int32))])) (fun tZ kZ => XS.iloadN X6.here hx rfl (hb hby at_103) rfl kZ) ?_
    refine own_by (S' := T6.setTop (mkF m 107 #[.val (.int p1), .val (.int v3), .val (.ref c0), .val (.int (0 : Int32)), .val (.ref s0), .val (.int (0 : Int32)), .val (.int (0 : Int32))] [])) (fun tZ kZ => XS.icmpNo X6.here hx rfl (hb hby at_104) rfl (teq rfl).2 kZ) ?_
    refine own_by (S' := T6.setTop (mkF m 109 #[.val (.int p1), .val (.int v3), .val (.ref c0), .val (.int (0 : Int32)), .val (.ref s0), .val (.int (0 : Int32)), .val (.int (0 : Int32))] [(.int (0 : Int32))])) (fun tZ kZ => XS.iload X6.here hx rfl (hb hby at_107) rfl kZ) ?_
    refine own_by (S' := T6.setTop (mkF m 111 #[.val (.int p1), .val (.int v3), .val (.ref c0), .val (.int (0 : Int32)), .val (.ref s0), .val (.int (0 : Int32)), .val (.int (0 : Int32))] [(.int (0 : Int32)), (.int (0 : Int32))])) (fun tZ kZ => XS.iload X6.here hx rfl (hb hby at_109) rfl kZ) ?_
    refine own_by (S' := T6.setTop (mkF m 114 #[.val (.int p1), .val (.int v3), .val (.ref c0), .val (.int (0 : Int32)), .val (.ref s0), .val (.int (0 : Int32)), .val (.int (0 : Int32))] [])) (fun tZ kZ => XS.icmpNo X6.here hx rfl (hb hby at_111) rfl (teq rfl).2 kZ) ?_
    refine own_by (S' := T6.setTop (mkF m 115 #[.val (.int p1), .val (.int v3), .val (.ref c0), .val (.int (0 : Int32)), .val (.ref s0), .val (.int (0 : Int32)), .val (.int (0 : Int32))] [(.int (1 : Int32))])) (fun tZ kZ => XS.iconst X6.here hx rfl (hb hby at_114) kZ) ?_
    refine own_by (S' := T6.setTop (mkF m 119 #[.val (.int p1), .val (.int v3), .val (.ref c0), .val (.int (0 : Int32)), .val (.ref s0), .val (.int (0 : Int32)), .val (.int (0 : Int32))] [(.int (1 : Int32))])) (fun tZ kZ => XS.goto X6.here hx rfl (pc0 := 115) (pc' := 119) rfl (hb hby at_115) (by decide) (by decide) kZ) ?_
    exact own_retI X6 hx (t := .boolean) Bd.returns (by simp) rfl (hb hby at_119) Bd.notSynchronized (by decide) (by decide) ⟨rfl, N6⟩
  · refine own_by (S' := s₁.setTop (mkF m 17 #[.val (.int p1), .val (.int v3), .unset, .unset, .unset, .unset, .unset] [])) (fun tZ kZ => XS.ifYes X0.here hx rfl (pc0 := 5) (pc' := 17) rfl (hb hby at_5) rfl ((if0 _ _).trans (feq hc0).2) (by decide) (by decide) kZ) ?_
    refine own_by (S' := s₁.setTop (mkF m 18 #[.val (.int p1), .val (.int v3), .unset, .unset, .unset, .unset, .unset] [(.int v3)])) (fun tZ kZ => XS.iloadN X0.here hx rfl (hb hby at_17) rfl kZ) ?_
    refine own_by (S' := s₁.setTop (mkF m 19 #[.val (.int p1), .val (.int v3), .unset, .unset, .unset, .unset, .unset] [(.int (1 : Int32)), (.int v3)])) (fun tZ kZ => XS.iconst X0.here hx rfl (hb hby at_18) kZ) ?_
    by_cases hc1 : v3 = (1 : Int32)
    · refine own_by (S' := s₁.setTop (mkF m 22 #[.val (.int p1), .val (.int v3), .unset, .unset, .unset, .unset, .unset] [])) (fun tZ kZ => XS.icmpNo X0.here hx rfl (hb hby at_19) rfl (teq hc1).2 kZ) ?_
      obtain ⟨T7, X7, e7, st7⟩ := getS2 X0 hx hZ hown (host := "") (Or.inl (hw _ (List.mem_of_getElem? (i := 59) rfl))) Via.refl e0 S1 (g := (mkF m 22 #[.val (.int p1), .val (.int v3), .unset, .unset, .unset, .unset, .unset] [])) rfl (hb hby at_22)
      refine own_by (S' := T7.setTop (mkF m 25 #[.val (.int p1), .val (.int v3), .unset, .unset, .unset, .unset, .unset] [(.ref c1)])) st7 ?_
      refine own_by (S' := T7.setTop (mkF m 26 #[.val (.int p1), .val (.int v3), .val (.ref c1), .unset, .unset, .unset, .unset] [])) (fun tZ kZ => XS.astoreN X7.here hx rfl (hb hby at_25) rfl rfl (l' := #[.val (.int p1), .val (.int v3), .val (.ref c1), .unset, .unset, .unset, .unset]) rfl kZ) ?_
      refine own_by (S' := T7.setTop (mkF m 27 #[.val (.int p1), .val (.int v3), .val (.ref c1), .unset, .unset, .unset, .unset] [(.int (0 : Int32))])) (fun tZ kZ => XS.iconst X7.here hx rfl (hb hby at_26) kZ) ?_
      refine own_by (S' := T7.setTop (mkF m 28 #[.val (.int p1), .val (.int v3), .val (.ref c1), .val (.int (0 : Int32)), .unset, .unset, .unset] [])) (fun tZ kZ => XS.istoreN X7.here hx rfl (hb hby at_27) rfl (l' := #[.val (.int p1), .val (.int v3), .val (.ref c1), .val (.int (0 : Int32)), .unset, .unset, .unset]) rfl kZ) ?_
      refine own_by (S' := T7.setTop (mkF m 51 #[.val (.int p1), .val (.int v3), .val (.ref c1), .val (.int (0 : Int32)), .unset, .unset, .unset] [])) (fun tZ kZ => XS.goto X7.here hx rfl (pc0 := 28) (pc' := 51) rfl (hb hby at_28) (by decide) (by decide) kZ) ?_
      refine own_by (S' := T7.setTop (mkF m 52 #[.val (.int p1), .val (.int v3), .val (.ref c1), .val (.int (0 : Int32)), .unset, .unset, .unset] [(.ref c1)])) (fun tZ kZ => XS.aloadN X7.here hx rfl (hb hby at_51) rfl rfl kZ) ?_
      obtain ⟨cq8, kq8, q8a, q8b, q8c⟩ := isOf hZ e7 E1
      obtain ⟨_, _, ⟨T8, L8, k8, n8⟩, -, X8, ⟨Lc8, hQ8, l8, y8, z8⟩, st8⟩ := X7.virtualBack hx (y := (⟨"com/example/modelwright/modelwright/statement/Cardinality", "suffix", "()Ljava/lang/String;"⟩ : MethodName)) (z := (⟨"com/example/modelwright/modelwright/statement/Cardinality", "suffix", "()Ljava/lang/String;"⟩ : MethodName)) hown (mvT hZ (hw _ (List.mem_of_getElem? (i := 3) rfl))) (mvT hZ (hw _ (List.mem_of_getElem? (i := 4) rfl))) (notFace_of_selects (args := #[]) (mvT hZ (hw _ (List.mem_of_getElem? (i := 6) rfl)))) (mvT hZ (hw _ (List.mem_of_getElem? (i := 6) rfl))) (mvT hZ (hw _ (List.mem_of_getElem? (i := 5) rfl))) (by decide) (backOf (W := 0) (rmSuf l Z a0 hw [] c1 s1 h0 n0 Z0 F1) hZ (hw _ (List.mem_of_getElem? (i := 7) rfl)) (hw _ (List.mem_of_getElem? (i := 1) rfl)) (by decide) (by decide)) q8a q8c (g := (mkF m 52 #[.val (.int p1), .val (.int v3), .val (.ref c1), .val (.int (0 : Int32)), .unset, .unset, .unset] [(.ref c1)])) rfl (by rw [hml]; rfl) (Steps.refl _) (argsL := []) (rest := []) (lenOf pd_5 rfl) rfl (by show 2 * 0 + _ ≤ _; exact Nat.le_of_eq rfl) (hb hby at_52) (fun _ _ => ⟨rfl, e7, (by decide : 0 + 0 ≤ _), (by decide : 0 + 0 ≤ _)⟩)
      dsimp only [Pt.U, Pt.locs, Pt.cells, Pt.slots] at X8 l8 y8 z8 st8 hQ8
      subst l8 y8 z8
      obtain ⟨rfl, N8q, heq8⟩ := hQ8
      have N8 := Fr.app N0 N8q
      refine own_by (S' := T8.setTop (mkF m 55 #[.val (.int p1), .val (.int v3), .val (.ref c1), .val (.int (0 : Int32)), .unset, .unset, .unset] [(.ref s1)])) (fun tZ kZ => st8.trans kZ) ?_
      refine own_by (S' := T8.setTop (mkF m 57 #[.val (.int p1), .val (.int v3), .val (.ref c1), .val (.int (0 : Int32)), .val (.ref s1), .unset, .unset] [])) (fun tZ kZ => XS.astore X8.here hx rfl (hb hby at_55) rfl rfl (l' := #[.val (.int p1), .val (.int v3), .val (.ref c1), .val (.int (0 : Int32)), .val (.ref s1), .unset, .unset]) rfl kZ) ?_
      refine own_by (S' := T8.setTop (mkF m 59 #[.val (.int p1), .val (.int v3), .val (.ref c1), .val (.int (0 : Int32)), .val (.ref s1), .unset, .unset] [(.ref s1)])) (fun tZ kZ => XS.aload X8.here hx rfl (hb hby at_57) rfl rfl kZ) ?_
      obtain ⟨cq9, kq9, q9a, q9b, q9c⟩ := isOf hZ heq8 G1
      obtain ⟨_, _, ⟨T9, L9, k9, n9⟩, -, X9, ⟨Lc9, hQ9, l9, y9, z9⟩, st9⟩ := X8.virtualBack hx (y := (⟨"java/lang/String", "length", "()I"⟩ : MethodName)) (z := (⟨"java/lang/String", "length", "()I"⟩ : MethodName)) hown (mvT hZ (hw _ (List.mem_of_getElem? (i := 10) rfl))) (mvT hZ (hw _ (List.mem_of_getElem? (i := 11) rfl))) (notFace_of_selects (args := #[]) (mvT hZ (hw _ (List.mem_of_getElem? (i := 13) rfl)))) (mvT hZ (hw _ (List.mem_of_getElem? (i := 13) rfl))) (mvT hZ (hw _ (List.mem_of_getElem? (i := 12) rfl))) (by decide) (backOf (W := 0) (rmLen l Z a0 hw [] s1 t1 (0 : Int32) cz k1 h0 n0 Z0 G1 V1 C1 A1 z1 (by decide) Sc hcz) hZ (hw _ (List.mem_of_getElem? (i := 15) rfl)) (hw _ (List.mem_of_getElem? (i := 14) rfl)) (by decide) (by decide)) q9a q9c (g := (mkF m 59 #[.val (.int p1), .val (.int v3), .val (.ref c1), .val (.int (0 : Int32)), .val (.ref s1), .unset, .unset] [(.ref s1)])) rfl (by rw [hml]; rfl) (Steps.refl _) (argsL := []) (rest := []) (lenOf pd_6 rfl) rfl (by show 2 * 0 + _ ≤ _; exact Nat.le_of_eq rfl) (hb hby at_59) (fun _ _ => ⟨rfl, heq8, (by decide : 0 + 0 ≤ _), (by decide : 0 + 0 ≤ _)⟩)
      dsimp only [Pt.U, Pt.locs, Pt.cells, Pt.slots] at X9 l9 y9 z9 st9 hQ9
      subst l9 y9 z9
      obtain ⟨rfl, N9q, heq9⟩ := hQ9
      have N9 := Fr.app N8 N9q
      refine own_by (S' := T9.setTop (mkF m 62 #[.val (.int p1), .val (.int v3), .val (.ref c1), .val (.int (0 : Int32)), .val (.ref s1), .unset, .unset] [(.int (0 : Int32))])) (fun tZ kZ => st9.trans kZ) ?_
      refine own_by (S' := T9.setTop (mkF m 63 #[.val (.int p1), .val (.int v3), .val (.ref c1), .val (.int (0 : Int32)), .val (.ref s1), .unset, .unset] [(.int (1 : Int32)), (.int (0 : Int32))])) (fun tZ kZ => XS.iconst X9.here hx rfl (hb hby at_62) kZ) ?_
      refine own_by (S' := T9.setTop (mkF m 92 #[.val (.int p1), .val (.int v3), .val (.ref c1), .val (.int (0 : Int32)), .val (.ref s1), .unset, .unset] [])) (fun tZ kZ => XS.icmpYes X9.here hx rfl (pc0 := 63) (pc' := 92) rfl (hb hby at_63) rfl (feq (by decide)).2 (by decide) (by decide) kZ) ?_
      refine own_by (S' := T9.setTop (mkF m 93 #[.val (.int p1), .val (.int v3), .val (.ref c1), .val (.int (0 : Int32)), .val (.ref s1), .unset, .unset] [(.int (0 : Int32))])) (fun tZ kZ => XS.iconst X9.here hx rfl (hb hby at_92) kZ) ?_
      refine own_by (S' := T9.setTop (mkF m 95 #[.val (.int p1), .val (.int v3), .val (.ref c1), .val (.int (0 : Int32)), .val (.ref s1), .val (.int (0 : Int32)), .unset] [])) (fun tZ kZ => XS.istore X9.here hx rfl (hb hby at_93) rfl (l' := #[.val (.int p1), .val (.int v3), .val (.ref c1), .val (.int (0 : Int32)), .val (.ref s1), .val (.int (0 : Int32)), .unset]) rfl kZ) ?_
      refine own_by (S' := T9.setTop (mkF m 96 #[.val (.int p1), .val (.int v3), .val (.ref c1), .val (.int (0 : Int32)), .val (.ref s1), .val (.int (0 : Int32)), .unset] [(.ref c1)])) (fun tZ kZ => XS.aloadN X9.here hx rfl (hb hby at_95) rfl rfl kZ) ?_
      obtain ⟨cq10, kq10, q10a, q10b, q10c⟩ := isOf hZ heq9 E1
      obtain ⟨_, _, ⟨T10, L10, k10, n10⟩, -, X10, ⟨Lc10, hQ10, l10, y10, z10⟩, st10⟩ := X9.virtualBack hx (y := (⟨"com/example/modelwright/modelwright/statement/Cardinality", "many", "()Z"⟩ : MethodName)) (z := (⟨"com/example/modelwright/modelwright/statement/Cardinality", "many", "()Z"⟩ : MethodName)) hown (mvT hZ (hw _ (List.mem_of_getElem? (i := 48) rfl))) (mvT hZ (hw _ (List.mem_of_getElem? (i := 49) rfl))) (notFace_of_selects (args := #[]) (mvT hZ (hw _ (List.mem_of_getElem? (i := 51) rfl)))) (mvT hZ (hw _ (List.mem_of_getElem? (i := 51) rfl))) (mvT hZ (hw _ (List.mem_of_getElem? (i := 50) rfl))) (by decide) (backOf (W := 0) (rmMany l Z a0 hw [] c1 c2 c3 h0 n0 Z0 S2 S3) hZ (hw _ (List.mem_of_getElem? (i := 52) rfl)) (hw _ (List.mem_of_getElem? (i := 1) rfl)) (by decide) (by decide)) q10a q10c (g := (mkF m 96 #[.val (.int p1), .val (.int v3), .val (.ref c1), .val (.int (0 : Int32)), .val (.ref s1), .val (.int (0 : Int32)), .unset] [(.ref c1)])) rfl (by rw [hml]; rfl) (Steps.refl _) (argsL := []) (rest := []) (lenOf pd_3 rfl) rfl (by show 2 * 0 + _ ≤ _; exact Nat.le_of_eq rfl) (hb hby at_96) (fun _ _ => ⟨rfl, heq9, (by decide : 0 + 0 ≤ _), (by decide : 0 + 0 ≤ _)⟩)
      dsimp only [Pt.U, Pt.locs, Pt.cells, Pt.slots] at X10 l10 y10 z10 st10 hQ10
      subst l10 y10 z10
      obtain ⟨rfl, N10q, heq10⟩ := hQ10
      have N10 := Fr.app N9 N10q
      refine own_by (S' := T10.setTop (mkF m 99 #[.val (.int p1), .val (.int v3), .val (.ref c1), .val (.int (0 : Int32)), .val (.ref s1), .val (.int (0 : Int32)), .unset] [(.int (if c1 = c2 ∨ c1 = c3 then (1 : Int32) else 0))])) (fun tZ kZ => st10.trans kZ) ?_
      rw [if_neg (fun q => q.elim n12 n13)]
      refine own_by (S' := T10.setTop (mkF m 101 #[.val (.int p1), .val (.int v3), .val (.ref c1), .val (.int (0 : Int32)), .val (.ref s1), .val (.int (0 : Int32)), .val (.int (0 : Int32))] [])) (fun tZ kZ => XS.istore X10.here hx rfl (hb hby at_99) rfl (l' := #[.val (.int p1), .val (.int v3), .val (.ref c1), .val (.int (0 : Int32)), .val (.ref s1), .val (.int (0 : Int32)), .val (.int (0 : Int32))]) rfl kZ) ?_
      refine own_by (S' := T10.setTop (mkF m 103 #[.val (.int p1), .val (.int v3), .val (.ref c1), .val (.int (0 : Int32)), .val (.ref s1), .val (.int (0 : Int32)), .val (.int (0 : Int32))] [(.int (0 : Int32))])) (fun tZ kZ => XS.iload X10.here hx rfl (hb hby at_101) rfl kZ) ?_
      refine own_by (S' := T10.setTop (mkF m 104 #[.val (.int p1), .val (.int v3), .val (.ref c1), .val (.int (0 : Int32)), .val (.ref s1), .val (.int (0 : Int32)), .val (.int (0 : Int32))] [(.int (0 : Int32)), (.int (0 : Int32))])) (fun tZ kZ => XS.iloadN X10.here hx rfl (hb hby at_103) rfl kZ) ?_
      refine own_by (S' := T10.setTop (mkF m 107 #[.val (.int p1), .val (.int v3), .val (.ref c1), .val (.int (0 : Int32)), .val (.ref s1), .val (.int (0 : Int32)), .val (.int (0 : Int32))] [])) (fun tZ kZ => XS.icmpNo X10.here hx rfl (hb hby at_104) rfl (teq rfl).2 kZ) ?_
      refine own_by (S' := T10.setTop (mkF m 109 #[.val (.int p1), .val (.int v3), .val (.ref c1), .val (.int (0 : Int32)), .val (.ref s1), .val (.int (0 : Int32)), .val (.int (0 : Int32))] [(.int (0 : Int32))])) (fun tZ kZ => XS.iload X10.here hx rfl (hb hby at_107) rfl kZ) ?_
      refine own_by (S' := T10.setTop (mkF m 111 #[.val (.int p1), .val (.int v3), .val (.ref c1), .val (.int (0 : Int32)), .val (.ref s1), .val (.int (0 : Int32)), .val (.int (0 : Int32))] [(.int (0 : Int32)), (.int (0 : Int32))])) (fun tZ kZ => XS.iload X10.here hx rfl (hb hby at_109) rfl kZ) ?_
      refine own_by (S' := T10.setTop (mkF m 114 #[.val (.int p1), .val (.int v3), .val (.ref c1), .val (.int (0 : Int32)), .val (.ref s1), .val (.int (0 : Int32)), .val (.int (0 : Int32))] [])) (fun tZ kZ => XS.icmpNo X10.here hx rfl (hb hby at_111) rfl (teq rfl).2 kZ) ?_
      refine own_by (S' := T10.setTop (mkF m 115 #[.val (.int p1), .val (.int v3), .val (.ref c1), .val (.int (0 : Int32)), .val (.ref s1), .val (.int (0 : Int32)), .val (.int (0 : Int32))] [(.int (1 : Int32))])) (fun tZ kZ => XS.iconst X10.here hx rfl (hb hby at_114) kZ) ?_
      refine own_by (S' := T10.setTop (mkF m 119 #[.val (.int p1), .val (.int v3), .val (.ref c1), .val (.int (0 : Int32)), .val (.ref s1), .val (.int (0 : Int32)), .val (.int (0 : Int32))] [(.int (1 : Int32))])) (fun tZ kZ => XS.goto X10.here hx rfl (pc0 := 115) (pc' := 119) rfl (hb hby at_115) (by decide) (by decide) kZ) ?_
      exact own_retI X10 hx (t := .boolean) Bd.returns (by simp) rfl (hb hby at_119) Bd.notSynchronized (by decide) (by decide) ⟨rfl, N10⟩
    · refine own_by (S' := s₁.setTop (mkF m 31 #[.val (.int p1), .val (.int v3), .unset, .unset, .unset, .unset, .unset] [])) (fun tZ kZ => XS.icmpYes X0.here hx rfl (pc0 := 19) (pc' := 31) rfl (hb hby at_19) rfl (feq hc1).2 (by decide) (by decide) kZ) ?_
      refine own_by (S' := s₁.setTop (mkF m 32 #[.val (.int p1), .val (.int v3), .unset, .unset, .unset, .unset, .unset] [(.int v3)])) (fun tZ kZ => XS.iloadN X0.here hx rfl (hb hby at_31) rfl kZ) ?_
      refine own_by (S' := s₁.setTop (mkF m 33 #[.val (.int p1), .val (.int v3), .unset, .unset, .unset, .unset, .unset] [(.int (2 : Int32)), (.int v3)])) (fun tZ kZ => XS.iconst X0.here hx rfl (hb hby at_32) kZ) ?_
      by_cases hc2 : v3 = (2 : Int32)
      · refine own_by (S' := s₁.setTop (mkF m 36 #[.val (.int p1), .val (.int v3), .unset, .unset, .unset, .unset, .unset] [])) (fun tZ kZ => XS.icmpNo X0.here hx rfl (hb hby at_33) rfl (teq hc2).2 kZ) ?_
        obtain ⟨T11, X11, e11, st11⟩ := getS2 X0 hx hZ hown (host := "") (Or.inl (hw _ (List.mem_of_getElem? (i := 58) rfl))) Via.refl e0 S2 (g := (mkF m 36 #[.val (.int p1), .val (.int v3), .unset, .unset, .unset, .unset, .unset] [])) rfl (hb hby at_36)
        refine own_by (S' := T11.setTop (mkF m 39 #[.val (.int p1), .val (.int v3), .unset, .unset, .unset, .unset, .unset] [(.ref c2)])) st11 ?_
        refine own_by (S' := T11.setTop (mkF m 40 #[.val (.int p1), .val (.int v3), .val (.ref c2), .unset, .unset, .unset, .unset] [])) (fun tZ kZ => XS.astoreN X11.here hx rfl (hb hby at_39) rfl rfl (l' := #[.val (.int p1), .val (.int v3), .val (.ref c2), .unset, .unset, .unset, .unset]) rfl kZ) ?_
        refine own_by (S' := T11.setTop (mkF m 41 #[.val (.int p1), .val (.int v3), .val (.ref c2), .unset, .unset, .unset, .unset] [(.int (1 : Int32))])) (fun tZ kZ => XS.iconst X11.here hx rfl (hb hby at_40) kZ) ?_
        refine own_by (S' := T11.setTop (mkF m 42 #[.val (.int p1), .val (.int v3), .val (.ref c2), .val (.int (1 : Int32)), .unset, .unset, .unset] [])) (fun tZ kZ => XS.istoreN X11.here hx rfl (hb hby at_41) rfl (l' := #[.val (.int p1), .val (.int v3), .val (.ref c2), .val (.int (1 : Int32)), .unset, .unset, .unset]) rfl kZ) ?_
        refine own_by (S' := T11.setTop (mkF m 51 #[.val (.int p1), .val (.int v3), .val (.ref c2), .val (.int (1 : Int32)), .unset, .unset, .unset] [])) (fun tZ kZ => XS.goto X11.here hx rfl (pc0 := 42) (pc' := 51) rfl (hb hby at_42) (by decide) (by decide) kZ) ?_
        refine own_by (S' := T11.setTop (mkF m 52 #[.val (.int p1), .val (.int v3), .val (.ref c2), .val (.int (1 : Int32)), .unset, .unset, .unset] [(.ref c2)])) (fun tZ kZ => XS.aloadN X11.here hx rfl (hb hby at_51) rfl rfl kZ) ?_
        obtain ⟨cq12, kq12, q12a, q12b, q12c⟩ := isOf hZ e11 E2
        obtain ⟨_, _, ⟨T12, L12, k12, n12⟩, -, X12, ⟨Lc12, hQ12, l12, y12, z12⟩, st12⟩ := X11.virtualBack hx (y := (⟨"com/example/modelwright/modelwright/statement/Cardinality", "suffix", "()Ljava/lang/String;"⟩ : MethodName)) (z := (⟨"com/example/modelwright/modelwright/statement/Cardinality", "suffix", "()Ljava/lang/String;"⟩ : MethodName)) hown (mvT hZ (hw _ (List.mem_of_getElem? (i := 3) rfl))) (mvT hZ (hw _ (List.mem_of_getElem? (i := 4) rfl))) (notFace_of_selects (args := #[]) (mvT hZ (hw _ (List.mem_of_getElem? (i := 6) rfl)))) (mvT hZ (hw _ (List.mem_of_getElem? (i := 6) rfl))) (mvT hZ (hw _ (List.mem_of_getElem? (i := 5) rfl))) (by decide) (backOf (W := 0) (rmSuf l Z a0 hw [] c2 s2 h0 n0 Z0 F2) hZ (hw _ (List.mem_of_getElem? (i := 7) rfl)) (hw _ (List.mem_of_getElem? (i := 1) rfl)) (by decide) (by decide)) q12a q12c (g := (mkF m 52 #[.val (.int p1), .val (.int v3), .val (.ref c2), .val (.int (1 : Int32)), .unset, .unset, .unset] [(.ref c2)])) rfl (by rw [hml]; rfl) (Steps.refl _) (argsL := []) (rest := []) (lenOf pd_5 rfl) rfl (by show 2 * 0 + _ ≤ _; exact Nat.le_of_eq rfl) (hb hby at_52) (fun _ _ => ⟨rfl, e11, (by decide : 0 + 0 ≤ _), (by decide : 0 + 0 ≤ _)⟩)
        dsimp only [Pt.U, Pt.locs, Pt.cells, Pt.slots] at X12 l12 y12 z12 st12 hQ12
        subst l12 y12 z12
        obtain ⟨rfl, N12q, heq12⟩ := hQ12
        have N12 := Fr.app N0 N12q
        refine own_by (S' := T12.setTop (mkF m 55 #[.val (.int p1), .val (.int v3), .val (.ref c2), .val (.int (1 : Int32)), .unset, .unset, .unset] [(.ref s2)])) (fun tZ kZ => st12.trans kZ) ?_
        refine own_by (S' := T12.setTop (mkF m 57 #[.val (.int p1), .val (.int v3), .val (.ref c2), .val (.int (1 : Int32)), .val (.ref s2), .unset, .unset] [])) (fun tZ kZ => XS.astore X12.here hx rfl (hb hby at_55) rfl rfl (l' := #[.val (.int p1), .val (.int v3), .val (.ref c2), .val (.int (1 : Int32)), .val (.ref s2), .unset, .unset]) rfl kZ) ?_
        refine own_by (S' := T12.setTop (mkF m 59 #[.val (.int p1), .val (.int v3), .val (.ref c2), .val (.int (1 : Int32)), .val (.ref s2), .unset, .unset] [(.ref s2)])) (fun tZ kZ => XS.aload X12.here hx rfl (hb hby at_57) rfl rfl kZ) ?_
        obtain ⟨cq13, kq13, q13a, q13b, q13c⟩ := isOf hZ heq12 G2
        obtain ⟨_, _, ⟨T13, L13, k13, n13⟩, -, X13, ⟨Lc13, hQ13, l13, y13, z13⟩, st13⟩ := X12.virtualBack hx (y := (⟨"java/lang/String", "length", "()I"⟩ : MethodName)) (z := (⟨"java/lang/String", "length", "()I"⟩ : MethodName)) hown (mvT hZ (hw _ (List.mem_of_getElem? (i := 10) rfl))) (mvT hZ (hw _ (List.mem_of_getElem? (i := 11) rfl))) (notFace_of_selects (args := #[]) (mvT hZ (hw _ (List.mem_of_getElem? (i := 13) rfl)))) (mvT hZ (hw _ (List.mem_of_getElem? (i := 13) rfl))) (mvT hZ (hw _ (List.mem_of_getElem? (i := 12) rfl))) (by decide) (backOf (W := 0) (rmLen l Z a0 hw [] s2 t2 (1 : Int32) cz k2 h0 n0 Z0 G2 V2 C2 A2 z2 (by decide) Sc hcz) hZ (hw _ (List.mem_of_getElem? (i := 15) rfl)) (hw _ (List.mem_of_getElem? (i := 14) rfl)) (by decide) (by decide)) q13a q13c (g := (mkF m 59 #[.val (.int p1), .val (.int v3), .val (.ref c2), .val (.int (1 : Int32)), .val (.ref s2), .unset, .unset] [(.ref s2)])) rfl (by rw [hml]; rfl) (Steps.refl _) (argsL := []) (rest := []) (lenOf pd_6 rfl) rfl (by show 2 * 0 + _ ≤ _; exact Nat.le_of_eq rfl) (hb hby at_59) (fun _ _ => ⟨rfl, heq12, (by decide : 0 + 0 ≤ _), (by decide : 0 + 0 ≤ _)⟩)
        dsimp only [Pt.U, Pt.locs, Pt.cells, Pt.slots] at X13 l13 y13 z13 st13 hQ13
        subst l13 y13 z13
        obtain ⟨rfl, N13q, heq13⟩ := hQ13
        have N13 := Fr.app N12 N13q
        refine own_by (S' := T13.setTop (mkF m 62 #[.val (.int p1), .val (.int v3), .val (.ref c2), .val (.int (1 : Int32)), .val (.ref s2), .unset, .unset] [(.int (1 : Int32))])) (fun tZ kZ => st13.trans kZ) ?_
        refine own_by (S' := T13.setTop (mkF m 63 #[.val (.int p1), .val (.int v3), .val (.ref c2), .val (.int (1 : Int32)), .val (.ref s2), .unset, .unset] [(.int (1 : Int32)), (.int (1 : Int32))])) (fun tZ kZ => XS.iconst X13.here hx rfl (hb hby at_62) kZ) ?_
        refine own_by (S' := T13.setTop (mkF m 66 #[.val (.int p1), .val (.int v3), .val (.ref c2), .val (.int (1 : Int32)), .val (.ref s2), .unset, .unset] [])) (fun tZ kZ => XS.icmpNo X13.here hx rfl (hb hby at_63) rfl (teq rfl).2 kZ) ?_
        refine own_by (S' := T13.setTop (mkF m 68 #[.val (.int p1), .val (.int v3), .val (.ref c2), .val (.int (1 : Int32)), .val (.ref s2), .unset, .unset] [(.ref s2)])) (fun tZ kZ => XS.aload X13.here hx rfl (hb hby at_66) rfl rfl kZ) ?_
        refine own_by (S' := T13.setTop (mkF m 69 #[.val (.int p1), .val (.int v3), .val (.ref c2), .val (.int (1 : Int32)), .val (.ref s2), .unset, .unset] [(.int (0 : Int32)), (.ref s2)])) (fun tZ kZ => XS.iconst X13.here hx rfl (hb hby at_68) kZ) ?_
        obtain ⟨cq14, kq14, q14a, q14b, q14c⟩ := isOf hZ heq13 G2
        obtain ⟨_, _, ⟨T14, L14, k14, n14⟩, -, X14, ⟨Lc14, hQ14, l14, y14, z14⟩, st14⟩ := X13.virtualBack hx (y := (⟨"java/lang/String", "charAt", "(I)C"⟩ : MethodName)) (z := (⟨"java/lang/String", "charAt", "(I)C"⟩ : MethodName)) hown (mvT hZ (hw _ (List.mem_of_getElem? (i := 26) rfl))) (mvT hZ (hw _ (List.mem_of_getElem? (i := 27) rfl))) (notFace_of_selects (args := #[]) (mvT hZ (hw _ (List.mem_of_getElem? (i := 29) rfl)))) (mvT hZ (hw _ (List.mem_of_getElem? (i := 29) rfl))) (mvT hZ (hw _ (List.mem_of_getElem? (i := 28) rfl))) (by decide) (backOf (W := 0) (rmCh l Z a0 hw [] s2 t2 (1 : Int32) cz k2 (0 : Int32) (42 : Int32) fm h0 n0 Z0 G2 V2 C2 A2 z2 (by decide) Sc hcz (by decide) (by decide) b2 Sf rf) hZ (hw _ (List.mem_of_getElem? (i := 30) rfl)) (hw _ (List.mem_of_getElem? (i := 14) rfl)) (by decide) (by decide)) q14a q14c (g := (mkF m 69 #[.val (.int p1), .val (.int v3), .val (.ref c2), .val (.int (1 : Int32)), .val (.ref s2), .unset, .unset] [(.int (0 : Int32)), (.ref s2)])) rfl (by rw [hml]; rfl) (Steps.refl _) (argsL := [(.int (0 : Int32))]) (rest := []) (lenOf pd_7 rfl) rfl (by show 2 * 0 + _ ≤ _; exact Nat.le_of_eq rfl) (hb hby at_69) (fun _ _ => ⟨rfl, heq13, (by decide : 0 + 0 ≤ _), (by decide : 0 + 0 ≤ _)⟩)
        dsimp only [Pt.U, Pt.locs, Pt.cells, Pt.slots] at X14 l14 y14 z14 st14 hQ14
        subst l14 y14 z14
        obtain ⟨rfl, N14q, heq14⟩ := hQ14
        have N14 := Fr.app N13 N14q
        refine own_by (S' := T14.setTop (mkF m 72 #[.val (.int p1), .val (.int v3), .val (.ref c2), .val (.int (1 : Int32)), .val (.ref s2), .unset, .unset] [(.int ((42 : Int32) &&& 255))])) (fun tZ kZ => st14.trans kZ) ?_
        refine own_by (S' := T14.setTop (mkF m 74 #[.val (.int p1), .val (.int v3), .val (.ref c2), .val (.int (1 : Int32)), .val (.ref s2), .unset, .unset] [(.int (42 : Int32)), (.int ((42 : Int32) &&& 255))])) (fun tZ kZ => XS.bipush X14.here hx rfl (hb hby at_72) kZ) ?_
        refine own_by (S' := T14.setTop (mkF m 88 #[.val (.int p1), .val (.int v3), .val (.ref c2), .val (.int (1 : Int32)), .val (.ref s2), .unset, .unset] [])) (fun tZ kZ => XS.icmpYes X14.here hx rfl (pc0 := 74) (pc' := 88) rfl (hb hby at_74) rfl (teq (by decide)).1 (by decide) (by decide) kZ) ?_
        refine own_by (S' := T14.setTop (mkF m 89 #[.val (.int p1), .val (.int v3), .val (.ref c2), .val (.int (1 : Int32)), .val (.ref s2), .unset, .unset] [(.int (1 : Int32))])) (fun tZ kZ => XS.iconst X14.here hx rfl (hb hby at_88) kZ) ?_
        refine own_by (S' := T14.setTop (mkF m 93 #[.val (.int p1), .val (.int v3), .val (.ref c2), .val (.int (1 : Int32)), .val (.ref s2), .unset, .unset] [(.int (1 : Int32))])) (fun tZ kZ => XS.goto X14.here hx rfl (pc0 := 89) (pc' := 93) rfl (hb hby at_89) (by decide) (by decide) kZ) ?_
        refine own_by (S' := T14.setTop (mkF m 95 #[.val (.int p1), .val (.int v3), .val (.ref c2), .val (.int (1 : Int32)), .val (.ref s2), .val (.int (1 : Int32)), .unset] [])) (fun tZ kZ => XS.istore X14.here hx rfl (hb hby at_93) rfl (l' := #[.val (.int p1), .val (.int v3), .val (.ref c2), .val (.int (1 : Int32)), .val (.ref s2), .val (.int (1 : Int32)), .unset]) rfl kZ) ?_
        refine own_by (S' := T14.setTop (mkF m 96 #[.val (.int p1), .val (.int v3), .val (.ref c2), .val (.int (1 : Int32)), .val (.ref s2), .val (.int (1 : Int32)), .unset] [(.ref c2)])) (fun tZ kZ => XS.aloadN X14.here hx rfl (hb hby at_95) rfl rfl kZ) ?_
        obtain ⟨cq15, kq15, q15a, q15b, q15c⟩ := isOf hZ heq14 E2
        obtain ⟨_, _, ⟨T15, L15, k15, n15⟩, -, X15, ⟨Lc15, hQ15, l15, y15, z15⟩, st15⟩ := X14.virtualBack hx (y := (⟨"com/example/modelwright/modelwright/statement/Cardinality", "many", "()Z"⟩ : MethodName)) (z := (⟨"com/example/modelwright/modelwright/statement/Cardinality", "many", "()Z"⟩ : MethodName)) hown (mvT hZ (hw _ (List.mem_of_getElem? (i := 48) rfl))) (mvT hZ (hw _ (List.mem_of_getElem? (i := 49) rfl))) (notFace_of_selects (args := #[]) (mvT hZ (hw _ (List.mem_of_getElem? (i := 51) rfl)))) (mvT hZ (hw _ (List.mem_of_getElem? (i := 51) rfl))) (mvT hZ (hw _ (List.mem_of_getElem? (i := 50) rfl))) (by decide) (backOf (W := 0) (rmMany l Z a0 hw [] c2 c2 c3 h0 n0 Z0 S2 S3) hZ (hw _ (List.mem_of_getElem? (i := 52) rfl)) (hw _ (List.mem_of_getElem? (i := 1) rfl)) (by decide) (by decide)) q15a q15c (g := (mkF m 96 #[.val (.int p1), .val (.int v3), .val (.ref c2), .val (.int (1 : Int32)), .val (.ref s2), .val (.int (1 : Int32)), .unset] [(.ref c2)])) rfl (by rw [hml]; rfl) (Steps.refl _) (argsL := []) (rest := []) (lenOf pd_3 rfl) rfl (by show 2 * 0 + _ ≤ _; exact Nat.le_of_eq rfl) (hb hby at_96) (fun _ _ => ⟨rfl, heq14, (by decide : 0 + 0 ≤ _), (by decide : 0 + 0 ≤ _)⟩)
        dsimp only [Pt.U, Pt.locs, Pt.cells, Pt.slots] at X15 l15 y15 z15 st15 hQ15
        subst l15 y15 z15
        obtain ⟨rfl, N15q, heq15⟩ := hQ15
        have N15 := Fr.app N14 N15q
        refine own_by (S' := T15.setTop (mkF m 99 #[.val (.int p1), .val (.int v3), .val (.ref c2), .val (.int (1 : Int32)), .val (.ref s2), .val (.int (1 : Int32)), .unset] [(.int (if c2 = c2 ∨ c2 = c3 then (1 : Int32) else 0))])) (fun tZ kZ => st15.trans kZ) ?_
        rw [if_pos (Or.inl rfl)]
        refine own_by (S' := T15.setTop (mkF m 101 #[.val (.int p1), .val (.int v3), .val (.ref c2), .val (.int (1 : Int32)), .val (.ref s2), .val (.int (1 : Int32)), .val (.int (1 : Int32))] [])) (fun tZ kZ => XS.istore X15.here hx rfl (hb hby at_99) rfl (l' := #[.val (.int p1), .val (.int v3), .val (.ref c2), .val (.int (1 : Int32)), .val (.ref s2), .val (.int (1 : Int32)), .val (.int (1 : Int32))]) rfl kZ) ?_
        refine own_by (S' := T15.setTop (mkF m 103 #[.val (.int p1), .val (.int v3), .val (.ref c2), .val (.int (1 : Int32)), .val (.ref s2), .val (.int (1 : Int32)), .val (.int (1 : Int32))] [(.int (1 : Int32))])) (fun tZ kZ => XS.iload X15.here hx rfl (hb hby at_101) rfl kZ) ?_
        refine own_by (S' := T15.setTop (mkF m 104 #[.val (.int p1), .val (.int v3), .val (.ref c2), .val (.int (1 : Int32)), .val (.ref s2), .val (.int (1 : Int32)), .val (.int (1 : Int32))] [(.int (1 : Int32)), (.int (1 : Int32))])) (fun tZ kZ => XS.iloadN X15.here hx rfl (hb hby at_103) rfl kZ) ?_
        refine own_by (S' := T15.setTop (mkF m 107 #[.val (.int p1), .val (.int v3), .val (.ref c2), .val (.int (1 : Int32)), .val (.ref s2), .val (.int (1 : Int32)), .val (.int (1 : Int32))] [])) (fun tZ kZ => XS.icmpNo X15.here hx rfl (hb hby at_104) rfl (teq rfl).2 kZ) ?_
        refine own_by (S' := T15.setTop (mkF m 109 #[.val (.int p1), .val (.int v3), .val (.ref c2), .val (.int (1 : Int32)), .val (.ref s2), .val (.int (1 : Int32)), .val (.int (1 : Int32))] [(.int (1 : Int32))])) (fun tZ kZ => XS.iload X15.here hx rfl (hb hby at_107) rfl kZ) ?_
        refine own_by (S' := T15.setTop (mkF m 111 #[.val (.int p1), .val (.int v3), .val (.ref c2), .val (.int (1 : Int32)), .val (.ref s2), .val (.int (1 : Int32)), .val (.int (1 : Int32))] [(.int (1 : Int32)), (.int (1 : Int32))])) (fun tZ kZ => XS.iload X15.here hx rfl (hb hby at_109) rfl kZ) ?_
        refine own_by (S' := T15.setTop (mkF m 114 #[.val (.int p1), .val (.int v3), .val (.ref c2), .val (.int (1 : Int32)), .val (.ref s2), .val (.int (1 : Int32)), .val (.int (1 : Int32))] [])) (fun tZ kZ => XS.icmpNo X15.here hx rfl (hb hby at_111) rfl (teq rfl).2 kZ) ?_
        refine own_by (S' := T15.setTop (mkF m 115 #[.val (.int p1), .val (.int v3), .val (.ref c2), .val (.int (1 : Int32)), .val (.ref s2), .val (.int (1 : Int32)), .val (.int (1 : Int32))] [(.int (1 : Int32))])) (fun tZ kZ => XS.iconst X15.here hx rfl (hb hby at_114) kZ) ?_
        refine own_by (S' := T15.setTop (mkF m 119 #[.val (.int p1), .val (.int v3), .val (.ref c2), .val (.int (1 : Int32)), .val (.ref s2), .val (.int (1 : Int32)), .val (.int (1 : Int32))] [(.int (1 : Int32))])) (fun tZ kZ => XS.goto X15.here hx rfl (pc0 := 115) (pc' := 119) rfl (hb hby at_115) (by decide) (by decide) kZ) ?_
        exact own_retI X15 hx (t := .boolean) Bd.returns (by simp) rfl (hb hby at_119) Bd.notSynchronized (by decide) (by decide) ⟨rfl, N15⟩
      · refine own_by (S' := s₁.setTop (mkF m 45 #[.val (.int p1), .val (.int v3), .unset, .unset, .unset, .unset, .unset] [])) (fun tZ kZ => XS.icmpYes X0.here hx rfl (pc0 := 33) (pc' := 45) rfl (hb hby at_33) rfl (feq hc2).2 (by decide) (by decide) kZ) ?_
        obtain ⟨T16, X16, e16, st16⟩ := getS2 X0 hx hZ hown (host := "") (Or.inl (hw _ (List.mem_of_getElem? (i := 57) rfl))) Via.refl e0 S3 (g := (mkF m 45 #[.val (.int p1), .val (.int v3), .unset, .unset, .unset, .unset, .unset] [])) rfl (hb hby at_45)
        refine own_by (S' := T16.setTop (mkF m 48 #[.val (.int p1), .val (.int v3), .unset, .unset, .unset, .unset, .unset] [(.ref c3)])) st16 ?_
        refine own_by (S' := T16.setTop (mkF m 49 #[.val (.int p1), .val (.int v3), .val (.ref c3), .unset, .unset, .unset, .unset] [])) (fun tZ kZ => XS.astoreN X16.here hx rfl (hb hby at_48) rfl rfl (l' := #[.val (.int p1), .val (.int v3), .val (.ref c3), .unset, .unset, .unset, .unset]) rfl kZ) ?_
        refine own_by (S' := T16.setTop (mkF m 50 #[.val (.int p1), .val (.int v3), .val (.ref c3), .unset, .unset, .unset, .unset] [(.int (1 : Int32))])) (fun tZ kZ => XS.iconst X16.here hx rfl (hb hby at_49) kZ) ?_
        refine own_by (S' := T16.setTop (mkF m 51 #[.val (.int p1), .val (.int v3), .val (.ref c3), .val (.int (1 : Int32)), .unset, .unset, .unset] [])) (fun tZ kZ => XS.istoreN X16.here hx rfl (hb hby at_50) rfl (l' := #[.val (.int p1), .val (.int v3), .val (.ref c3), .val (.int (1 : Int32)), .unset, .unset, .unset]) rfl kZ) ?_
        refine own_by (S' := T16.setTop (mkF m 52 #[.val (.int p1), .val (.int v3), .val (.ref c3), .val (.int (1 : Int32)), .unset, .unset, .unset] [(.ref c3)])) (fun tZ kZ => XS.aloadN X16.here hx rfl (hb hby at_51) rfl rfl kZ) ?_
        obtain ⟨cq17, kq17, q17a, q17b, q17c⟩ := isOf hZ e16 E3
        obtain ⟨_, _, ⟨T17, L17, k17, n17⟩, -, X17, ⟨Lc17, hQ17, l17, y17, z17⟩, st17⟩ := X16.virtualBack hx (y := (⟨"com/example/modelwright/modelwright/statement/Cardinality", "suffix", "()Ljava/lang/String;"⟩ : MethodName)) (z := (⟨"com/example/modelwright/modelwright/statement/Cardinality", "suffix", "()Ljava/lang/String;"⟩ : MethodName)) hown (mvT hZ (hw _ (List.mem_of_getElem? (i := 3) rfl))) (mvT hZ (hw _ (List.mem_of_getElem? (i := 4) rfl))) (notFace_of_selects (args := #[]) (mvT hZ (hw _ (List.mem_of_getElem? (i := 6) rfl)))) (mvT hZ (hw _ (List.mem_of_getElem? (i := 6) rfl))) (mvT hZ (hw _ (List.mem_of_getElem? (i := 5) rfl))) (by decide) (backOf (W := 0) (rmSuf l Z a0 hw [] c3 s3 h0 n0 Z0 F3) hZ (hw _ (List.mem_of_getElem? (i := 7) rfl)) (hw _ (List.mem_of_getElem? (i := 1) rfl)) (by decide) (by decide)) q17a q17c (g := (mkF m 52 #[.val (.int p1), .val (.int v3), .val (.ref c3), .val (.int (1 : Int32)), .unset, .unset, .unset] [(.ref c3)])) rfl (by rw [hml]; rfl) (Steps.refl _) (argsL := []) (rest := []) (lenOf pd_5 rfl) rfl (by show 2 * 0 + _ ≤ _; exact Nat.le_of_eq rfl) (hb hby at_52) (fun _ _ => ⟨rfl, e16, (by decide : 0 + 0 ≤ _), (by decide : 0 + 0 ≤ _)⟩)
        dsimp only [Pt.U, Pt.locs, Pt.cells, Pt.slots] at X17 l17 y17 z17 st17 hQ17
        subst l17 y17 z17
        obtain ⟨rfl, N17q, heq17⟩ := hQ17
        have N17 := Fr.app N0 N17q
        refine own_by (S' := T17.setTop (mkF m 55 #[.val (.int p1), .val (.int v3), .val (.ref c3), .val (.int (1 : Int32)), .unset, .unset, .unset] [(.ref s3)])) (fun tZ kZ => st17.trans kZ) ?_
        refine own_by (S' := T17.setTop (mkF m 57 #[.val (.int p1), .val (.int v3), .val (.ref c3), .val (.int (1 : Int32)), .val (.ref s3), .unset, .unset] [])) (fun tZ kZ => XS.astore X17.here hx rfl (hb hby at_55) rfl rfl (l' := #[.val (.int p1), .val (.int v3), .val (.ref c3), .val (.int (1 : Int32)), .val (.ref s3), .unset, .unset]) rfl kZ) ?_
        refine own_by (S' := T17.setTop (mkF m 59 #[.val (.int p1), .val (.int v3), .val (.ref c3), .val (.int (1 : Int32)), .val (.ref s3), .unset, .unset] [(.ref s3)])) (fun tZ kZ => XS.aload X17.here hx rfl (hb hby at_57) rfl rfl kZ) ?_
        obtain ⟨cq18, kq18, q18a, q18b, q18c⟩ := isOf hZ heq17 G3
        obtain ⟨_, _, ⟨T18, L18, k18, n18⟩, -, X18, ⟨Lc18, hQ18, l18, y18, z18⟩, st18⟩ := X17.virtualBack hx (y := (⟨"java/lang/String", "length", "()I"⟩ : MethodName)) (z := (⟨"java/lang/String", "length", "()I"⟩ : MethodName)) hown (mvT hZ (hw _ (List.mem_of_getElem? (i := 10) rfl))) (mvT hZ (hw _ (List.mem_of_getElem? (i := 11) rfl))) (notFace_of_selects (args := #[]) (mvT hZ (hw _ (List.mem_of_getElem? (i := 13) rfl)))) (mvT hZ (hw _ (List.mem_of_getElem? (i := 13) rfl))) (mvT hZ (hw _ (List.mem_of_getElem? (i := 12) rfl))) (by decide) (backOf (W := 0) (rmLen l Z a0 hw [] s3 t3 (1 : Int32) cz k3 h0 n0 Z0 G3 V3 C3 A3 z3 (by decide) Sc hcz) hZ (hw _ (List.mem_of_getElem? (i := 15) rfl)) (hw _ (List.mem_of_getElem? (i := 14) rfl)) (by decide) (by decide)) q18a q18c (g := (mkF m 59 #[.val (.int p1), .val (.int v3), .val (.ref c3), .val (.int (1 : Int32)), .val (.ref s3), .unset, .unset] [(.ref s3)])) rfl (by rw [hml]; rfl) (Steps.refl _) (argsL := []) (rest := []) (lenOf pd_6 rfl) rfl (by show 2 * 0 + _ ≤ _; exact Nat.le_of_eq rfl) (hb hby at_59) (fun _ _ => ⟨rfl, heq17, (by decide : 0 + 0 ≤ _), (by decide : 0 + 0 ≤ _)⟩)
        dsimp only [Pt.U, Pt.locs, Pt.cells, Pt.slots] at X18 l18 y18 z18 st18 hQ18
        subst l18 y18 z18
        obtain ⟨rfl, N18q, heq18⟩ := hQ18
        have N18 := Fr.app N17 N18q
        refine own_by (S' := T18.setTop (mkF m 62 #[.val (.int p1), .val (.int v3), .val (.ref c3), .val (.int (1 : Int32)), .val (.ref s3), .unset, .unset] [(.int (1 : Int32))])) (fun tZ kZ => st18.trans kZ) ?_
        refine own_by (S' := T18.setTop (mkF m 63 #[.val (.int p1), .val (.int v3), .val (.ref c3), .val (.int (1 : Int32)), .val (.ref s3), .unset, .unset] [(.int (1 : Int32)), (.int (1 : Int32))])) (fun tZ kZ => XS.iconst X18.here hx rfl (hb hby at_62) kZ) ?_
        refine own_by (S' := T18.setTop (mkF m 66 #[.val (.int p1), .val (.int v3), .val (.ref c3), .val (.int (1 : Int32)), .val (.ref s3), .unset, .unset] [])) (fun tZ kZ => XS.icmpNo X18.here hx rfl (hb hby at_63) rfl (teq rfl).2 kZ) ?_
        refine own_by (S' := T18.setTop (mkF m 68 #[.val (.int p1), .val (.int v3), .val (.ref c3), .val (.int (1 : Int32)), .val (.ref s3), .unset, .unset] [(.ref s3)])) (fun tZ kZ => XS.aload X18.here hx rfl (hb hby at_66) rfl rfl kZ) ?_
        refine own_by (S' := T18.setTop (mkF m 69 #[.val (.int p1), .val (.int v3), .val (.ref c3), .val (.int (1 : Int32)), .val (.ref s3), .unset, .unset] [(.int (0 : Int32)), (.ref s3)])) (fun tZ kZ => XS.iconst X18.here hx rfl (hb hby at_68) kZ) ?_
        obtain ⟨cq19, kq19, q19a, q19b, q19c⟩ := isOf hZ heq18 G3
        obtain ⟨_, _, ⟨T19, L19, k19, n19⟩, -, X19, ⟨Lc19, hQ19, l19, y19, z19⟩, st19⟩ := X18.virtualBack hx (y := (⟨"java/lang/String", "charAt", "(I)C"⟩ : MethodName)) (z := (⟨"java/lang/String", "charAt", "(I)C"⟩ : MethodName)) hown (mvT hZ (hw _ (List.mem_of_getElem? (i := 26) rfl))) (mvT hZ (hw _ (List.mem_of_getElem? (i := 27) rfl))) (notFace_of_selects (args := #[]) (mvT hZ (hw _ (List.mem_of_getElem? (i := 29) rfl)))) (mvT hZ (hw _ (List.mem_of_getElem? (i := 29) rfl))) (mvT hZ (hw _ (List.mem_of_getElem? (i := 28) rfl))) (by decide) (backOf (W := 0) (rmCh l Z a0 hw [] s3 t3 (1 : Int32) cz k3 (0 : Int32) (43 : Int32) fm h0 n0 Z0 G3 V3 C3 A3 z3 (by decide) Sc hcz (by decide) (by decide) b3 Sf rf) hZ (hw _ (List.mem_of_getElem? (i := 30) rfl)) (hw _ (List.mem_of_getElem? (i := 14) rfl)) (by decide) (by decide)) q19a q19c (g := (mkF m 69 #[.val (.int p1), .val (.int v3), .val (.ref c3), .val (.int (1 : Int32)), .val (.ref s3), .unset, .unset] [(.int (0 : Int32)), (.ref s3)])) rfl (by rw [hml]; rfl) (Steps.refl _) (argsL := [(.int (0 : Int32))]) (rest := []) (lenOf pd_7 rfl) rfl (by show 2 * 0 + _ ≤ _; exact Nat.le_of_eq rfl) (hb hby at_69) (fun _ _ => ⟨rfl, heq18, (by decide : 0 + 0 ≤ _), (by decide : 0 + 0 ≤ _)⟩)
        dsimp only [Pt.U, Pt.locs, Pt.cells, Pt.slots] at X19 l19 y19 z19 st19 hQ19
        subst l19 y19 z19
        obtain ⟨rfl, N19q, heq19⟩ := hQ19
        have N19 := Fr.app N18 N19q
        refine own_by (S' := T19.setTop (mkF m 72 #[.val (.int p1), .val (.int v3), .val (.ref c3), .val (.int (1 : Int32)), .val (.ref s3), .unset, .unset] [(.int ((43 : Int32) &&& 255))])) (fun tZ kZ => st19.trans kZ) ?_
        refine own_by (S' := T19.setTop (mkF m 74 #[.val (.int p1), .val (.int v3), .val (.ref c3), .val (.int (1 : Int32)), .val (.ref s3), .unset, .unset] [(.int (42 : Int32)), (.int ((43 : Int32) &&& 255))])) (fun tZ kZ => XS.bipush X19.here hx rfl (hb hby at_72) kZ) ?_
        refine own_by (S' := T19.setTop (mkF m 77 #[.val (.int p1), .val (.int v3), .val (.ref c3), .val (.int (1 : Int32)), .val (.ref s3), .unset, .unset] [])) (fun tZ kZ => XS.icmpNo X19.here hx rfl (hb hby at_74) rfl (feq (by decide)).1 kZ) ?_
        refine own_by (S' := T19.setTop (mkF m 79 #[.val (.int p1), .val (.int v3), .val (.ref c3), .val (.int (1 : Int32)), .val (.ref s3), .unset, .unset] [(.ref s3)])) (fun tZ kZ => XS.aload X19.here hx rfl (hb hby at_77) rfl rfl kZ) ?_
        refine own_by (S' := T19.setTop (mkF m 80 #[.val (.int p1), .val (.int v3), .val (.ref c3), .val (.int (1 : Int32)), .val (.ref s3), .unset, .unset] [(.int (0 : Int32)), (.ref s3)])) (fun tZ kZ => XS.iconst X19.here hx rfl (hb hby at_79) kZ) ?_
        obtain ⟨cq20, kq20, q20a, q20b, q20c⟩ := isOf hZ heq19 G3
        obtain ⟨_, _, ⟨T20, L20, k20, n20⟩, -, X20, ⟨Lc20, hQ20, l20, y20, z20⟩, st20⟩ := X19.virtualBack hx (y := (⟨"java/lang/String", "charAt", "(I)C"⟩ : MethodName)) (z := (⟨"java/lang/String", "charAt", "(I)C"⟩ : MethodName)) hown (mvT hZ (hw _ (List.mem_of_getElem? (i := 26) rfl))) (mvT hZ (hw _ (List.mem_of_getElem? (i := 27) rfl))) (notFace_of_selects (args := #[]) (mvT hZ (hw _ (List.mem_of_getElem? (i := 29) rfl)))) (mvT hZ (hw _ (List.mem_of_getElem? (i := 29) rfl))) (mvT hZ (hw _ (List.mem_of_getElem? (i := 28) rfl))) (by decide) (backOf (W := 0) (rmCh l Z a0 hw [] s3 t3 (1 : Int32) cz k3 (0 : Int32) (43 : Int32) fm h0 n0 Z0 G3 V3 C3 A3 z3 (by decide) Sc hcz (by decide) (by decide) b3 Sf rf) hZ (hw _ (List.mem_of_getElem? (i := 30) rfl)) (hw _ (List.mem_of_getElem? (i := 14) rfl)) (by decide) (by decide)) q20a q20c (g := (mkF m 80 #[.val (.int p1), .val (.int v3), .val (.ref c3), .val (.int (1 : Int32)), .val (.ref s3), .unset, .unset] [(.int (0 : Int32)), (.ref s3)])) rfl (by rw [hml]; rfl) (Steps.refl _) (argsL := [(.int (0 : Int32))]) (rest := []) (lenOf pd_7 rfl) rfl (by show 2 * 0 + _ ≤ _; exact Nat.le_of_eq rfl) (hb hby at_80) (fun _ _ => ⟨rfl, heq19, (by decide : 0 + 0 ≤ _), (by decide : 0 + 0 ≤ _)⟩)
        dsimp only [Pt.U, Pt.locs, Pt.cells, Pt.slots] at X20 l20 y20 z20 st20 hQ20
        subst l20 y20 z20
        obtain ⟨rfl, N20q, heq20⟩ := hQ20
        have N20 := Fr.app N19 N20q
        refine own_by (S' := T20.setTop (mkF m 83 #[.val (.int p1), .val (.int v3), .val (.ref c3), .val (.int (1 : Int32)), .val (.ref s3), .unset, .unset] [(.int ((43 : Int32) &&& 255))])) (fun tZ kZ => st20.trans kZ) ?_
        refine own_by (S' := T20.setTop (mkF m 85 #[.val (.int p1), .val (.int v3), .val (.ref c3), .val (.int (1 : Int32)), .val (.ref s3), .unset, .unset] [(.int (43 : Int32)), (.int ((43 : Int32) &&& 255))])) (fun tZ kZ => XS.bipush X20.here hx rfl (hb hby at_83) kZ) ?_
        refine own_by (S' := T20.setTop (mkF m 88 #[.val (.int p1), .val (.int v3), .val (.ref c3), .val (.int (1 : Int32)), .val (.ref s3), .unset, .unset] [])) (fun tZ kZ => XS.icmpNo X20.here hx rfl (hb hby at_85) rfl (teq (by decide)).2 kZ) ?_
        refine own_by (S' := T20.setTop (mkF m 89 #[.val (.int p1), .val (.int v3), .val (.ref c3), .val (.int (1 : Int32)), .val (.ref s3), .unset, .unset] [(.int (1 : Int32))])) (fun tZ kZ => XS.iconst X20.here hx rfl (hb hby at_88) kZ) ?_
        refine own_by (S' := T20.setTop (mkF m 93 #[.val (.int p1), .val (.int v3), .val (.ref c3), .val (.int (1 : Int32)), .val (.ref s3), .unset, .unset] [(.int (1 : Int32))])) (fun tZ kZ => XS.goto X20.here hx rfl (pc0 := 89) (pc' := 93) rfl (hb hby at_89) (by decide) (by decide) kZ) ?_
        refine own_by (S' := T20.setTop (mkF m 95 #[.val (.int p1), .val (.int v3), .val (.ref c3), .val (.int (1 : Int32)), .val (.ref s3), .val (.int (1 : Int32)), .unset] [])) (fun tZ kZ => XS.istore X20.here hx rfl (hb hby at_93) rfl (l' := #[.val (.int p1), .val (.int v3), .val (.ref c3), .val (.int (1 : Int32)), .val (.ref s3), .val (.int (1 : Int32)), .unset]) rfl kZ) ?_
        refine own_by (S' := T20.setTop (mkF m 96 #[.val (.int p1), .val (.int v3), .val (.ref c3), .val (.int (1 : Int32)), .val (.ref s3), .val (.int (1 : Int32)), .unset] [(.ref c3)])) (fun tZ kZ => XS.aloadN X20.here hx rfl (hb hby at_95) rfl rfl kZ) ?_
        obtain ⟨cq21, kq21, q21a, q21b, q21c⟩ := isOf hZ heq20 E3
        obtain ⟨_, _, ⟨T21, L21, k21, n21⟩, -, X21, ⟨Lc21, hQ21, l21, y21, z21⟩, st21⟩ := X20.virtualBack hx (y := (⟨"com/example/modelwright/modelwright/statement/Cardinality", "many", "()Z"⟩ : MethodName)) (z := (⟨"com/example/modelwright/modelwright/statement/Cardinality", "many", "()Z"⟩ : MethodName)) hown (mvT hZ (hw _ (List.mem_of_getElem? (i := 48) rfl))) (mvT hZ (hw _ (List.mem_of_getElem? (i := 49) rfl))) (notFace_of_selects (args := #[]) (mvT hZ (hw _ (List.mem_of_getElem? (i := 51) rfl)))) (mvT hZ (hw _ (List.mem_of_getElem? (i := 51) rfl))) (mvT hZ (hw _ (List.mem_of_getElem? (i := 50) rfl))) (by decide) (backOf (W := 0) (rmMany l Z a0 hw [] c3 c2 c3 h0 n0 Z0 S2 S3) hZ (hw _ (List.mem_of_getElem? (i := 52) rfl)) (hw _ (List.mem_of_getElem? (i := 1) rfl)) (by decide) (by decide)) q21a q21c (g := (mkF m 96 #[.val (.int p1), .val (.int v3), .val (.ref c3), .val (.int (1 : Int32)), .val (.ref s3), .val (.int (1 : Int32)), .unset] [(.ref c3)])) rfl (by rw [hml]; rfl) (Steps.refl _) (argsL := []) (rest := []) (lenOf pd_3 rfl) rfl (by show 2 * 0 + _ ≤ _; exact Nat.le_of_eq rfl) (hb hby at_96) (fun _ _ => ⟨rfl, heq20, (by decide : 0 + 0 ≤ _), (by decide : 0 + 0 ≤ _)⟩)
        dsimp only [Pt.U, Pt.locs, Pt.cells, Pt.slots] at X21 l21 y21 z21 st21 hQ21
        subst l21 y21 z21
        obtain ⟨rfl, N21q, heq21⟩ := hQ21
        have N21 := Fr.app N20 N21q
        refine own_by (S' := T21.setTop (mkF m 99 #[.val (.int p1), .val (.int v3), .val (.ref c3), .val (.int (1 : Int32)), .val (.ref s3), .val (.int (1 : Int32)), .unset] [(.int (if c3 = c2 ∨ c3 = c3 then (1 : Int32) else 0))])) (fun tZ kZ => st21.trans kZ) ?_
        rw [if_pos (Or.inr rfl)]
        refine own_by (S' := T21.setTop (mkF m 101 #[.val (.int p1), .val (.int v3), .val (.ref c3), .val (.int (1 : Int32)), .val (.ref s3), .val (.int (1 : Int32)), .val (.int (1 : Int32))] [])) (fun tZ kZ => XS.istore X21.here hx rfl (hb hby at_99) rfl (l' := #[.val (.int p1), .val (.int v3), .val (.ref c3), .val (.int (1 : Int32)), .val (.ref s3), .val (.int (1 : Int32)), .val (.int (1 : Int32))]) rfl kZ) ?_
        refine own_by (S' := T21.setTop (mkF m 103 #[.val (.int p1), .val (.int v3), .val (.ref c3), .val (.int (1 : Int32)), .val (.ref s3), .val (.int (1 : Int32)), .val (.int (1 : Int32))] [(.int (1 : Int32))])) (fun tZ kZ => XS.iload X21.here hx rfl (hb hby at_101) rfl kZ) ?_
        refine own_by (S' := T21.setTop (mkF m 104 #[.val (.int p1), .val (.int v3), .val (.ref c3), .val (.int (1 : Int32)), .val (.ref s3), .val (.int (1 : Int32)), .val (.int (1 : Int32))] [(.int (1 : Int32)), (.int (1 : Int32))])) (fun tZ kZ => XS.iloadN X21.here hx rfl (hb hby at_103) rfl kZ) ?_
        refine own_by (S' := T21.setTop (mkF m 107 #[.val (.int p1), .val (.int v3), .val (.ref c3), .val (.int (1 : Int32)), .val (.ref s3), .val (.int (1 : Int32)), .val (.int (1 : Int32))] [])) (fun tZ kZ => XS.icmpNo X21.here hx rfl (hb hby at_104) rfl (teq rfl).2 kZ) ?_
        refine own_by (S' := T21.setTop (mkF m 109 #[.val (.int p1), .val (.int v3), .val (.ref c3), .val (.int (1 : Int32)), .val (.ref s3), .val (.int (1 : Int32)), .val (.int (1 : Int32))] [(.int (1 : Int32))])) (fun tZ kZ => XS.iload X21.here hx rfl (hb hby at_107) rfl kZ) ?_
        refine own_by (S' := T21.setTop (mkF m 111 #[.val (.int p1), .val (.int v3), .val (.ref c3), .val (.int (1 : Int32)), .val (.ref s3), .val (.int (1 : Int32)), .val (.int (1 : Int32))] [(.int (1 : Int32)), (.int (1 : Int32))])) (fun tZ kZ => XS.iload X21.here hx rfl (hb hby at_109) rfl kZ) ?_
        refine own_by (S' := T21.setTop (mkF m 114 #[.val (.int p1), .val (.int v3), .val (.ref c3), .val (.int (1 : Int32)), .val (.ref s3), .val (.int (1 : Int32)), .val (.int (1 : Int32))] [])) (fun tZ kZ => XS.icmpNo X21.here hx rfl (hb hby at_111) rfl (teq rfl).2 kZ) ?_
        refine own_by (S' := T21.setTop (mkF m 115 #[.val (.int p1), .val (.int v3), .val (.ref c3), .val (.int (1 : Int32)), .val (.ref s3), .val (.int (1 : Int32)), .val (.int (1 : Int32))] [(.int (1 : Int32))])) (fun tZ kZ => XS.iconst X21.here hx rfl (hb hby at_114) kZ) ?_
        refine own_by (S' := T21.setTop (mkF m 119 #[.val (.int p1), .val (.int v3), .val (.ref c3), .val (.int (1 : Int32)), .val (.ref s3), .val (.int (1 : Int32)), .val (.int (1 : Int32))] [(.int (1 : Int32))])) (fun tZ kZ => XS.goto X21.here hx rfl (pc0 := 115) (pc' := 119) rfl (hb hby at_115) (by decide) (by decide) kZ) ?_
        exact own_retI X21 hx (t := .boolean) Bd.returns (by simp) rfl (hb hby at_119) Bd.notSynchronized (by decide) (by decide) ⟨rfl, N21⟩
set_option maxRecDepth 65536 in
set_option maxHeartbeats 40000000 in
theorem comes_1 {Post : Tables → Env → Array Value → State → Outcome → State → Prop} (hpost : ∀ tb e args s v u, (limb_1_1.after args s (.returned v) u = true ∧ limb_1_2.after args s (.returned v) u = true ∧ True) → FrameEnd s (.returned v) u (Jvm.fieldLocs frame_1_writes args s ++ Jvm.arrayLocs frame_1_arrays args s ++ Jvm.staticLocs frame_1_statics s) 0 0 → Post tb e args s (.returned v) u) :
    ArmFor flags0 classFile x code maxLocals ret World_1 tables_1 room_1 Calls_1 rest_1 Pre_1 Post := by
  intro l hfl _ _ p e ha hc hk s m args below hf hA hF happ hP
  obtain ⟨hcalls, hrest, hpre⟩ := hP
  obtain ⟨-, -, -, hnamed, -, -, -, hat⟩ := (Spec.applies_iff hf).mp happ
  obtain ⟨hg, hn⟩ := and_e (Cond.before_iff.mp (show (Jvm.Cond.and given_1 narrow_1).before args s = true from hpre))
  obtain ⟨gc, gr0⟩ := and_e hg
  obtain ⟨w0, rfl⟩ : ∃ w0 : Value, args = #[w0] := by
    have hs : args.size = 1 := by simpa [Cond.value, given_1] using gc
    obtain ⟨L⟩ := args
    match L, hs with
    | [w0], _ => exact ⟨w0, rfl⟩
  have hw := fun d (hd : d ∈ tables_1) => atoms_spec (ws := Jvm.Cond.code x code maxLocals ret :: tables_1) hat d (List.mem_cons_of_mem _ hd)
  have hfit : Fit s := fun {y c} hc i hi => by
    obtain ⟨ha, rfl⟩ := Array.getElem?_eq_some_iff.mp hc
    have q := List.all_eq_true.mp ((Array.all_eq_true_iff_forall_mem.mp hF) _ (Array.getElem_mem ha)) i (List.mem_range.mpr hi)
    simpa [Array.getElem?_eq_getElem hi] using q
  obtain ⟨hsets, hown0⟩ := atoms_of _ (rest_1_c_eq ▸ (show rest_1_c.before _ s = true from hrest))
  have hr0 := Cond.before_iff.mp hown0
  obtain ⟨i0, ei0⟩ := is_v gr0
  obtain rfl : w0 = (.int i0) := Option.some.inj ei0
  obtain ⟨nb0, nc0⟩ := and_e hn
  obtain ⟨nb1, nc1⟩ := and_e nc0
  obtain ⟨nb2, nc2⟩ := and_e nc1
  obtain ⟨nb3, nc3⟩ := and_e nc2
  obtain ⟨nb4, nc4⟩ := and_e nc3
  obtain ⟨nb5, nc5⟩ := and_e nc4
  obtain ⟨nb6, nc6⟩ := and_e nc5
  obtain ⟨nb7, nc7⟩ := and_e nc6
  obtain ⟨nb8, nc8⟩ := and_e nc7
  obtain ⟨nb9, nc9⟩ := and_e nc8
  obtain ⟨nb10, nc10⟩ := and_e nc9
  obtain ⟨nb11, nc11⟩ := and_e nc10
  obtain ⟨nb12, nc12⟩ := and_e nc11
  obtain ⟨nb13, nc13⟩ := and_e nc12
  obtain ⟨nb14, nc14⟩ := and_e nc13
  obtain ⟨nb15, nc15⟩ := and_e nc14
  obtain ⟨nb16, nc16⟩ := and_e nc15
  obtain ⟨nb17, nc17⟩ := and_e nc16
  obtain ⟨nb18, nc18⟩ := and_e nc17
  obtain ⟨nb19, nc19⟩ := and_e nc18
  obtain ⟨nb20, nc20⟩ := and_e nc19
  obtain ⟨nb21, nc21⟩ := and_e nc20
  obtain ⟨nb22, nc22⟩ := and_e nc21
  obtain ⟨nb23, nc23⟩ := and_e nc22
  obtain ⟨nb24, nc24⟩ := and_e nc23
  obtain ⟨nb25, nc25⟩ := and_e nc24
  obtain ⟨c0, ec0⟩ := exa_v nb0
  have S0 : Sta s s.heap "com/example/modelwright/modelwright/statement/Cardinality" "ZERO_OR_ONE" "Lcom/example/modelwright/modelwright/statement/Cardinality;" (.ref c0) := Sta.start ec0 (Or.inr ⟨(hw _ (List.mem_of_getElem? (i := 1) rfl)), (hw _ (List.mem_of_getElem? (i := 2) rfl))⟩)
  have E0 := Exa.start ec0 nb0
  obtain ⟨s0, es0⟩ := exa_v nb1
  have F0 := Fld.start ((fld_at ec0).symm.trans es0)
  have G0 := Exa.start es0 nb1
  obtain ⟨t0, et0⟩ := arr_v nb2
  have V0 := Fld.start ((fld_at es0).symm.trans et0)
  have C0 := Fld.start ((fld_at es0).symm.trans (own_eqI nb4))
  obtain ⟨k0, A0⟩ := Arr.start et0 nb2
  have z0 := own_size et0 A0 nb3
  have o0 := (fld_at ec0).symm.trans (own_eqI nb7)
  have b0 := own_elI et0 A0 nb5
  obtain ⟨c1, ec1⟩ := exa_v nb21
  have S1 : Sta s s.heap "com/example/modelwright/modelwright/statement/Cardinality" "ONE" "Lcom/example/modelwright/modelwright/statement/Cardinality;" (.ref c1) := Sta.start ec1 (Or.inr ⟨(hw _ (List.mem_of_getElem? (i := 1) rfl)), (hw _ (List.mem_of_getElem? (i := 60) rfl))⟩)
  have E1 := Exa.start ec1 nb21
  obtain ⟨s1, es1⟩ := exa_v nb22
  have F1 := Fld.start ((fld_at ec1).symm.trans es1)
  have G1 := Exa.start es1 nb22
  obtain ⟨t1, et1⟩ := arr_v nb23
  have V1 := Fld.start ((fld_at es1).symm.trans et1)
  have C1 := Fld.start ((fld_at es1).symm.trans (own_eqI nb25))
  obtain ⟨k1, A1⟩ := Arr.start et1 nb23
  have z1 := own_size et1 A1 nb24
  have o1 := (fld_at ec1).symm.trans (own_eqI nc25)
  obtain ⟨c2, ec2⟩ := exa_v nb6
  have S2 : Sta s s.heap "com/example/modelwright/modelwright/statement/Cardinality" "ZERO_OR_MORE" "Lcom/example/modelwright/modelwright/statement/Cardinality;" (.ref c2) := Sta.start ec2 (Or.inr ⟨(hw _ (List.mem_of_getElem? (i := 1) rfl)), (hw _ (List.mem_of_getElem? (i := 54) rfl))⟩)
  have E2 := Exa.start ec2 nb6
  obtain ⟨s2, es2⟩ := exa_v nb16
  have F2 := Fld.start ((fld_at ec2).symm.trans es2)
  have G2 := Exa.start es2 nb16
  obtain ⟨t2, et2⟩ := arr_v nb17
  have V2 := Fld.start ((fld_at es2).symm.trans et2)
  have C2 := Fld.start ((fld_at es2).symm.trans (own_eqI nb19))
  obtain ⟨k2, A2⟩ := Arr.start et2 nb17
  have z2 := own_size et2 A2 nb18
  have o2 := (fld_at ec2).symm.trans (own_eqI nb8)
  have b2 := own_elI et2 A2 nb20
  obtain ⟨c3, ec3⟩ := exa_v nb9
  have S3 : Sta s s.heap "com/example/modelwright/modelwright/statement/Cardinality" "ONE_OR_MORE" "Lcom/example/modelwright/modelwright/statement/Cardinality;" (.ref c3) := Sta.start ec3 (Or.inr ⟨(hw _ (List.mem_of_getElem? (i := 1) rfl)), (hw _ (List.mem_of_getElem? (i := 56) rfl))⟩)
  have E3 := Exa.start ec3 nb9
  obtain ⟨s3, es3⟩ := exa_v nb11
  have F3 := Fld.start ((fld_at ec3).symm.trans es3)
  have G3 := Exa.start es3 nb11
  obtain ⟨t3, et3⟩ := arr_v nb12
  have V3 := Fld.start ((fld_at es3).symm.trans et3)
  have C3 := Fld.start ((fld_at es3).symm.trans (own_eqI nb14))
  obtain ⟨k3, A3⟩ := Arr.start et3 nb12
  have z3 := own_size et3 A3 nb13
  have o3 := (fld_at ec3).symm.trans (own_eqI nb10)
  have b3 := own_elI et3 A3 nb15
  have n02 : ¬ c0 = c2 := fun q => by rw [q, o2] at o0; simp at o0
  have n03 : ¬ c0 = c3 := fun q => by rw [q, o3] at o0; simp at o0
  have n12 : ¬ c1 = c2 := fun q => by rw [q, o2] at o1; simp at o1
  have n13 : ¬ c1 = c3 := fun q => by rw [q, o3] at o1; simp at o1
  obtain ⟨cz, ecz⟩ := is_v (Cond.before_iff.mp (hsets _ (List.mem_of_getElem? (i := 1) rfl)))
  have Sc : Sta s s.heap "java/lang/String" "COMPACT_STRINGS" "Z" (.int cz) := Sta.start ecz (Or.inl (hsets _ (List.mem_of_getElem? (i := 0) rfl)))
  have hcz : ¬ cz = 0 := own_ne ecz (Cond.before_iff.mp (hsets _ (List.mem_of_getElem? (i := 2) rfl)))
  obtain ⟨fm, efm, rf⟩ := isR_v (Cond.before_iff.mp (hsets _ (List.mem_of_getElem? (i := 8) rfl)))
  have Sf : Sta s s.heap "jdk/internal/util/Preconditions" "SIOOBE_FORMATTER" "Ljava/util/function/BiFunction;" fm := Sta.start efm (Or.inl (hsets _ (List.mem_of_getElem? (i := 7) rfl)))
  obtain ⟨n, o, h1, h2, h3, _, L, rfl, ⟨rfl, N⟩, hq⟩ := rm0 l s _ hw tables_1 i0 c0 s0 t0 c1 s1 t1 c2 s2 t2 c3 s3 t3 k0 k1 k2 k3 cz fm s.heap s.heap.size (Nat.le_refl _) S0 E0 F0 G0 V0 C0 A0 z0 b0 S1 E1 F1 G1 V1 C1 A1 z1 S2 E2 F2 G2 V2 C2 A2 z2 b2 S3 E3 F3 G3 V3 C3 A3 z3 b3 n02 n03 n12 n13 Sc hcz Sf rf p e ha hc hk s m _ below hf ((Spec.applies_iff_loose hf).mp happ).1 ⟨rfl, State.Warmed39.refl s, rfl⟩ trivial
  refine ⟨n, _, h1, h2, h3, hpost _ _ _ _ _ _ ⟨Cond.after_iff.mpr rfl, Cond.after_iff.mpr (eq_i res_at (Term.int_eval (1)) rfl), trivial⟩ ⟨hq.1, hq.2.1, (hq.2.2.sift fun y hy => Or.inr (N y hy)).mono (by decide) (by decide)⟩⟩
theorem main_1_1 : Claimed_1_1 := comes_1 fun _ _ _ _ _ _ h hF => ⟨h.1, hF⟩
theorem main_1_2 : Claimed_1_2 := comes_1 fun _ _ _ _ _ _ h hF => ⟨h.2.1, hF⟩

end Jvm.Pilot.@@N@@
namespace Jvm.Pilot.@@N@@
open Jvm Jvm.ClassFile Sem Op Lib Jvm.Free Jvm.Stand Jvm.Pilot.@@N@@.Jvm.D
/-! MADE BY PROGRAM (witnessworld.py) out of the Statement's table words and the real class files: 18 classes; the members and pool entries that the words name. The judged class is class 1, her method 1. -/
namespace start1
open Jvm.ClassFile
def u (s : String) : CpInfo := .utf8 (stringToUtf16 s)
/-- a pool by its gaps: so many unusable entries, then the entry; so many at the end -/
def gap : Nat → List CpInfo → List CpInfo
  | 0, r => r
  | n + 1, r => .unusable :: gap n r
def poolList (es : List (Nat × CpInfo)) (last : Nat) : List CpInfo := es.foldr (fun e r => gap e.1 (e.2 :: r)) (gap last [])
def pool (es : List (Nat × CpInfo)) (last : Nat) : Array CpInfo := ⟨poolList es last⟩
def fileOf (pool : Array CpInfo) (this : Nat) (attrs : Array Attribute := #[]) (ms : Array MethodInfo := #[]) (fl : Nat := 33) (sup : Nat := 0) (ifs : Array Nat := #[]) (fds : Array FieldInfo := #[]) : ClassFile where
  minorVersion := 0
  majorVersion := 65
  constantPool := pool
  accessFlags := fl
  thisClass := this
  superClass := sup
  interfaces := ifs
  fields := fds
  methods := ms
  attributes := attrs
def plain (name : String) (sup : Option ClassId) : Class where
  name := name
  kind := .ordinary
  loader := none
  accessFlags := 33
  super := sup
  interfaces := #[]
  cf := none
  fields := #[]
  methods := #[]
  instanceTypes := #[]
  staticTypes := #[]
  resolved := #[]
  callSites := []
  init := .initialized
  statics := none
  mirror := none

def pool0 : Array CpInfo := pool [(5, u "<init>"), (0, u "()V"), (1, .class_ 10), (1, u "java/lang/Object")] 113

def k0m0 : Method := { name := "<init>", desc := "()V", sig := { parameters := [], returnType := none }, accessFlags := 1, code := none }
/-- java/lang/Object -/
def k0 : Class := { plain "java/lang/Object" none with
  accessFlags := 33
  interfaces := #[]
  cf := some (fileOf pool0 8 #[] #[{ accessFlags := 1, nameIndex := 5, descriptorIndex := 6, attributes := #[] }] 33 0 #[] #[])
  fields := #[]
  methods := #[k0m0]
  instanceTypes := #[]
  staticTypes := #[]
  resolved := Array.replicate 124 none
  statics := none }

def pool1 : Array CpInfo := pool [(2, .class_ 4), (1, u "java/lang/Object"), (0, u "<init>"), (0, u "()V"), (0, .fieldref 8 9), (0, .class_ 10), (0, .nameAndType 11 12), (0, u "com/example/modelwright/modelwright/statement/Cardinality"), (0, u "ZERO_OR_ONE"), (0, u "Lcom/example/modelwright/modelwright/statement/Cardinality;"), (0, .fieldref 8 14), (0, .nameAndType 15 12), (0, u "ONE"), (0, .fieldref 8 17), (0, .nameAndType 18 12), (0, u "ZERO_OR_MORE"), (0, .fieldref 8 20), (0, .nameAndType 21 12), (0, u "ONE_OR_MORE"), (0, .methodref 8 23), (0, .nameAndType 24 25), (0, u "suffix"), (0, u "()Ljava/lang/String;"), (0, .methodref 27 28), (0, .class_ 29), (0, .nameAndType 30 31), (0, u "java/lang/String"), (0, u "length"), (0, u "()I"), (0, .methodref 27 33), (0, .nameAndType 34 35), (0, u "charAt"), (0, u "(I)C"), (0, .methodref 8 37), (0, .nameAndType 38 39), (0, u "many"), (0, u "()Z"), (0, .class_ 41), (0, u "com/example/modelwright/modelwright/statement/CardinalityManyPinLaw"), (2, u "law"), (0, u "(I)Z")] 3

def k1m0 : Method := { name := "<init>", desc := "()V", sig := { parameters := [], returnType := none }, accessFlags := 1, code := none }
def k1c1 : Code := { maxStack := 2, maxLocals := 7, code := code, exceptionTable := #[], attributes := #[] }
def k1m1 : Method := { name := "law", desc := "(I)Z", sig := { parameters := [.int], returnType := some .boolean }, accessFlags := 9, code := some k1c1 }
/-- com/example/modelwright/modelwright/statement/CardinalityManyPinLaw -/
def k1 : Class := { plain "com/example/modelwright/modelwright/statement/CardinalityManyPinLaw" (some 0) with
  accessFlags := 49
  interfaces := #[]
  cf := some (fileOf pool1 40 #[] #[{ accessFlags := 1, nameIndex := 5, descriptorIndex := 6, attributes := #[] }, { accessFlags := 9, nameIndex := 44, descriptorIndex := 45, attributes := #[] }] 49 2 #[] #[])
  fields := #[]
  methods := #[k1m0, k1m1]
  instanceTypes := #[]
  staticTypes := #[]
  resolved := Array.replicate 49 none
  statics := none }

def pool2 : Array CpInfo := pool [(1, .class_ 2), (0, u "java/lang/constant/Constable"), (0, .class_ 4), (0, u "java/lang/Object")] 6

/-- java/lang/constant/Constable -/
def k2 : Class := { plain "java/lang/constant/Constable" (some 0) with
  accessFlags := 1537
  interfaces := #[]
  cf := some (fileOf pool2 1 #[] #[] 1537 3 #[] #[])
  fields := #[]
  methods := #[]
  instanceTypes := #[]
  staticTypes := #[]
  resolved := Array.replicate 11 none
  statics := none }

def pool3 : Array CpInfo := pool [(1, .class_ 2), (0, u "java/lang/Comparable"), (0, .class_ 4), (0, u "java/lang/Object")] 7

/-- java/lang/Comparable -/
def k3 : Class := { plain "java/lang/Comparable" (some 0) with
  accessFlags := 1537
  interfaces := #[]
  cf := some (fileOf pool3 1 #[] #[] 1537 3 #[] #[])
  fields := #[]
  methods := #[]
  instanceTypes := #[]
  staticTypes := #[]
  resolved := Array.replicate 12 none
  statics := none }

def pool4 : Array CpInfo := pool [(1, .class_ 2), (0, u "java/io/Serializable"), (0, .class_ 4), (0, u "java/lang/Object")] 2

/-- java/io/Serializable -/
def k4 : Class := { plain "java/io/Serializable" (some 0) with
  accessFlags := 1537
  interfaces := #[]
  cf := some (fileOf pool4 1 #[] #[] 1537 3 #[] #[])
  fields := #[]
  methods := #[]
  instanceTypes := #[]
  staticTypes := #[]
  resolved := Array.replicate 7 none
  statics := none }

def pool5 : Array CpInfo := pool [(2, .class_ 4), (1, u "java/lang/Enum"), (0, u "name"), (0, u "Ljava/lang/String;"), (2, u "ordinal"), (0, u "I"), (1, .class_ 14), (1, u "java/lang/Object"), (4, u "hash"), (86, .class_ 108), (1, u "java/lang/Enum$EnumDesc"), (2, .class_ 112), (0, u "java/lang/constant/Constable"), (0, .class_ 114), (0, u "java/lang/Comparable"), (0, .class_ 116), (0, u "java/io/Serializable")] 87

/-- java/lang/Enum -/
def k5 : Class := { plain "java/lang/Enum" (some 0) with
  accessFlags := 1057
  interfaces := #[2, 3, 4]
  cf := some (fileOf pool5 2 #[.nestMembers #[106]] #[] 1057 12 #[111, 113, 115] #[{ accessFlags := 18, nameIndex := 5, descriptorIndex := 6, attributes := #[] }, { accessFlags := 18, nameIndex := 9, descriptorIndex := 10, attributes := #[] }, { accessFlags := 2, nameIndex := 19, descriptorIndex := 10, attributes := #[] }])
  fields := #[{ name := "name", type := (.object "java/lang/String"), accessFlags := 18, slot := 0, constantValue := 0 }, { name := "ordinal", type := .int, accessFlags := 18, slot := 1, constantValue := 0 }, { name := "hash", type := .int, accessFlags := 2, slot := 2, constantValue := 0 }]
  methods := #[]
  instanceTypes := #[(.object "java/lang/String"), .int, .int]
  staticTypes := #[]
  resolved := Array.replicate 204 none
  statics := none }

def pool6 : Array CpInfo := pool [(1, .class_ 2), (0, u "com/example/modelwright/modelwright/statement/Cardinality"), (2, u "ZERO_OR_ONE"), (0, u "Lcom/example/modelwright/modelwright/statement/Cardinality;"), (2, u "ONE"), (0, .fieldref 1 11), (0, .nameAndType 12 6), (0, u "ZERO_OR_MORE"), (0, .fieldref 1 14), (0, .nameAndType 15 6), (0, u "ONE_OR_MORE"), (2, u "$VALUES"), (0, u "[Lcom/example/modelwright/modelwright/statement/Cardinality;"), (6, .class_ 28), (1, u "java/lang/Enum"), (6, .fieldref 1 36), (0, .nameAndType 37 38), (0, u "suffix"), (0, u "Ljava/lang/String;"), (27, u "()Z"), (1, u "many"), (0, u "()Ljava/lang/String;")] 5

def k6c0 : Code := { maxStack := 2, maxLocals := 1, code := prog_81_method_5_code, exceptionTable := #[], attributes := #[] }
def k6m0 : Method := { name := "many", desc := "()Z", sig := { parameters := [], returnType := some .boolean }, accessFlags := 1, code := some k6c0 }
def k6c1 : Code := { maxStack := 1, maxLocals := 1, code := prog_81_method_6_code, exceptionTable := #[], attributes := #[] }
def k6m1 : Method := { name := "suffix", desc := "()Ljava/lang/String;", sig := { parameters := [], returnType := some (.object "java/lang/String") }, accessFlags := 0, code := some k6c1 }
/-- com/example/modelwright/modelwright/statement/Cardinality -/
def k6 : Class := { plain "com/example/modelwright/modelwright/statement/Cardinality" (some 5) with
  accessFlags := 16433
  interfaces := #[]
  cf := some (fileOf pool6 1 #[] #[{ accessFlags := 1, nameIndex := 68, descriptorIndex := 66, attributes := #[] }, { accessFlags := 0, nameIndex := 37, descriptorIndex := 69, attributes := #[] }] 16433 26 #[] #[{ accessFlags := 16409, nameIndex := 5, descriptorIndex := 6, attributes := #[] }, { accessFlags := 16409, nameIndex := 9, descriptorIndex := 6, attributes := #[] }, { accessFlags := 16409, nameIndex := 12, descriptorIndex := 6, attributes := #[] }, { accessFlags := 16409, nameIndex := 15, descriptorIndex := 6, attributes := #[] }, { accessFlags := 18, nameIndex := 37, descriptorIndex := 38, attributes := #[] }, { accessFlags := 4122, nameIndex := 18, descriptorIndex := 19, attributes := #[] }])
  fields := #[{ name := "ZERO_OR_ONE", type := (.object "com/example/modelwright/modelwright/statement/Cardinality"), accessFlags := 16409, slot := 0, constantValue := 0 }, { name := "ONE", type := (.object "com/example/modelwright/modelwright/statement/Cardinality"), accessFlags := 16409, slot := 1, constantValue := 0 }, { name := "ZERO_OR_MORE", type := (.object "com/example/modelwright/modelwright/statement/Cardinality"), accessFlags := 16409, slot := 2, constantValue := 0 }, { name := "ONE_OR_MORE", type := (.object "com/example/modelwright/modelwright/statement/Cardinality"), accessFlags := 16409, slot := 3, constantValue := 0 }, { name := "suffix", type := (.object "java/lang/String"), accessFlags := 18, slot := 3, constantValue := 0 }, { name := "$VALUES", type := (.array (.object "com/example/modelwright/modelwright/statement/Cardinality")), accessFlags := 4122, slot := 4, constantValue := 0 }]
  methods := #[k6m0, k6m1]
  instanceTypes := #[(.object "java/lang/String"), .int, .int, (.object "java/lang/String")]
  staticTypes := #[(.object "com/example/modelwright/modelwright/statement/Cardinality"), (.object "com/example/modelwright/modelwright/statement/Cardinality"), (.object "com/example/modelwright/modelwright/statement/Cardinality"), (.object "com/example/modelwright/modelwright/statement/Cardinality"), (.array (.object "com/example/modelwright/modelwright/statement/Cardinality"))]
  resolved := Array.replicate 75 none
  statics := some 0 }

def pool7 : Array CpInfo := pool [(2, .class_ 4), (1, u "java/lang/CharSequence"), (42, .class_ 48), (0, u "java/lang/CharSequence$1CodePointIterator"), (10, .class_ 60), (0, u "java/lang/CharSequence$1CharIterator"), (5, .class_ 67), (0, u "java/lang/Object")] 63

/-- java/lang/CharSequence -/
def k7 : Class := { plain "java/lang/CharSequence" (some 0) with
  accessFlags := 1537
  interfaces := #[]
  cf := some (fileOf pool7 2 #[.nestMembers #[47, 59]] #[] 1537 66 #[] #[])
  fields := #[]
  methods := #[]
  instanceTypes := #[]
  staticTypes := #[]
  resolved := Array.replicate 131 none
  statics := none }

def pool8 : Array CpInfo := pool [(1, .class_ 2), (0, u "java/lang/constant/ConstantDesc"), (0, .class_ 4), (0, u "java/lang/Object")] 32

/-- java/lang/constant/ConstantDesc -/
def k8 : Class := { plain "java/lang/constant/ConstantDesc" (some 0) with
  accessFlags := 1537
  interfaces := #[]
  cf := some (fileOf pool8 1 #[] #[] 1537 3 #[] #[])
  fields := #[]
  methods := #[]
  instanceTypes := #[]
  staticTypes := #[]
  resolved := Array.replicate 37 none
  statics := none }

def pool9 : Array CpInfo := pool [(2, .class_ 4), (1, u "java/lang/Object"), (0, u "<init>"), (0, u "()V"), (2, .fieldref 10 11), (0, .class_ 12), (0, .nameAndType 13 14), (0, u "java/lang/String"), (0, u "value"), (0, u "[B"), (0, .fieldref 10 16), (0, .nameAndType 17 18), (0, u "coder"), (0, u "B"), (2, u "hash"), (0, u "I"), (2, u "hashIsZero"), (0, u "Z"), (11, .fieldref 10 39), (0, .nameAndType 40 26), (0, u "COMPACT_STRINGS"), (66, .class_ 109), (1, u "java/lang/StringLatin1"), (32, u "()Z"), (191, u "()I"), (0, .methodref 10 336), (0, .nameAndType 17 337), (0, u "()B"), (25, u "([BI)C"), (27, u "(II)V"), (35, u "(I)C"), (64, .methodref 10 493), (0, .nameAndType 494 142), (0, u "isLatin1"), (0, .methodref 107 496), (0, .nameAndType 497 363), (0, u "charAt"), (3, u "checkIndex"), (5, u "length"), (67, .class_ 576), (0, u "java/lang/CharSequence"), (22, u "CASE_INSENSITIVE_ORDER"), (0, u "Ljava/util/Comparator;"), (452, .fieldref 1054 1055), (0, .class_ 1056), (0, .nameAndType 1057 1058), (0, u "jdk/internal/util/Preconditions"), (0, u "SIOOBE_FORMATTER"), (0, u "Ljava/util/function/BiFunction;"), (0, .methodref 1054 1060), (0, .nameAndType 501 1061), (0, u "(IILjava/util/function/BiFunction;)I"), (39, u "serialPersistentFields"), (0, u "[Ljava/io/ObjectStreamField;"), (0, .class_ 1104), (0, u "java/lang/String$CaseInsensitiveComparator"), (1, .class_ 1107), (0, u "java/io/Serializable"), (0, .class_ 1109), (0, u "java/lang/Comparable"), (0, .class_ 1111), (0, u "java/lang/constant/Constable"), (0, .class_ 1113), (0, u "java/lang/constant/ConstantDesc"), (2, u "serialVersionUID"), (0, u "J"), (3, u "REPL"), (0, u "C"), (2, u "LATIN1"), (1, u "UTF16")] 323

def k9m0 : Method := { name := "<init>", desc := "()V", sig := { parameters := [], returnType := none }, accessFlags := 1, code := none }
def k9c1 : Code := { maxStack := 2, maxLocals := 1, code := jdk_42_method_54_code, exceptionTable := #[], attributes := #[] }
def k9m1 : Method := { name := "length", desc := "()I", sig := { parameters := [], returnType := some .int }, accessFlags := 1, code := some k9c1 }
def k9c2 : Code := { maxStack := 2, maxLocals := 2, code := jdk_42_method_56_code, exceptionTable := #[], attributes := #[] }
def k9m2 : Method := { name := "charAt", desc := "(I)C", sig := { parameters := [.int], returnType := some .char }, accessFlags := 1, code := some k9c2 }
def k9c3 : Code := { maxStack := 1, maxLocals := 1, code := jdk_42_method_152_code, exceptionTable := #[], attributes := #[] }
def k9m3 : Method := { name := "coder", desc := "()B", sig := { parameters := [], returnType := some .byte }, accessFlags := 0, code := some k9c3 }
def k9c4 : Code := { maxStack := 1, maxLocals := 1, code := jdk_42_method_154_code, exceptionTable := #[], attributes := #[] }
def k9m4 : Method := { name := "isLatin1", desc := "()Z", sig := { parameters := [], returnType := some .boolean }, accessFlags := 0, code := some k9c4 }
def k9c5 : Code := { maxStack := 3, maxLocals := 2, code := jdk_42_method_155_code, exceptionTable := #[], attributes := #[] }
def k9m5 : Method := { name := "checkIndex", desc := "(II)V", sig := { parameters := [.int, .int], returnType := none }, accessFlags := 8, code := some k9c5 }
/-- java/lang/String -/
def k9 : Class := { plain "java/lang/String" (some 0) with
  accessFlags := 49
  interfaces := #[4, 3, 7, 2, 8]
  cf := some (fileOf pool9 10 #[.nestMembers #[1103]] #[{ accessFlags := 1, nameIndex := 5, descriptorIndex := 6, attributes := #[] }, { accessFlags := 1, nameIndex := 507, descriptorIndex := 334, attributes := #[] }, { accessFlags := 1, nameIndex := 497, descriptorIndex := 427, attributes := #[] }, { accessFlags := 0, nameIndex := 17, descriptorIndex := 337, attributes := #[] }, { accessFlags := 0, nameIndex := 494, descriptorIndex := 142, attributes := #[] }, { accessFlags := 8, nameIndex := 501, descriptorIndex := 391, attributes := #[] }] 49 2 #[1106, 1108, 575, 1110, 1112] #[{ accessFlags := 18, nameIndex := 13, descriptorIndex := 14, attributes := #[] }, { accessFlags := 18, nameIndex := 17, descriptorIndex := 18, attributes := #[] }, { accessFlags := 2, nameIndex := 21, descriptorIndex := 22, attributes := #[] }, { accessFlags := 2, nameIndex := 25, descriptorIndex := 26, attributes := #[] }, { accessFlags := 26, nameIndex := 1116, descriptorIndex := 1117, attributes := #[] }, { accessFlags := 24, nameIndex := 40, descriptorIndex := 26, attributes := #[] }, { accessFlags := 26, nameIndex := 1101, descriptorIndex := 1102, attributes := #[] }, { accessFlags := 26, nameIndex := 1121, descriptorIndex := 1122, attributes := #[] }, { accessFlags := 25, nameIndex := 599, descriptorIndex := 600, attributes := #[] }, { accessFlags := 24, nameIndex := 1125, descriptorIndex := 18, attributes := #[] }, { accessFlags := 24, nameIndex := 1127, descriptorIndex := 18, attributes := #[] }])
  fields := #[{ name := "value", type := (.array .byte), accessFlags := 18, slot := 0, constantValue := 0 }, { name := "coder", type := .byte, accessFlags := 18, slot := 1, constantValue := 0 }, { name := "hash", type := .int, accessFlags := 2, slot := 2, constantValue := 0 }, { name := "hashIsZero", type := .boolean, accessFlags := 2, slot := 3, constantValue := 0 }, { name := "serialVersionUID", type := .long, accessFlags := 26, slot := 0, constantValue := 0 }, { name := "COMPACT_STRINGS", type := .boolean, accessFlags := 24, slot := 1, constantValue := 0 }, { name := "serialPersistentFields", type := (.array (.object "java/io/ObjectStreamField")), accessFlags := 26, slot := 2, constantValue := 0 }, { name := "REPL", type := .char, accessFlags := 26, slot := 3, constantValue := 0 }, { name := "CASE_INSENSITIVE_ORDER", type := (.object "java/util/Comparator"), accessFlags := 25, slot := 4, constantValue := 0 }, { name := "LATIN1", type := .byte, accessFlags := 24, slot := 5, constantValue := 0 }, { name := "UTF16", type := .byte, accessFlags := 24, slot := 6, constantValue := 0 }]
  methods := #[k9m0, k9m1, k9m2, k9m3, k9m4, k9m5]
  instanceTypes := #[(.array .byte), .byte, .int, .boolean]
  staticTypes := #[.long, .boolean, (.array (.object "java/io/ObjectStreamField")), .char, (.object "java/util/Comparator"), .byte, .byte]
  resolved := Array.replicate 1451 none
  statics := some 1 }

def pool10 : Array CpInfo := pool [(1, .class_ 2), (0, u "java/lang/String"), (1, .class_ 6), (1, u "java/lang/Object"), (0, u "<init>"), (0, u "()V"), (0, .methodref 1 10), (0, .nameAndType 11 12), (0, u "checkIndex"), (0, u "(II)V"), (1, .class_ 16), (1, u "java/lang/StringLatin1"), (36, u "([BI)C"), (67, u "$assertionsDisabled"), (0, u "Z"), (98, .class_ 223), (1, u "java/lang/StringLatin1$LinesSpliterator"), (28, u "charAt"), (137, .class_ 391), (0, u "java/lang/StringLatin1$CharsSpliterator")] 3

def k10m0 : Method := { name := "<init>", desc := "()V", sig := { parameters := [], returnType := none }, accessFlags := 0, code := none }
def k10c1 : Code := { maxStack := 2, maxLocals := 2, code := jdk_43_method_2_code, exceptionTable := #[], attributes := #[] }
def k10m1 : Method := { name := "charAt", desc := "([BI)C", sig := { parameters := [(.array .byte), .int], returnType := some .char }, accessFlags := 9, code := some k10c1 }
/-- java/lang/StringLatin1 -/
def k10 : Class := { plain "java/lang/StringLatin1" (some 0) with
  accessFlags := 48
  interfaces := #[]
  cf := some (fileOf pool10 14 #[.nestMembers #[390, 221]] #[{ accessFlags := 0, nameIndex := 7, descriptorIndex := 8, attributes := #[] }, { accessFlags := 9, nameIndex := 252, descriptorIndex := 53, attributes := #[] }] 48 4 #[] #[{ accessFlags := 4120, nameIndex := 121, descriptorIndex := 122, attributes := #[] }])
  fields := #[{ name := "$assertionsDisabled", type := .boolean, accessFlags := 4120, slot := 0, constantValue := 0 }]
  methods := #[k10m0, k10m1]
  instanceTypes := #[]
  staticTypes := #[.boolean]
  resolved := Array.replicate 395 none
  statics := none }

def pool11 : Array CpInfo := pool [(2, .class_ 4), (1, u "java/lang/Object"), (0, u "<init>"), (0, u "()V"), (17, .class_ 26), (1, u "jdk/internal/util/Preconditions"), (6, u "checkIndex"), (21, .class_ 56), (0, u "jdk/internal/util/Preconditions$4"), (57, .class_ 115), (0, u "jdk/internal/util/Preconditions$1"), (7, u "SIOOBE_FORMATTER"), (0, u "Ljava/util/function/BiFunction;"), (0, .class_ 126), (0, u "jdk/internal/util/Preconditions$2"), (3, u "AIOOBE_FORMATTER"), (0, .class_ 132), (0, u "jdk/internal/util/Preconditions$3"), (3, u "IOOBE_FORMATTER"), (41, u "(IILjava/util/function/BiFunction;)I")] 15

def k11m0 : Method := { name := "<init>", desc := "()V", sig := { parameters := [], returnType := none }, accessFlags := 1, code := none }
def k11c1 : Code := { maxStack := 3, maxLocals := 3, code := jdk_41_method_11_code, exceptionTable := #[], attributes := #[] }
def k11m1 : Method := { name := "checkIndex", desc := "(IILjava/util/function/BiFunction;)I", sig := { parameters := [.int, .int, (.object "java/util/function/BiFunction")], returnType := some .int }, accessFlags := 9, code := some k11c1 }
/-- jdk/internal/util/Preconditions -/
def k11 : Class := { plain "jdk/internal/util/Preconditions" (some 0) with
  accessFlags := 33
  interfaces := #[]
  cf := some (fileOf pool11 24 #[.nestMembers #[55, 131, 125, 114]] #[{ accessFlags := 1, nameIndex := 5, descriptorIndex := 6, attributes := #[] }, { accessFlags := 9, nameIndex := 33, descriptorIndex := 178, attributes := #[] }] 33 2 #[] #[{ accessFlags := 25, nameIndex := 123, descriptorIndex := 124, attributes := #[] }, { accessFlags := 25, nameIndex := 130, descriptorIndex := 124, attributes := #[] }, { accessFlags := 25, nameIndex := 136, descriptorIndex := 124, attributes := #[] }])
  fields := #[{ name := "SIOOBE_FORMATTER", type := (.object "java/util/function/BiFunction"), accessFlags := 25, slot := 0, constantValue := 0 }, { name := "AIOOBE_FORMATTER", type := (.object "java/util/function/BiFunction"), accessFlags := 25, slot := 1, constantValue := 0 }, { name := "IOOBE_FORMATTER", type := (.object "java/util/function/BiFunction"), accessFlags := 25, slot := 2, constantValue := 0 }]
  methods := #[k11m0, k11m1]
  instanceTypes := #[]
  staticTypes := #[(.object "java/util/function/BiFunction"), (.object "java/util/function/BiFunction"), (.object "java/util/function/BiFunction")]
  resolved := Array.replicate 194 none
  statics := some 2 }

def pool12 : Array CpInfo := pool [(9, u "<init>"), (6, .class_ 18), (1, u "java/lang/Object"), (0, u "()V"), (1, .class_ 23), (1, u "jdk/internal/util/ArraysSupport"), (0, u "LOG2_ARRAY_LONG_INDEX_SCALE"), (0, u "I"), (2, u "U"), (0, u "Ljdk/internal/misc/Unsafe;"), (8, u "BIG_ENDIAN"), (0, u "Z"), (8, u "LOG2_BYTE_BIT_SIZE"), (4, u "LOG2_ARRAY_INT_INDEX_SCALE"), (54, u "JLA"), (0, u "Ljdk/internal/access/JavaLangAccess;"), (11, u "LOG2_ARRAY_BOOLEAN_INDEX_SCALE"), (9, u "LOG2_ARRAY_BYTE_INDEX_SCALE"), (5, u "LOG2_ARRAY_CHAR_INDEX_SCALE"), (5, u "LOG2_ARRAY_SHORT_INDEX_SCALE"), (18, u "LOG2_ARRAY_FLOAT_INDEX_SCALE"), (24, u "LOG2_ARRAY_DOUBLE_INDEX_SCALE"), (89, u "T_BOOLEAN"), (2, u "T_CHAR"), (1, u "T_FLOAT"), (1, u "T_DOUBLE"), (1, u "T_BYTE"), (1, u "T_SHORT"), (1, u "T_INT"), (1, u "T_LONG"), (1, u "SOFT_MAX_ARRAY_LENGTH")] 83

def k12m0 : Method := { name := "<init>", desc := "()V", sig := { parameters := [], returnType := none }, accessFlags := 2, code := none }
/-- jdk/internal/util/ArraysSupport -/
def k12 : Class := { plain "jdk/internal/util/ArraysSupport" (some 0) with
  accessFlags := 33
  interfaces := #[]
  cf := some (fileOf pool12 21 #[] #[{ accessFlags := 2, nameIndex := 9, descriptorIndex := 19, attributes := #[] }] 33 16 #[] #[{ accessFlags := 24, nameIndex := 28, descriptorIndex := 29, attributes := #[] }, { accessFlags := 26, nameIndex := 38, descriptorIndex := 39, attributes := #[] }, { accessFlags := 25, nameIndex := 121, descriptorIndex := 25, attributes := #[] }, { accessFlags := 25, nameIndex := 131, descriptorIndex := 25, attributes := #[] }, { accessFlags := 25, nameIndex := 137, descriptorIndex := 25, attributes := #[] }, { accessFlags := 25, nameIndex := 143, descriptorIndex := 25, attributes := #[] }, { accessFlags := 25, nameIndex := 53, descriptorIndex := 25, attributes := #[] }, { accessFlags := 25, nameIndex := 24, descriptorIndex := 25, attributes := #[] }, { accessFlags := 25, nameIndex := 162, descriptorIndex := 25, attributes := #[] }, { accessFlags := 25, nameIndex := 187, descriptorIndex := 25, attributes := #[] }, { accessFlags := 26, nameIndex := 48, descriptorIndex := 25, attributes := #[] }, { accessFlags := 25, nameIndex := 277, descriptorIndex := 25, attributes := #[] }, { accessFlags := 25, nameIndex := 280, descriptorIndex := 25, attributes := #[] }, { accessFlags := 25, nameIndex := 282, descriptorIndex := 25, attributes := #[] }, { accessFlags := 25, nameIndex := 284, descriptorIndex := 25, attributes := #[] }, { accessFlags := 25, nameIndex := 286, descriptorIndex := 25, attributes := #[] }, { accessFlags := 25, nameIndex := 288, descriptorIndex := 25, attributes := #[] }, { accessFlags := 25, nameIndex := 290, descriptorIndex := 25, attributes := #[] }, { accessFlags := 25, nameIndex := 292, descriptorIndex := 25, attributes := #[] }, { accessFlags := 26, nameIndex := 108, descriptorIndex := 109, attributes := #[] }, { accessFlags := 25, nameIndex := 294, descriptorIndex := 25, attributes := #[] }])
  fields := #[{ name := "U", type := (.object "jdk/internal/misc/Unsafe"), accessFlags := 24, slot := 0, constantValue := 0 }, { name := "BIG_ENDIAN", type := .boolean, accessFlags := 26, slot := 1, constantValue := 0 }, { name := "LOG2_ARRAY_BOOLEAN_INDEX_SCALE", type := .int, accessFlags := 25, slot := 2, constantValue := 0 }, { name := "LOG2_ARRAY_BYTE_INDEX_SCALE", type := .int, accessFlags := 25, slot := 3, constantValue := 0 }, { name := "LOG2_ARRAY_CHAR_INDEX_SCALE", type := .int, accessFlags := 25, slot := 4, constantValue := 0 }, { name := "LOG2_ARRAY_SHORT_INDEX_SCALE", type := .int, accessFlags := 25, slot := 5, constantValue := 0 }, { name := "LOG2_ARRAY_INT_INDEX_SCALE", type := .int, accessFlags := 25, slot := 6, constantValue := 0 }, { name := "LOG2_ARRAY_LONG_INDEX_SCALE", type := .int, accessFlags := 25, slot := 7, constantValue := 0 }, { name := "LOG2_ARRAY_FLOAT_INDEX_SCALE", type := .int, accessFlags := 25, slot := 8, constantValue := 0 }, { name := "LOG2_ARRAY_DOUBLE_INDEX_SCALE", type := .int, accessFlags := 25, slot := 9, constantValue := 0 }, { name := "LOG2_BYTE_BIT_SIZE", type := .int, accessFlags := 26, slot := 10, constantValue := 0 }, { name := "T_BOOLEAN", type := .int, accessFlags := 25, slot := 11, constantValue := 0 }, { name := "T_CHAR", type := .int, accessFlags := 25, slot := 12, constantValue := 0 }, { name := "T_FLOAT", type := .int, accessFlags := 25, slot := 13, constantValue := 0 }, { name := "T_DOUBLE", type := .int, accessFlags := 25, slot := 14, constantValue := 0 }, { name := "T_BYTE", type := .int, accessFlags := 25, slot := 15, constantValue := 0 }, { name := "T_SHORT", type := .int, accessFlags := 25, slot := 16, constantValue := 0 }, { name := "T_INT", type := .int, accessFlags := 25, slot := 17, constantValue := 0 }, { name := "T_LONG", type := .int, accessFlags := 25, slot := 18, constantValue := 0 }, { name := "JLA", type := (.object "jdk/internal/access/JavaLangAccess"), accessFlags := 26, slot := 19, constantValue := 0 }, { name := "SOFT_MAX_ARRAY_LENGTH", type := .int, accessFlags := 25, slot := 20, constantValue := 0 }]
  methods := #[k12m0]
  instanceTypes := #[]
  staticTypes := #[(.object "jdk/internal/misc/Unsafe"), .boolean, .int, .int, .int, .int, .int, .int, .int, .int, .int, .int, .int, .int, .int, .int, .int, .int, .int, (.object "jdk/internal/access/JavaLangAccess"), .int]
  resolved := Array.replicate 378 none
  statics := none }

def pool13 : Array CpInfo := pool [(1, u "java/lang/Cloneable"), (0, .class_ 1), (0, u "java/lang/Object"), (0, .class_ 3)] 3

/-- java/lang/Cloneable -/
def k13 : Class := { plain "java/lang/Cloneable" (some 0) with
  accessFlags := 1537
  interfaces := #[]
  cf := some (fileOf pool13 2 #[] #[] 1537 4 #[] #[])
  fields := #[]
  methods := #[]
  instanceTypes := #[]
  staticTypes := #[]
  resolved := Array.replicate 8 none
  statics := none }

/-- the primitive byte -/
def k14 : Class := { plain "byte" none with kind := .primitive 'B', accessFlags := 0x411 }
/-- [B -/
def k15 : Class := { plain "[B" (some 0) with kind := .array 14 .byte, interfaces := #[13, 4], accessFlags := 1041 }

/-- the primitive int -/
def k16 : Class := { plain "int" none with kind := .primitive 'I', accessFlags := 0x411 }
/-- [I -/
def k17 : Class := { plain "[I" (some 0) with kind := .array 16 .int, interfaces := #[13, 4], accessFlags := 1041 }

def heap : Heap := #[{ cls := 6, slots := #[.ref 11, .ref 12, .ref 13, .ref 14, .null], vm := .statics 6 },
  { cls := 9, slots := #[.long 0, .int 1, .null, .int 0, .null, .int 0, .int 0], vm := .statics 9 },
  { cls := 11, slots := #[.null, .null, .null], vm := .statics 11 },
  { cls := 15, slots := #[.int 63], vm := .none },
  { cls := 15, slots := #[], vm := .none },
  { cls := 15, slots := #[.int 42], vm := .none },
  { cls := 15, slots := #[.int 43], vm := .none },
  { cls := 9, slots := #[.ref 3, .int 0, .int 0, .int 0], vm := .none },
  { cls := 9, slots := #[.ref 4, .int 0, .int 0, .int 0], vm := .none },
  { cls := 9, slots := #[.ref 5, .int 0, .int 0, .int 0], vm := .none },
  { cls := 9, slots := #[.ref 6, .int 0, .int 0, .int 0], vm := .none },
  { cls := 6, slots := #[.null, .int 0, .int 0, .ref 7], vm := .none },
  { cls := 6, slots := #[.null, .int 1, .int 0, .ref 8], vm := .none },
  { cls := 6, slots := #[.null, .int 2, .int 0, .ref 9], vm := .none },
  { cls := 6, slots := #[.null, .int 3, .int 0, .ref 10], vm := .none }]
def classes : Array Class := #[k0, k1, k2, k3, k4, k5, k6, k7, k8, k9, k10, k11, k12, k13, k14, k15, k16, k17]
def interned : List (Array UInt16 × Addr) := []
def slotsUsed : Nat := 50
def theMethod : MethodId := ⟨1, 1⟩
def args0 : Array Value := #[.int 5]
def aboutOver (below : List Frame) : State where
  vm := { classes := classes, interned := interned.toArray }
  heap := heap
  slotsUsed := slotsUsed
  threads := #[{ frames := .invoking theMethod args0 :: below }]
def below0 : List Frame := [.native { method := ⟨0, 0⟩, args := #[] }]
def about1 : State := aboutOver below0
def p0 : Program := .bare "" "" ""
def e0 : Env := launch0.env 0 0 0
theorem w_frames : about1.frames = Frame.invoking theMethod args0 :: below0 := rfl
set_option maxRecDepth 65536 in
theorem w_args : argsFit about1.vm theMethod args0 = true := by decide +kernel
set_option maxRecDepth 65536 in
theorem w_heap : heapFits about1 = true := by decide +kernel
set_option maxRecDepth 65536 in
theorem w_runnable : about1.curStatus? = some .runnable := by decide +kernel
set_option maxRecDepth 65536 in
theorem w_alone : about1.alone = true := by decide +kernel
set_option maxRecDepth 65536 in
theorem w_named : about1.methodNamed? x = some theMethod := by decide +kernel
set_option maxRecDepth 65536 in
theorem w_hears : about1.hears theMethod below0 = true := by decide +kernel
set_option maxRecDepth 65536 in
theorem w_ripe : about1.ripe theMethod args0 below0 = true := by decide +kernel
theorem w_running : about1.status = .running := rfl
set_option maxRecDepth 65536 in
theorem w_room : about1.hasRoom e0.platform room_1 = true :=
  launch0.hasRoom_least _ room_1 (by decide +kernel) (by decide +kernel) (by decide +kernel) (by decide +kernel) (by decide +kernel) (by decide +kernel)
theorem allAtoms_all (ts : List Jvm.Cond) (a : Array Jvm.Value) (st : Jvm.State) : (allAtoms ts).before a st = ts.all (fun c => c.before a st) := by
  induction ts with
  | nil => rfl
  | cons c t ih =>
    show (Jvm.Cond.and c (allAtoms t)).before a st = _
    rw [Jvm.Cond.before_and, ih, List.all_cons]
def words1 : List Jvm.Cond := Jvm.Cond.code x code maxLocals ret :: tables_1
/-- a 'code' word, met by the world's own term for the bytes: nothing is compared byte by byte -/
theorem code_word {y : MethodName} {bytes : ByteArray} {mx : Nat} {rt : Option FieldType} {a : Array Value} {s : State} {m : MethodId} {meth : Method} {c : Code} (h1 : s.methodNamed? y = some m) (h2 : s.vm.method? m = some meth) (h3 : meth.code = some c) (h4 : c.code = bytes)
    (h5 : (c.maxLocals == mx && c.exceptionTable.isEmpty && decide (c.maxStack ≤ mostOperands) && decide (meth.sig.returnType = rt) && !meth.locks && decide (parseMethodDescriptor y.desc = some meth.sig)) = true) : (Jvm.Cond.code y bytes mx rt).before a s = true := by
  simp only [Bool.and_eq_true, beq_iff_eq, Bool.not_eq_true', decide_eq_true_eq] at h5
  obtain ⟨⟨⟨⟨⟨g1, g2⟩, g3⟩, g4⟩, g5⟩, g6⟩ := h5
  simp [Cond.before, Cond.holds, Cond.value, h1, h2, h3, h4, g1, g2, g3, g4, g5, g6]
def isCode : Jvm.Cond → Bool
  | .code _ _ _ _ => true
  | _ => false
theorem all_split {L : List Jvm.Cond} {P : Jvm.Cond → Bool} (h1 : L.all (fun c => isCode c || P c) = true) (h2 : ∀ c ∈ L.filter isCode, P c = true) : L.all P = true := by
  refine List.all_eq_true.mpr fun c hc => ?_
  have h := List.all_eq_true.mp h1 c hc
  rcases Bool.eq_false_or_eq_true (isCode c) with hi | hi
  · exact h2 c (List.mem_filter.mpr ⟨hc, hi⟩)
  · simpa [hi] using h
set_option maxRecDepth 65536 in
theorem w_c0 : (Jvm.Cond.code x code maxLocals ret).before args0 about1 = true := code_word (m := ⟨1, 1⟩) (meth := k1m1) (c := k1c1) (by decide +kernel) rfl rfl rfl (by decide +kernel)
set_option maxRecDepth 65536 in
theorem w_c1 : (Jvm.Cond.code ({ cls := "com/example/modelwright/modelwright/statement/Cardinality", name := "suffix", desc := "()Ljava/lang/String;" } : Jvm.MethodName) prog_81_method_6_code (1 : Nat) (Option.some (Jvm.ClassFile.FieldType.object "java/lang/String"))).before args0 about1 = true := code_word (m := ⟨6, 1⟩) (meth := k6m1) (c := k6c1) (by decide +kernel) rfl rfl rfl (by decide +kernel)
set_option maxRecDepth 65536 in
theorem w_c2 : (Jvm.Cond.code ({ cls := "java/lang/String", name := "length", desc := "()I" } : Jvm.MethodName) jdk_42_method_54_code (1 : Nat) (Option.some Jvm.ClassFile.FieldType.int)).before args0 about1 = true := code_word (m := ⟨9, 1⟩) (meth := k9m1) (c := k9c1) (by decide +kernel) rfl rfl rfl (by decide +kernel)
set_option maxRecDepth 65536 in
theorem w_c3 : (Jvm.Cond.code ({ cls := "java/lang/String", name := "coder", desc := "()B" } : Jvm.MethodName) jdk_42_method_152_code (1 : Nat) (Option.some Jvm.ClassFile.FieldType.byte)).before args0 about1 = true := code_word (m := ⟨9, 3⟩) (meth := k9m3) (c := k9c3) (by decide +kernel) rfl rfl rfl (by decide +kernel)
set_option maxRecDepth 65536 in
theorem w_c4 : (Jvm.Cond.code ({ cls := "java/lang/String", name := "charAt", desc := "(I)C" } : Jvm.MethodName) jdk_42_method_56_code (2 : Nat) (Option.some Jvm.ClassFile.FieldType.char)).before args0 about1 = true := code_word (m := ⟨9, 2⟩) (meth := k9m2) (c := k9c2) (by decide +kernel) rfl rfl rfl (by decide +kernel)
set_option maxRecDepth 65536 in
theorem w_c5 : (Jvm.Cond.code ({ cls := "java/lang/String", name := "isLatin1", desc := "()Z" } : Jvm.MethodName) jdk_42_method_154_code (1 : Nat) (Option.some Jvm.ClassFile.FieldType.boolean)).before args0 about1 = true := code_word (m := ⟨9, 4⟩) (meth := k9m4) (c := k9c4) (by decide +kernel) rfl rfl rfl (by decide +kernel)
set_option maxRecDepth 65536 in
theorem w_c6 : (Jvm.Cond.code ({ cls := "java/lang/StringLatin1", name := "charAt", desc := "([BI)C" } : Jvm.MethodName) jdk_43_method_2_code (2 : Nat) (Option.some Jvm.ClassFile.FieldType.char)).before args0 about1 = true := code_word (m := ⟨10, 1⟩) (meth := k10m1) (c := k10c1) (by decide +kernel) rfl rfl rfl (by decide +kernel)
set_option maxRecDepth 65536 in
theorem w_c7 : (Jvm.Cond.code ({ cls := "java/lang/String", name := "checkIndex", desc := "(II)V" } : Jvm.MethodName) jdk_42_method_155_code (2 : Nat) (Option.none : Option Jvm.ClassFile.FieldType)).before args0 about1 = true := code_word (m := ⟨9, 5⟩) (meth := k9m5) (c := k9c5) (by decide +kernel) rfl rfl rfl (by decide +kernel)
set_option maxRecDepth 65536 in
theorem w_c8 : (Jvm.Cond.code ({ cls := "jdk/internal/util/Preconditions", name := "checkIndex", desc := "(IILjava/util/function/BiFunction;)I" } : Jvm.MethodName) jdk_41_method_11_code (3 : Nat) (Option.some Jvm.ClassFile.FieldType.int)).before args0 about1 = true := code_word (m := ⟨11, 1⟩) (meth := k11m1) (c := k11c1) (by decide +kernel) rfl rfl rfl (by decide +kernel)
set_option maxRecDepth 65536 in
theorem w_c9 : (Jvm.Cond.code ({ cls := "com/example/modelwright/modelwright/statement/Cardinality", name := "many", desc := "()Z" } : Jvm.MethodName) prog_81_method_5_code (1 : Nat) (Option.some Jvm.ClassFile.FieldType.boolean)).before args0 about1 = true := code_word (m := ⟨6, 0⟩) (meth := k6m0) (c := k6c0) (by decide +kernel) rfl rfl rfl (by decide +kernel)
def codes1 : List Jvm.Cond := [Jvm.Cond.code x code maxLocals ret, Jvm.Cond.code ({ cls := "com/example/modelwright/modelwright/statement/Cardinality", name := "suffix", desc := "()Ljava/lang/String;" } : Jvm.MethodName) prog_81_method_6_code (1 : Nat) (Option.some (Jvm.ClassFile.FieldType.object "java/lang/String")), Jvm.Cond.code ({ cls := "java/lang/String", name := "length", desc := "()I" } : Jvm.MethodName) jdk_42_method_54_code (1 : Nat) (Option.some Jvm.ClassFile.FieldType.int), Jvm.Cond.code ({ cls := "java/lang/String", name := "coder", desc := "()B" } : Jvm.MethodName) jdk_42_method_152_code (1 : Nat) (Option.some Jvm.ClassFile.FieldType.byte), Jvm.Cond.code ({ cls := "java/lang/String", name := "charAt", desc := "(I)C" } : Jvm.MethodName) jdk_42_method_56_code (2 : Nat) (Option.some Jvm.ClassFile.FieldType.char), Jvm.Cond.code ({ cls := "java/lang/String", name := "isLatin1", desc := "()Z" } : Jvm.MethodName) jdk_42_method_154_code (1 : Nat) (Option.some Jvm.ClassFile.FieldType.boolean), Jvm.Cond.code ({ cls := "java/lang/StringLatin1", name := "charAt", desc := "([BI)C" } : Jvm.MethodName) jdk_43_method_2_code (2 : Nat) (Option.some Jvm.ClassFile.FieldType.char), Jvm.Cond.code ({ cls := "java/lang/String", name := "checkIndex", desc := "(II)V" } : Jvm.MethodName) jdk_42_method_155_code (2 : Nat) (Option.none : Option Jvm.ClassFile.FieldType), Jvm.Cond.code ({ cls := "jdk/internal/util/Preconditions", name := "checkIndex", desc := "(IILjava/util/function/BiFunction;)I" } : Jvm.MethodName) jdk_41_method_11_code (3 : Nat) (Option.some Jvm.ClassFile.FieldType.int), Jvm.Cond.code ({ cls := "com/example/modelwright/modelwright/statement/Cardinality", name := "many", desc := "()Z" } : Jvm.MethodName) prog_81_method_5_code (1 : Nat) (Option.some Jvm.ClassFile.FieldType.boolean)]
set_option maxRecDepth 65536 in
theorem codes_eq : words1.filter isCode = codes1 := rfl
theorem w_codes : ∀ c ∈ words1.filter isCode, c.before args0 about1 = true := by
  rw [codes_eq]
  intro c hc
  simp only [codes1, List.mem_cons, List.not_mem_nil, or_false] at hc
  rcases hc with rfl | rfl | rfl | rfl | rfl | rfl | rfl | rfl | rfl | rfl
  · exact w_c0
  · exact w_c1
  · exact w_c2
  · exact w_c3
  · exact w_c4
  · exact w_c5
  · exact w_c6
  · exact w_c7
  · exact w_c8
  · exact w_c9
set_option maxRecDepth 65536 in
theorem w_t1 : (words1.take 24).all (fun c => isCode c || c.before args0 about1) = true := by decide +kernel
set_option maxRecDepth 65536 in
theorem w_t2 : ((words1.drop 24).take 24).all (fun c => isCode c || c.before args0 about1) = true := by decide +kernel
set_option maxRecDepth 65536 in
theorem w_t3 : ((words1.drop 24).drop 24).all (fun c => isCode c || c.before args0 about1) = true := by decide +kernel
theorem w_tables : (allAtoms (Jvm.Cond.code x code maxLocals ret :: tables_1)).before args0 about1 = true := by
  rw [allAtoms_all]
  show words1.all (fun c => c.before args0 about1) = true
  refine all_split ?_ w_codes
  rw [← List.take_append_drop 24 words1, List.all_append, w_t1, ← List.take_append_drop 24 (words1.drop 24), List.all_append, w_t2, w_t3]
  rfl
set_option maxRecDepth 65536 in
theorem w_rest : rest_1_c.before args0 about1 = true := by decide +kernel
set_option maxRecDepth 65536 in
theorem w_case : (Jvm.Cond.and given_1 narrow_1).before args0 about1 = true := by decide +kernel
theorem w_applies : (headSpec (Jvm.Cond.code x code maxLocals ret :: tables_1) room_1).applies x e0.platform about1 = true :=
  (Spec.applies_iff w_frames).mpr ⟨w_running, w_runnable, w_alone, w_named, w_hears, w_ripe, w_room, w_tables⟩
theorem atStart : AtStart classFile x code maxLocals ret World_1 tables_1 room_1 Calls_1 rest_1 Pre_1 launch0 p0 e0 about1 theMethod args0 below0 :=
  ⟨lists_1, trivial, launch0.admits_env _ _ _, launch0.least_env, fairChoices_fair.cas, fairChoices_fair.clock, w_frames, w_args, w_heap, w_applies, trivial, w_rest, w_case⟩
end start1
theorem witness_1 : WitnessClaimed_1 := ⟨start1.p0, start1.e0, start1.about1, start1.theMethod, start1.args0, start1.below0, start1.atStart⟩
end Jvm.Pilot.@@N@@
