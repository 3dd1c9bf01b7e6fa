import JvmDerived
import JvmDerived.Pilot.@@N@@Statement
import JvmDerived.Pilot.@@N@@Code
set_option linter.unusedVariables false
set_option linter.unusedSimpArgs false
namespace Jvm.Pilot.@@N@@
open Jvm Jvm.ClassFile Sem Op Lib Jvm.Free Jvm.Stand Jvm.LawKit Jvm.RoadKit Bundle Jvm.Pilot.@@N@@.Jvm.D
section Own
variable {p : Program} {l : Launch} {e : Env} {R : Room} {s : State} {m : MethodId} {args : Array Value} {below : List Frame} {meth : Method} {c : Code} {T : State} {locs : List Loc} {cells slots : Nat}
/-- from S the run comes to an end that E tells -/
def OwnG (p : Program) (e : Env) (below : List Frame) (E : Outcome → State → Prop) (S : State) : Prop :=
  ∃ s₂ o, Steps p.tables e below S s₂ ∧ s₂.status = .running ∧ Ended s₂ below o ∧ E o s₂
/-- it returned, Q holds of the value and the heap, and the frame is k new cells of n slots -/
def OwnE (s : State) (Q : Option Value → Heap → List Loc → Prop) (k n : Nat) (o : Outcome) (U : State) : Prop :=
  ∃ v L, o = .returned v ∧ Q v U.heap L ∧ FrameEnd s o U L k n
theorem own_by {E : Outcome → State → Prop} {S S' : State} (h : ∀ t, Steps p.tables e below S' t → Steps p.tables e below S t) (g : OwnG p e below E S') : OwnG p e below E S := by
  obtain ⟨s2, o, h1, r⟩ := g
  exact ⟨s2, o, h _ h1, r⟩
theorem own_ret (X : Stand p l e R s m args below meth c T locs cells slots) (hx : p.tables.exec = Jvm.exec) {pc : Nat} {Ls : Array Slot} {w : Value} {t : FieldType} {i : Instr} {rest : List Value} (hret : meth.sig.returnType = some t) (hn : narrow t w = w)
    (hi : (i = .ireturn ∧ (t = .int ∨ t = .boolean ∨ t = .byte ∨ t = .char ∨ t = .short) ∧ ∃ z, w = .int z) ∨ (i = .lreturn ∧ t = .long ∧ ∃ z, w = .long z) ∨ (i = .dreturn ∧ t = .double ∧ ∃ z, w = .double z) ∨ (i = .freturn ∧ t = .float ∧ ∃ z, w = .float z) ∨ (i = .areturn ∧ t.isReference = true ∧ w.isRef = true))
    (hd : decode c.code pc = .ok (i, 1)) (hlk : meth.locks = false) {Q : Option Value → Heap → List Loc → Prop} {k n : Nat} (hk : cells ≤ k) (hs : slots ≤ n) (hQ : Q (some w) T.heap locs) : OwnG p e below (OwnE s Q k n) (T.setTop (mkF m pc Ls (w :: rest))) := by
  obtain ⟨fs, hr, hrun, hended, hW, hsame⟩ := X.leave (v := some w) (fun h => by rw [hret] at h; cases h) hlk
  exact ⟨_, _, retOut X hx hret hn hi hd hr, hrun, hended, _, _, rfl, hQ, ⟨_, rfl⟩, hW, hsame.mono hk hs⟩
theorem own_retI (X : Stand p l e R s m args below meth c T locs cells slots) (hx : p.tables.exec = Jvm.exec) {pc : Nat} {Ls : Array Slot} {z : Int32} {t : FieldType} {rest : List Value} (hret : meth.sig.returnType = some t) (ht : t = .int ∨ t = .boolean ∨ t = .byte ∨ t = .char ∨ t = .short) (hn : narrow t (.int z) = .int z)
    (hd : decode c.code pc = .ok (.ireturn, 1)) (hlk : meth.locks = false) {Q : Option Value → Heap → List Loc → Prop} {k n : Nat} (hk : cells ≤ k) (hs : slots ≤ n) (hQ : Q (some (.int z)) T.heap locs) : OwnG p e below (OwnE s Q k n) (T.setTop (mkF m pc Ls (.int z :: rest))) :=
  own_ret X hx hret hn (Or.inl ⟨rfl, ht, _, rfl⟩) hd hlk hk hs hQ
theorem own_retL (X : Stand p l e R s m args below meth c T locs cells slots) (hx : p.tables.exec = Jvm.exec) {pc : Nat} {Ls : Array Slot} {z : Int64} {rest : List Value} (hret : meth.sig.returnType = some .long)
    (hd : decode c.code pc = .ok (.lreturn, 1)) (hlk : meth.locks = false) {Q : Option Value → Heap → List Loc → Prop} {k n : Nat} (hk : cells ≤ k) (hs : slots ≤ n) (hQ : Q (some (.long z)) T.heap locs) : OwnG p e below (OwnE s Q k n) (T.setTop (mkF m pc Ls (.long z :: rest))) :=
  own_ret X hx hret rfl (Or.inr (Or.inl ⟨rfl, rfl, _, rfl⟩)) hd hlk hk hs hQ
theorem own_retD (X : Stand p l e R s m args below meth c T locs cells slots) (hx : p.tables.exec = Jvm.exec) {pc : Nat} {Ls : Array Slot} {z : UInt64} {rest : List Value} (hret : meth.sig.returnType = some .double)
    (hd : decode c.code pc = .ok (.dreturn, 1)) (hlk : meth.locks = false) {Q : Option Value → Heap → List Loc → Prop} {k n : Nat} (hk : cells ≤ k) (hs : slots ≤ n) (hQ : Q (some (.double z)) T.heap locs) : OwnG p e below (OwnE s Q k n) (T.setTop (mkF m pc Ls (.double z :: rest))) :=
  own_ret X hx hret rfl (Or.inr (Or.inr (Or.inl ⟨rfl, rfl, _, rfl⟩))) hd hlk hk hs hQ
theorem own_narR {t : FieldType} (ht : t.isReference = true) {w : Value} (hw : w.isRef = true) : narrow t w = w := by
  cases t <;> cases w <;> first | rfl | (simp [FieldType.isReference] at ht; done) | (simp [Value.isRef] at hw; done)
theorem own_retA (X : Stand p l e R s m args below meth c T locs cells slots) (hx : p.tables.exec = Jvm.exec) {pc : Nat} {Ls : Array Slot} {w : Value} {t : FieldType} {rest : List Value} (hret : meth.sig.returnType = some t) (ht : t.isReference = true) (hw : w.isRef = true)
    (hd : decode c.code pc = .ok (.areturn, 1)) (hlk : meth.locks = false) {Q : Option Value → Heap → List Loc → Prop} {k n : Nat} (hk : cells ≤ k) (hs : slots ≤ n) (hQ : Q (some w) T.heap locs) : OwnG p e below (OwnE s Q k n) (T.setTop (mkF m pc Ls (w :: rest))) :=
  own_ret X hx hret (own_narR ht hw) (Or.inr (Or.inr (Or.inr (Or.inr ⟨rfl, ht, hw⟩)))) hd hlk hk hs hQ
theorem own_ret0 (X : Stand p l e R s m args below meth c T locs cells slots) (hx : p.tables.exec = Jvm.exec) {pc : Nat} {Ls : Array Slot} (hret : meth.sig.returnType = none)
    (hd : decode c.code pc = .ok (.return_, 1)) (hlk : meth.locks = false) {Q : Option Value → Heap → List Loc → Prop} {k n : Nat} (hk : cells ≤ k) (hs : slots ≤ n) (hQ : Q none T.heap locs) : OwnG p e below (OwnE s Q k n) (T.setTop (mkF m pc Ls [])) := by
  obtain ⟨fs, hr, hrun, hended, hW, hsame⟩ := X.leave (v := none) (fun _ => rfl) hlk
  exact ⟨_, _, X.returnOut hx hret hd hr, hrun, hended, _, _, rfl, hQ, ⟨_, rfl⟩, hW, hsame.mono hk hs⟩
/-- the same, where the walk may have interned -/
def OwnEW (s : State) (Q : Option Value → Heap → List Loc → Prop) (k n : Nat) (o : Outcome) (U : State) : Prop :=
  ∃ v L, o = .returned v ∧ Q v U.heap L ∧ ReturnedEndW s o U L k n
theorem own_endW {s U : State} {o : Outcome} {L : List Loc} {k n k' n' : Nat} (h : ReturnedEndW s o U L k n) (hk : k ≤ k') (hn : n ≤ n') : ReturnedEndW s o U L k' n' := ⟨h.1, h.2.1, h.2.2.1, h.2.2.2.mono hk hn⟩
theorem own_retW {vm₁ : Vm} (X : Stand p l e R (s.setVm vm₁) m args below meth c T locs cells slots) {n1 : Nat} (hS : s.Since vm₁ n1) (hn1 : n1 ≤ T.heap.size) (hx : p.tables.exec = Jvm.exec) {pc : Nat} {Ls : Array Slot} {w : Value} {t : FieldType} {i : Instr} {rest : List Value} (hret : meth.sig.returnType = some t) (hn : narrow t w = w)
    (hi : (i = .ireturn ∧ (t = .int ∨ t = .boolean ∨ t = .byte ∨ t = .char ∨ t = .short) ∧ ∃ z, w = .int z) ∨ (i = .lreturn ∧ t = .long ∧ ∃ z, w = .long z) ∨ (i = .dreturn ∧ t = .double ∧ ∃ z, w = .double z) ∨ (i = .freturn ∧ t = .float ∧ ∃ z, w = .float z) ∨ (i = .areturn ∧ t.isReference = true ∧ w.isRef = true))
    (hd : decode c.code pc = .ok (i, 1)) (hlk : meth.locks = false) {Q : Option Value → Heap → List Loc → Prop} {k n : Nat} (hk : cells ≤ k) (hs : slots ≤ n) (hQ : Q (some w) T.heap locs) : OwnG p e below (OwnEW s Q k n) (T.setTop (mkF m pc Ls (w :: rest))) := by
  obtain ⟨fs, hr, hrun, hended, hE⟩ := X.leaveW hS hn1 (v := some w) (fun h => by rw [hret] at h; cases h) hlk
  exact ⟨_, _, retOut X hx hret hn hi hd hr, hrun, hended, _, _, rfl, hQ, own_endW hE hk hs⟩
theorem own_retWI {vm₁ : Vm} (X : Stand p l e R (s.setVm vm₁) m args below meth c T locs cells slots) {n1 : Nat} (hS : s.Since vm₁ n1) (hn1 : n1 ≤ T.heap.size) (hx : p.tables.exec = Jvm.exec) {pc : Nat} {Ls : Array Slot} {z : Int32} {t : FieldType} {rest : List Value} (hret : meth.sig.returnType = some t) (ht : t = .int ∨ t = .boolean ∨ t = .byte ∨ t = .char ∨ t = .short) (hn : narrow t (.int z) = .int z)
    (hd : decode c.code pc = .ok (.ireturn, 1)) (hlk : meth.locks = false) {Q : Option Value → Heap → List Loc → Prop} {k n : Nat} (hk : cells ≤ k) (hs : slots ≤ n) (hQ : Q (some (.int z)) T.heap locs) : OwnG p e below (OwnEW s Q k n) (T.setTop (mkF m pc Ls (.int z :: rest))) :=
  own_retW X hS hn1 hx hret hn (Or.inl ⟨rfl, ht, _, rfl⟩) hd hlk hk hs hQ
theorem own_retWA {vm₁ : Vm} (X : Stand p l e R (s.setVm vm₁) m args below meth c T locs cells slots) {n1 : Nat} (hS : s.Since vm₁ n1) (hn1 : n1 ≤ T.heap.size) (hx : p.tables.exec = Jvm.exec) {pc : Nat} {Ls : Array Slot} {w : Value} {t : FieldType} {rest : List Value} (hret : meth.sig.returnType = some t) (ht : t.isReference = true) (hw : w.isRef = true)
    (hd : decode c.code pc = .ok (.areturn, 1)) (hlk : meth.locks = false) {Q : Option Value → Heap → List Loc → Prop} {k n : Nat} (hk : cells ≤ k) (hs : slots ≤ n) (hQ : Q (some w) T.heap locs) : OwnG p e below (OwnEW s Q k n) (T.setTop (mkF m pc Ls (w :: rest))) :=
  own_retW X hS hn1 hx hret (own_narR ht hw) (Or.inr (Or.inr (Or.inr (Or.inr ⟨rfl, ht, hw⟩)))) hd hlk hk hs hQ
theorem own_retW0 {vm₁ : Vm} (X : Stand p l e R (s.setVm vm₁) m args below meth c T locs cells slots) {n1 : Nat} (hS : s.Since vm₁ n1) (hn1 : n1 ≤ T.heap.size) (hx : p.tables.exec = Jvm.exec) {pc : Nat} {Ls : Array Slot} (hret : meth.sig.returnType = none)
    (hd : decode c.code pc = .ok (.return_, 1)) (hlk : meth.locks = false) {Q : Option Value → Heap → List Loc → Prop} {k n : Nat} (hk : cells ≤ k) (hs : slots ≤ n) (hQ : Q none T.heap locs) : OwnG p e below (OwnEW s Q k n) (T.setTop (mkF m pc Ls [])) := by
  obtain ⟨fs, hr, hrun, hended, hE⟩ := X.leaveW hS hn1 (v := none) (fun _ => rfl) hlk
  exact ⟨_, _, X.returnOut hx hret hd hr, hrun, hended, _, _, rfl, hQ, own_endW hE hk hs⟩
theorem own_ext0 {h h' : Heap} (K : Keep h h' []) : Ext h h' := ⟨K.1, fun a c q => K.2.1 a c q (by simp)⟩
theorem own_staK {Z : State} {h h' : Heap} {C n d : String} {v : Value} {ws : List Addr} (S : Sta Z h C n d v) (K : Keep h h' ws) (q : ∀ x ∈ ws, ∃ c : Cell, h[x]? = some c ∧ c.vm.isStatics = false) : Sta Z h' C n d v := by
  obtain ⟨cf, i, k, f, st, cell, h1, h2, h3, h4, h5, h6, h7⟩ := S
  refine ⟨cf, i, k, f, st, cell, h1, h2, h3, h4, K.2.1 st cell h5 (fun hm => ?_), h6, h7⟩
  obtain ⟨c, c1, c2⟩ := q st hm
  rw [h5] at c1
  cases c1
  rw [h6] at c2
  cases c2
theorem own_plain {Z : State} {h : Heap} {a : Addr} {C : String} (E : Exa Z h a C) : ∃ c : Cell, h[a]? = some c ∧ c.vm.isStatics = false := by
  obtain ⟨c, k, h1, h2, h3, h4, h5⟩ := E
  exact ⟨c, h1, h4⟩
theorem own_arrK {Z : State} {h h' : Heap} {a : Addr} {c : Cell} {ty : FieldType} {ws : List Addr} (A : Arr Z h a c ty) (K : Keep h h' ws) (q : a ∉ ws) : Arr Z h' a c ty := ⟨K.2.1 a c A.1 q, A.2⟩
/-- the array at a, of the class k, holds just vs -/
def OwnA (Z : State) (h : Heap) (a : Addr) (k : ClassId) (ty : FieldType) (vs : List Value) : Prop := ∃ c : Cell, Arr Z h a c ty ∧ c.cls = k ∧ c.slots.toList = vs
theorem OwnA.lt {Z : State} {h : Heap} {a : Addr} {k : ClassId} {ty : FieldType} {vs : List Value} (F : OwnA Z h a k ty vs) : a < h.size := by obtain ⟨c, A, -⟩ := F; exact A.lt
theorem OwnA.ext {Z : State} {h h' : Heap} {a : Addr} {k : ClassId} {ty : FieldType} {vs : List Value} (F : OwnA Z h a k ty vs) (E : Ext h h') : OwnA Z h' a k ty vs := by obtain ⟨c, A, r⟩ := F; exact ⟨c, A.ext E, r⟩
theorem OwnA.other {Z : State} {h h' : Heap} {a b : Addr} {k : ClassId} {ty : FieldType} {vs : List Value} {sl : Nat} {v : Value} (F : OwnA Z h a k ty vs) (W : Wr h h' b sl v) (q : a ≠ b) : OwnA Z h' a k ty vs := by obtain ⟨c, A, r⟩ := F; exact ⟨c, A.other W q, r⟩
theorem OwnA.keep {Z : State} {h h' : Heap} {a : Addr} {k : ClassId} {ty : FieldType} {vs : List Value} {ws : List Addr} (F : OwnA Z h a k ty vs) (K : Keep h h' ws) (q : a ∉ ws) : OwnA Z h' a k ty vs := by obtain ⟨c, A, r⟩ := F; exact ⟨c, own_arrK A K q, r⟩
theorem OwnA.new {Z : State} {h : Heap} {a : Addr} {k : ClassId} {ty : FieldType} {z : Int32} (A : Arr Z h a (newA k ty z) ty) : OwnA Z h a k ty (List.replicate z.toNatClampNeg (defaultValue ty)) := ⟨_, A, rfl, by simp [newA]⟩
theorem OwnA.set {Z : State} {h h' : Heap} {a : Addr} {k : ClassId} {ty : FieldType} {vs : List Value} {j : Nat} {v : Value} (F : OwnA Z h a k ty vs) (W : Wr h h' a j v) : OwnA Z h' a k ty (vs.set j v) := by
  obtain ⟨c, A, r1, r2⟩ := F
  refine ⟨_, A.same W, r1, ?_⟩
  rw [← r2]
  simp [Cell.setSlot]
theorem OwnA.inb {c : Cell} {vs : List Value} {j : Int32} (H : c.slots.toList = vs) (h1 : ¬ j < 0) (h2 : j.toNatClampNeg < vs.length) : ¬ (j < 0 ∨ c.slots.size ≤ j.toNatClampNeg) := by
  rintro (q | q)
  · exact h1 q
  · rw [← H, Array.length_toList] at h2; omega
theorem OwnA.at {c : Cell} {vs : List Value} {j : Int32} {v : Value} (H : c.slots.toList = vs) (h : vs[j.toNatClampNeg]? = some v) : c.slots[j.toNatClampNeg]? = some v := by
  rw [← H] at h; simpa using h
theorem OwnA.size {c : Cell} {vs : List Value} {z : Int32} (H : c.slots.toList = vs) (h : vs.length = z.toNatClampNeg) : c.slots.size = z.toNatClampNeg := by
  rw [← h, ← H, Array.length_toList]
theorem OwnA.ofArv {Z : State} {h : Heap} {a : Addr} {k : ClassId} {ty : FieldType} {z : Int32} {vs : List Value} {d : Value} (F : Arv Z h a k ty z vs d) (hl : z.toNatClampNeg = vs.length) : OwnA Z h a k ty vs := by
  obtain ⟨c, A, r1, r2, r3, r4, r5⟩ := F
  refine ⟨c, A, r1, ?_⟩
  apply List.ext_getElem?
  intro i
  by_cases hi : i < c.slots.size
  · have q := r4 i hi
    rw [Array.getElem?_toList, q, List.getD_eq_getElem?_getD]
    rw [r2, hl] at hi
    rw [List.getElem?_eq_getElem hi]; rfl
  · rw [Array.getElem?_toList, Array.getElem?_eq_none (by omega), List.getElem?_eq_none (by omega)]
theorem OwnA.one {Z : State} {h : Heap} {a : Addr} {k k' : ClassId} {ty ty' : FieldType} {vs vs' : List Value} (F : OwnA Z h a k ty vs) (G : OwnA Z h a k' ty' vs') : vs = vs' := by
  obtain ⟨c, A, -, r⟩ := F
  obtain ⟨c', A', -, r'⟩ := G
  have q := A.1.symm.trans A'.1
  cases q
  rw [← r, ← r']
theorem own_fldOne {Z : State} {h : Heap} {a : Addr} {C n d : String} {v w : Value} (F : Fld Z h a C n d v) (G : Fld Z h a C n d w) : v = w := by
  obtain ⟨c, cf, k, i, f, h1, h2, h3, h4, h5, h6, h7⟩ := F
  obtain ⟨c', cf', k', i', f', g1, g2, g3, g4, g5, g6, g7⟩ := G
  have q := h1.symm.trans g1
  cases q
  have q := h2.symm.trans g2
  cases q
  have q := h7.symm.trans g7
  cases q
  rfl
theorem own_eqI {args : Array Value} {s : State} {u : Term} {k : Int32} (h : (Jvm.Cond.eq u (.int k)).value args s none s [] = some true) : u.eval args s none [] s = some (.int k) := by
  cases hv : u.eval args s none [] s with
  | none => simp [Cond.value, hv] at h
  | some v => cases v <;> simp [Cond.value, Term.eval, hv] at h ⊢ <;> exact h
theorem own_eqL {args : Array Value} {s : State} {u : Term} {k : Int64} (h : (Jvm.Cond.eq u (.long k)).value args s none s [] = some true) : u.eval args s none [] s = some (.long k) := by
  cases hv : u.eval args s none [] s with
  | none => simp [Cond.value, hv] at h
  | some v => cases v <;> simp [Cond.value, Term.eval, hv] at h ⊢ <;> exact h
theorem own_size {args : Array Value} {s : State} {u : Term} {a : Addr} {cl : Cell} {ty : FieldType} {k : Int32} (ev : u.eval args s none [] s = some (.ref a)) (A : Arr s s.heap a cl ty) (h : (Jvm.Cond.eq (.length u) (.int k)).value args s none s [] = some true) : cl.slots.size = k.toNatClampNeg := by
  have h1 := own_eqI h
  have h2 : s.arrayAt? a = some cl := A.fin (Vm.Alike.refl _)
  simp only [Term.eval, ev, h2, Option.bind_eq_bind, Option.bind_some] at h1
  split at h1
  · rename_i hl
    have h3 : cl.slots.size.toInt32 = k := by simpa using h1
    rw [← h3]
    have := len_toInt hl
    rw [Int32.toNatClampNeg, this]; rfl
  · simp at h1
theorem own_elL {args : Array Value} {s : State} {u : Term} {a : Addr} {cl : Cell} {ty : FieldType} {j : Int32} {k : Int64} (ev : u.eval args s none [] s = some (.ref a)) (A : Arr s s.heap a cl ty) (h : (Jvm.Cond.eq (.elem u (.int j)) (.long k)).value args s none s [] = some true) : cl.slots[j.toNatClampNeg]? = some (.long k) :=
  (elem_in (own_eqL h) ev (Term.int_eval _) A.1).2
theorem own_elI {args : Array Value} {s : State} {u : Term} {a : Addr} {cl : Cell} {ty : FieldType} {j k : Int32} (ev : u.eval args s none [] s = some (.ref a)) (A : Arr s s.heap a cl ty) (h : (Jvm.Cond.eq (.elem u (.int j)) (.int k)).value args s none s [] = some true) : cl.slots[j.toNatClampNeg]? = some (.int k) :=
  (elem_in (own_eqI h) ev (Term.int_eval _) A.1).2
theorem own_ne {args : Array Value} {s : State} {u : Term} {z k : Int32} (ev : u.eval args s none [] s = some (.int z)) (h : (Jvm.Cond.not (Jvm.Cond.eq u (.int k))).value args s none s [] = some true) : ¬ z = k := by
  have h2 := not_v h
  intro q
  subst q
  simp [Cond.value, Term.eval, ev] at h2
theorem own_in {i z : Int32} {cl : Cell} (S : cl.slots.size = z.toNatClampNeg) (h1 : ¬ i < 0) (h2 : i < z) : ¬ (i < 0 ∨ cl.slots.size ≤ i.toNatClampNeg) := by
  rintro (q | q)
  · exact h1 q
  · rw [S] at q
    rw [Int32.lt_iff_toInt_lt] at h1 h2
    have e0 : (0 : Int32).toInt = 0 := rfl
    have e1 : ((i.toNatClampNeg : Nat) : Int) = i.toInt := by rw [Int32.toNatClampNeg]; exact Int.toNat_of_nonneg (by omega)
    have e2 : ((z.toNatClampNeg : Nat) : Int) = z.toInt := by rw [Int32.toNatClampNeg]; exact Int.toNat_of_nonneg (by omega)
    omega
end Own

theorem pd_0 : parseMethodDescriptor "([B[B)Z" = some ⟨[(.array .byte), (.array .byte)], some .boolean⟩ := by decide +kernel
theorem pd_1 : parseMethodDescriptor "()Ljava/lang/String;" = some ⟨[], some (.object "java/lang/String")⟩ := by decide +kernel
theorem pd_2 : parseMethodDescriptor "()Z" = some ⟨[], some .boolean⟩ := by decide +kernel
theorem pd_3 : parseMethodDescriptor "(Ljava/lang/Object;)Z" = some ⟨[(.object "java/lang/Object")], some .boolean⟩ := by decide +kernel
def QSame (r : Option Value) (h0 : Heap) (n0 : Nat) (v : Option Value) (h : Heap) (L : List Loc) : Prop := v = r ∧ Fr n0 L ∧ h = h0
theorem own_str {Z : State} {a0 : Array Value} (hw : ∀ d ∈ tables_1, d.before a0 Z = true) : ∀ a ∈ Bundle.stringAtoms, a.before a0 Z = true := by
  intro a ha
  simp only [Bundle.stringAtoms, List.mem_cons, List.not_mem_nil, or_false] at ha
  rcases ha with rfl | rfl | rfl | rfl | rfl | rfl | rfl
  · exact (hw _ (List.mem_of_getElem? (i := 23) rfl))
  · exact (hw _ (List.mem_of_getElem? (i := 28) rfl))
  · exact (hw _ (List.mem_of_getElem? (i := 29) rfl))
  · exact (hw _ (List.mem_of_getElem? (i := 26) rfl))
  · exact (hw _ (List.mem_of_getElem? (i := 30) rfl))
  · exact (hw _ (List.mem_of_getElem? (i := 31) rfl))
  · exact (hw _ (List.mem_of_getElem? (i := 32) rfl))
theorem d2_0 : decode jdk_42_method_55_code 0 = .ok (.aload_n 0, 1) := by decide +kernel
theorem d2_1 : decode jdk_42_method_55_code 1 = .ok (.getfield 9, 3) := by decide +kernel
theorem d2_4 : decode jdk_42_method_55_code 4 = .ok (.arraylength, 1) := by decide +kernel
theorem d2_5 : decode jdk_42_method_55_code 5 = .ok (.ifCond .ne 7, 3) := by decide +kernel
theorem d2_8 : decode jdk_42_method_55_code 8 = .ok (.iconst 1, 1) := by decide +kernel
theorem d2_9 : decode jdk_42_method_55_code 9 = .ok (.goto 4, 3) := by decide +kernel
theorem d2_12 : decode jdk_42_method_55_code 12 = .ok (.iconst 0, 1) := by decide +kernel
theorem d2_13 : decode jdk_42_method_55_code 13 = .ok (.ireturn, 1) := by decide +kernel
theorem pn_0 : plainName "java/lang/String" = true := by first | (simp [plainName, overriddenIn]; done) | decide +kernel
theorem ef_rmEmp (m : MethodId) (a : Addr) : entryFrame m #[(.ref a)] 1 = mkF m 0 #[.val (.ref a)] [] := by first | (simp [entryFrame, mkF, argsToLocals, Value.category, maxLocals]; done) | rfl
set_option maxRecDepth 65536 in
set_option maxHeartbeats 40000000 in
theorem rmEmp (l : Launch) (Z : State) (a0 : Array Value) (hw : ∀ d ∈ tables_1, d.before a0 Z = true) (ws : List Jvm.Cond) (a t : Addr) (z : Int32) (cl : Cell) (h0 : Heap) (n0 : Nat) (Z0 : n0 ≤ h0.size) (Vv : Fld Z h0 a "java/lang/String" "value" "[B" (.ref t)) (Ar : Arr Z h0 t cl .byte) (Sz : cl.slots.size = z.toNatClampNeg) (Nz : ¬ z < 0) :
    MetFree l (⟨"java/lang/String", "isEmpty", "()Z"⟩ : MethodName) (head1 (Jvm.Cond.code (⟨"java/lang/String", "isEmpty", "()Z"⟩ : MethodName) jdk_42_method_55_code (1 : Nat) (Option.some Jvm.ClassFile.FieldType.boolean) :: ws) ({ frames := 0, cells := 0, slots := 0, locals := 0 } : Room)) (fun aZ UZ => aZ = #[(.ref a)] ∧ Z.Warmed39 UZ.vm ∧ UZ.heap = h0) (fun _ _ _ _ _ => True) (fun _ UZ oZ VZ => ∃ vZ LZ, oZ = .returned vZ ∧ (QSame (some (.int (if z = 0 then 1 else 0))) h0 n0) vZ VZ.heap LZ ∧ FrameEnd UZ oZ VZ LZ ({ frames := 0, cells := 0, slots := 0, locals := 0 } : Room).cells ({ frames := 0, cells := 0, slots := 0, locals := 0 } : Room).slots) := by
  refine MetFree.of_bodySF (plainFor_of_name pn_0) hisR ?_
  intro p e s m args below meth c s₁ Bd hml0 hP hK
  obtain ⟨rfl, hZ, hh⟩ := hP
  have hx := Bd.exec
  have hby := Bd.bytes
  have hml : c.maxLocals = 1 := hml0
  have hown : s.vm.findClass "java/lang/String" = some m.cls := findClass_of_methodNamed Bd.named
  have hnm := (name_of_methodNamed Bd.named Bd.method).1
  have X0 : Stand p l e ({ frames := 0, cells := 0, slots := 0, locals := 0 } : Room) s m #[(.ref a)] below meth c s₁ [] 0 0 := Stand.of_body Bd
  have e0 : s₁.heap = h0 := by rw [← hh, Bd.state]; rfl
  have N0 := Fr.nil n0
  show OwnG p e below (OwnE s (QSame (some (.int (if z = 0 then 1 else 0))) h0 n0) ({ frames := 0, cells := 0, slots := 0, locals := 0 } : Room).cells ({ frames := 0, cells := 0, slots := 0, locals := 0 } : Room).slots) _
  refine own_by (S' := s₁.setTop (mkF m 0 #[.val (.ref a)] [])) (fun tZ kZ => castTop (ef_rmEmp m a) kZ) ?_
  refine own_by (S' := s₁.setTop (mkF m 1 #[.val (.ref a)] [(.ref a)])) (fun tZ kZ => XS.aloadN X0.here hx rfl (hb hby d2_0) rfl rfl kZ) ?_
  obtain ⟨T1, X1, e1, st1⟩ := getF X0 hx hZ hown (host := "") (Or.inl (hw _ (List.mem_of_getElem? (i := 25) rfl))) Via.refl e0 Vv (g := (mkF m 1 #[.val (.ref a)] [(.ref a)])) rfl rfl (hb hby d2_1)
  refine own_by (S' := T1.setTop (mkF m 4 #[.val (.ref a)] [(.ref t)])) st1 ?_
  refine own_by (S' := T1.setTop (mkF m 5 #[.val (.ref a)] [(.int z)])) (fun tZ kZ => X1.arraylength hx (by rw [e1]; exact Ar.1) (State.isArrayOf_alike hZ.alike Ar.2.1) (g := (mkF m 4 #[.val (.ref a)] [(.ref t)])) rfl rfl (hb hby d2_4) _ (by rw [len_of Sz Nz]; exact kZ)) ?_
  by_cases hc : z = (0 : Int32)
  · refine own_by (S' := T1.setTop (mkF m 8 #[.val (.ref a)] [])) (fun tZ kZ => XS.ifNo X1.here hx rfl (hb hby d2_5) rfl ((if0 _ _).trans (teq hc).2) kZ) ?_
    refine own_by (S' := T1.setTop (mkF m 9 #[.val (.ref a)] [(.int (1 : Int32))])) (fun tZ kZ => XS.iconst X1.here hx rfl (hb hby d2_8) kZ) ?_
    refine own_by (S' := T1.setTop (mkF m 13 #[.val (.ref a)] [(.int (1 : Int32))])) (fun tZ kZ => XS.goto X1.here hx rfl (pc0 := 9) (pc' := 13) rfl (hb hby d2_9) (by decide) (by decide) kZ) ?_
    exact own_retI X1 hx (t := .boolean) Bd.returns (by simp) rfl (hb hby d2_13) Bd.notSynchronized (by decide) (by decide) ⟨by rw [if_pos hc], N0, e1⟩
  · refine own_by (S' := T1.setTop (mkF m 12 #[.val (.ref a)] [])) (fun tZ kZ => XS.ifYes X1.here hx rfl (pc0 := 5) (pc' := 12) rfl (hb hby d2_5) rfl ((if0 _ _).trans (feq hc).2) (by decide) (by decide) kZ) ?_
    refine own_by (S' := T1.setTop (mkF m 13 #[.val (.ref a)] [(.int (0 : Int32))])) (fun tZ kZ => XS.iconst X1.here hx rfl (hb hby d2_12) kZ) ?_
    exact own_retI X1 hx (t := .boolean) Bd.returns (by simp) rfl (hb hby d2_13) Bd.notSynchronized (by decide) (by decide) ⟨by rw [if_neg hc], N0, e1⟩
theorem d4_0 : decode jdk_43_method_13_code 0 = .ok (.aload_n 0, 1) := by decide +kernel
theorem d4_1 : decode jdk_43_method_13_code 1 = .ok (.arraylength, 1) := by decide +kernel
theorem d4_2 : decode jdk_43_method_13_code 2 = .ok (.aload_n 1, 1) := by decide +kernel
theorem d4_3 : decode jdk_43_method_13_code 3 = .ok (.arraylength, 1) := by decide +kernel
theorem d4_4 : decode jdk_43_method_13_code 4 = .ok (.if_icmp .ne 30, 3) := by decide +kernel
theorem d4_7 : decode jdk_43_method_13_code 7 = .ok (.iconst 0, 1) := by decide +kernel
theorem d4_8 : decode jdk_43_method_13_code 8 = .ok (.istore_n 2, 1) := by decide +kernel
theorem d4_9 : decode jdk_43_method_13_code 9 = .ok (.iload_n 2, 1) := by decide +kernel
theorem d4_10 : decode jdk_43_method_13_code 10 = .ok (.aload_n 0, 1) := by decide +kernel
theorem d4_11 : decode jdk_43_method_13_code 11 = .ok (.arraylength, 1) := by decide +kernel
theorem d4_12 : decode jdk_43_method_13_code 12 = .ok (.if_icmp .ge 20, 3) := by decide +kernel
theorem d4_15 : decode jdk_43_method_13_code 15 = .ok (.aload_n 0, 1) := by decide +kernel
theorem d4_16 : decode jdk_43_method_13_code 16 = .ok (.iload_n 2, 1) := by decide +kernel
theorem d4_17 : decode jdk_43_method_13_code 17 = .ok (.baload, 1) := by decide +kernel
theorem d4_18 : decode jdk_43_method_13_code 18 = .ok (.aload_n 1, 1) := by decide +kernel
theorem d4_19 : decode jdk_43_method_13_code 19 = .ok (.iload_n 2, 1) := by decide +kernel
theorem d4_20 : decode jdk_43_method_13_code 20 = .ok (.baload, 1) := by decide +kernel
theorem d4_21 : decode jdk_43_method_13_code 21 = .ok (.if_icmp .eq 5, 3) := by decide +kernel
theorem d4_24 : decode jdk_43_method_13_code 24 = .ok (.iconst 0, 1) := by decide +kernel
theorem d4_25 : decode jdk_43_method_13_code 25 = .ok (.ireturn, 1) := by decide +kernel
theorem d4_26 : decode jdk_43_method_13_code 26 = .ok (.iinc 2 1, 3) := by decide +kernel
theorem d4_29 : decode jdk_43_method_13_code 29 = .ok (.goto (-20), 3) := by decide +kernel
theorem d4_32 : decode jdk_43_method_13_code 32 = .ok (.iconst 1, 1) := by decide +kernel
theorem d4_33 : decode jdk_43_method_13_code 33 = .ok (.ireturn, 1) := by decide +kernel
theorem d4_34 : decode jdk_43_method_13_code 34 = .ok (.iconst 0, 1) := by decide +kernel
theorem d4_35 : decode jdk_43_method_13_code 35 = .ok (.ireturn, 1) := by decide +kernel
theorem pn_1 : plainName "java/lang/StringLatin1" = true := by first | (simp [plainName, overriddenIn]; done) | decide +kernel
theorem ef_rmLEq (m : MethodId) (t : Addr) (u : Addr) : entryFrame m #[(.ref t), (.ref u)] 3 = mkF m 0 #[.val (.ref t), .val (.ref u), .unset] [] := by first | (simp [entryFrame, mkF, argsToLocals, Value.category, maxLocals]; done) | rfl
set_option maxRecDepth 65536 in
set_option maxHeartbeats 40000000 in
theorem rmLEq (l : Launch) (Z : State) (a0 : Array Value) (hw : ∀ d ∈ tables_1, d.before a0 Z = true) (ws : List Jvm.Cond) (t u : Addr) (k k2 : ClassId) (x y : Int32) (h0 : Heap) (n0 : Nat) (Z0 : n0 ≤ h0.size) (Va : OwnA Z h0 t k .byte [.int x]) (Vb : OwnA Z h0 u k2 .byte [.int y]) :
    MetFree l (⟨"java/lang/StringLatin1", "equals", "([B[B)Z"⟩ : MethodName) (head1 (Jvm.Cond.code (⟨"java/lang/StringLatin1", "equals", "([B[B)Z"⟩ : MethodName) jdk_43_method_13_code (3 : Nat) (Option.some Jvm.ClassFile.FieldType.boolean) :: ws) ({ frames := 0, cells := 0, slots := 0, locals := 0 } : Room)) (fun aZ UZ => aZ = #[(.ref t), (.ref u)] ∧ Z.Warmed39 UZ.vm ∧ UZ.heap = h0) (fun _ _ _ _ _ => True) (fun _ UZ oZ VZ => ∃ vZ LZ, oZ = .returned vZ ∧ (QSame (some (.int (if x = y then 1 else 0))) h0 n0) vZ VZ.heap LZ ∧ FrameEnd UZ oZ VZ LZ ({ frames := 0, cells := 0, slots := 0, locals := 0 } : Room).cells ({ frames := 0, cells := 0, slots := 0, locals := 0 } : Room).slots) := by
  refine MetFree.of_bodySF (plainFor_of_name pn_1) hisR ?_
  intro p e s m args below meth c s₁ Bd hml0 hP hK
  obtain ⟨rfl, hZ, hh⟩ := hP
  have hx := Bd.exec
  have hby := Bd.bytes
  have hml : c.maxLocals = 3 := hml0
  have hown : s.vm.findClass "java/lang/StringLatin1" = some m.cls := findClass_of_methodNamed Bd.named
  have hnm := (name_of_methodNamed Bd.named Bd.method).1
  have X0 : Stand p l e ({ frames := 0, cells := 0, slots := 0, locals := 0 } : Room) s m #[(.ref t), (.ref u)] below meth c s₁ [] 0 0 := Stand.of_body Bd
  have e0 : s₁.heap = h0 := by rw [← hh, Bd.state]; rfl
  have N0 := Fr.nil n0
  show OwnG p e below (OwnE s (QSame (some (.int (if x = y then 1 else 0))) h0 n0) ({ frames := 0, cells := 0, slots := 0, locals := 0 } : Room).cells ({ frames := 0, cells := 0, slots := 0, locals := 0 } : Room).slots) _
  refine own_by (S' := s₁.setTop (mkF m 0 #[.val (.ref t), .val (.ref u), .unset] [])) (fun tZ kZ => castTop (ef_rmLEq m t u) kZ) ?_
  refine own_by (S' := s₁.setTop (mkF m 1 #[.val (.ref t), .val (.ref u), .unset] [(.ref t)])) (fun tZ kZ => XS.aloadN X0.here hx rfl (hb hby d4_0) rfl rfl kZ) ?_
  obtain ⟨cc1, Ar1, hc1, hl1⟩ := id Va
  refine own_by (S' := s₁.setTop (mkF m 2 #[.val (.ref t), .val (.ref u), .unset] [(.int (1 : Int32))])) (fun tZ kZ => X0.arraylength hx (by rw [e0]; exact Ar1.1) (State.isArrayOf_alike hZ.alike Ar1.2.1) (g := (mkF m 1 #[.val (.ref t), .val (.ref u), .unset] [(.ref t)])) rfl rfl (hb hby d4_1) _ (by rw [len_of (OwnA.size (z := (1 : Int32)) hl1 rfl) (by decide)]; exact kZ)) ?_
  refine own_by (S' := s₁.setTop (mkF m 3 #[.val (.ref t), .val (.ref u), .unset] [(.ref u), (.int (1 : Int32))])) (fun tZ kZ => XS.aloadN X0.here hx rfl (hb hby d4_2) rfl rfl kZ) ?_
  obtain ⟨cc2, Ar2, hc2, hl2⟩ := id Vb
  refine own_by (S' := s₁.setTop (mkF m 4 #[.val (.ref t), .val (.ref u), .unset] [(.int (1 : Int32)), (.int (1 : Int32))])) (fun tZ kZ => X0.arraylength hx (by rw [e0]; exact Ar2.1) (State.isArrayOf_alike hZ.alike Ar2.2.1) (g := (mkF m 3 #[.val (.ref t), .val (.ref u), .unset] [(.ref u), (.int (1 : Int32))])) rfl rfl (hb hby d4_3) _ (by rw [len_of (OwnA.size (z := (1 : Int32)) hl2 rfl) (by decide)]; exact kZ)) ?_
  refine own_by (S' := s₁.setTop (mkF m 7 #[.val (.ref t), .val (.ref u), .unset] [])) (fun tZ kZ => XS.icmpNo X0.here hx rfl (hb hby d4_4) rfl (teq rfl).2 kZ) ?_
  refine own_by (S' := s₁.setTop (mkF m 8 #[.val (.ref t), .val (.ref u), .unset] [(.int (0 : Int32))])) (fun tZ kZ => XS.iconst X0.here hx rfl (hb hby d4_7) kZ) ?_
  refine own_by (S' := s₁.setTop (mkF m 9 #[.val (.ref t), .val (.ref u), .val (.int (0 : Int32))] [])) (fun tZ kZ => XS.istoreN X0.here hx rfl (hb hby d4_8) rfl (l' := #[.val (.ref t), .val (.ref u), .val (.int (0 : Int32))]) rfl kZ) ?_
  refine own_by (S' := s₁.setTop (mkF m 10 #[.val (.ref t), .val (.ref u), .val (.int (0 : Int32))] [(.int (0 : Int32))])) (fun tZ kZ => XS.iloadN X0.here hx rfl (hb hby d4_9) rfl kZ) ?_
  refine own_by (S' := s₁.setTop (mkF m 11 #[.val (.ref t), .val (.ref u), .val (.int (0 : Int32))] [(.ref t), (.int (0 : Int32))])) (fun tZ kZ => XS.aloadN X0.here hx rfl (hb hby d4_10) rfl rfl kZ) ?_
  obtain ⟨cc3, Ar3, hc3, hl3⟩ := id Va
  refine own_by (S' := s₁.setTop (mkF m 12 #[.val (.ref t), .val (.ref u), .val (.int (0 : Int32))] [(.int (1 : Int32)), (.int (0 : Int32))])) (fun tZ kZ => X0.arraylength hx (by rw [e0]; exact Ar3.1) (State.isArrayOf_alike hZ.alike Ar3.2.1) (g := (mkF m 11 #[.val (.ref t), .val (.ref u), .val (.int (0 : Int32))] [(.ref t), (.int (0 : Int32))])) rfl rfl (hb hby d4_11) _ (by rw [len_of (OwnA.size (z := (1 : Int32)) hl3 rfl) (by decide)]; exact kZ)) ?_
  refine own_by (S' := s₁.setTop (mkF m 15 #[.val (.ref t), .val (.ref u), .val (.int (0 : Int32))] [])) (fun tZ kZ => XS.icmpNo X0.here hx rfl (hb hby d4_12) rfl (tlt (by decide)).2.1 kZ) ?_
  refine own_by (S' := s₁.setTop (mkF m 16 #[.val (.ref t), .val (.ref u), .val (.int (0 : Int32))] [(.ref t)])) (fun tZ kZ => XS.aloadN X0.here hx rfl (hb hby d4_15) rfl rfl kZ) ?_
  refine own_by (S' := s₁.setTop (mkF m 17 #[.val (.ref t), .val (.ref u), .val (.int (0 : Int32))] [(.int (0 : Int32)), (.ref t)])) (fun tZ kZ => XS.iloadN X0.here hx rfl (hb hby d4_16) rfl kZ) ?_
  obtain ⟨cc4, Ar4, hc4, hl4⟩ := id Va
  refine own_by (S' := s₁.setTop (mkF m 18 #[.val (.ref t), .val (.ref u), .val (.int (0 : Int32))] [(.int x)])) (fun tZ kZ => X0.baloadBytes hx (j := (0 : Int32)) (v := (.int x)) (by rw [e0]; exact Ar4.1) (State.isArrayOf_alike hZ.alike Ar4.2.1) Ar4.2.2 (OwnA.inb (j := (0 : Int32)) hl4 (by decide) (Nat.le_of_ble_eq_true rfl)) (OwnA.at (j := (0 : Int32)) hl4 rfl) (g := (mkF m 17 #[.val (.ref t), .val (.ref u), .val (.int (0 : Int32))] [(.int (0 : Int32)), (.ref t)])) rfl rfl (hb hby d4_17) _ kZ) ?_
  refine own_by (S' := s₁.setTop (mkF m 19 #[.val (.ref t), .val (.ref u), .val (.int (0 : Int32))] [(.ref u), (.int x)])) (fun tZ kZ => XS.aloadN X0.here hx rfl (hb hby d4_18) rfl rfl kZ) ?_
  refine own_by (S' := s₁.setTop (mkF m 20 #[.val (.ref t), .val (.ref u), .val (.int (0 : Int32))] [(.int (0 : Int32)), (.ref u), (.int x)])) (fun tZ kZ => XS.iloadN X0.here hx rfl (hb hby d4_19) rfl kZ) ?_
  obtain ⟨cc5, Ar5, hc5, hl5⟩ := id Vb
  refine own_by (S' := s₁.setTop (mkF m 21 #[.val (.ref t), .val (.ref u), .val (.int (0 : Int32))] [(.int y), (.int x)])) (fun tZ kZ => X0.baloadBytes hx (j := (0 : Int32)) (v := (.int y)) (by rw [e0]; exact Ar5.1) (State.isArrayOf_alike hZ.alike Ar5.2.1) Ar5.2.2 (OwnA.inb (j := (0 : Int32)) hl5 (by decide) (Nat.le_of_ble_eq_true rfl)) (OwnA.at (j := (0 : Int32)) hl5 rfl) (g := (mkF m 20 #[.val (.ref t), .val (.ref u), .val (.int (0 : Int32))] [(.int (0 : Int32)), (.ref u), (.int x)])) rfl rfl (hb hby d4_20) _ kZ) ?_
  by_cases hc : x = y
  · refine own_by (S' := s₁.setTop (mkF m 26 #[.val (.ref t), .val (.ref u), .val (.int (0 : Int32))] [])) (fun tZ kZ => XS.icmpYes X0.here hx rfl (pc0 := 21) (pc' := 26) rfl (hb hby d4_21) rfl (teq hc).1 (by decide) (by decide) kZ) ?_
    refine own_by (S' := s₁.setTop (mkF m 29 #[.val (.ref t), .val (.ref u), .val (.int ((0 : Int32) + (1 : Int32)))] [])) (fun tZ kZ => XS.iinc X0.here hx rfl (hb hby d4_26) rfl (l' := #[.val (.ref t), .val (.ref u), .val (.int ((0 : Int32) + (1 : Int32)))]) rfl kZ) ?_
    refine own_by (S' := s₁.setTop (mkF m 9 #[.val (.ref t), .val (.ref u), .val (.int ((0 : Int32) + (1 : Int32)))] [])) (fun tZ kZ => XS.goto X0.here hx rfl (pc0 := 29) (pc' := 9) rfl (hb hby d4_29) (by decide) (by decide) kZ) ?_
    refine own_by (S' := s₁.setTop (mkF m 10 #[.val (.ref t), .val (.ref u), .val (.int ((0 : Int32) + (1 : Int32)))] [(.int ((0 : Int32) + (1 : Int32)))])) (fun tZ kZ => XS.iloadN X0.here hx rfl (hb hby d4_9) rfl kZ) ?_
    refine own_by (S' := s₁.setTop (mkF m 11 #[.val (.ref t), .val (.ref u), .val (.int ((0 : Int32) + (1 : Int32)))] [(.ref t), (.int ((0 : Int32) + (1 : Int32)))])) (fun tZ kZ => XS.aloadN X0.here hx rfl (hb hby d4_10) rfl rfl kZ) ?_
    obtain ⟨cc6, Ar6, hc6, hl6⟩ := id Va
    refine own_by (S' := s₁.setTop (mkF m 12 #[.val (.ref t), .val (.ref u), .val (.int ((0 : Int32) + (1 : Int32)))] [(.int (1 : Int32)), (.int ((0 : Int32) + (1 : Int32)))])) (fun tZ kZ => X0.arraylength hx (by rw [e0]; exact Ar6.1) (State.isArrayOf_alike hZ.alike Ar6.2.1) (g := (mkF m 11 #[.val (.ref t), .val (.ref u), .val (.int ((0 : Int32) + (1 : Int32)))] [(.ref t), (.int ((0 : Int32) + (1 : Int32)))])) rfl rfl (hb hby d4_11) _ (by rw [len_of (OwnA.size (z := (1 : Int32)) hl6 rfl) (by decide)]; exact kZ)) ?_
    refine own_by (S' := s₁.setTop (mkF m 32 #[.val (.ref t), .val (.ref u), .val (.int ((0 : Int32) + (1 : Int32)))] [])) (fun tZ kZ => XS.icmpYes X0.here hx rfl (pc0 := 12) (pc' := 32) rfl (hb hby d4_12) rfl (flt (by decide)).2.1 (by decide) (by decide) kZ) ?_
    refine own_by (S' := s₁.setTop (mkF m 33 #[.val (.ref t), .val (.ref u), .val (.int ((0 : Int32) + (1 : Int32)))] [(.int (1 : Int32))])) (fun tZ kZ => XS.iconst X0.here hx rfl (hb hby d4_32) kZ) ?_
    exact own_retI X0 hx (t := .boolean) Bd.returns (by simp) rfl (hb hby d4_33) Bd.notSynchronized (by decide) (by decide) ⟨by rw [if_pos hc], N0, e0⟩
  · refine own_by (S' := s₁.setTop (mkF m 24 #[.val (.ref t), .val (.ref u), .val (.int (0 : Int32))] [])) (fun tZ kZ => XS.icmpNo X0.here hx rfl (hb hby d4_21) rfl (feq hc).1 kZ) ?_
    refine own_by (S' := s₁.setTop (mkF m 25 #[.val (.ref t), .val (.ref u), .val (.int (0 : Int32))] [(.int (0 : Int32))])) (fun tZ kZ => XS.iconst X0.here hx rfl (hb hby d4_24) kZ) ?_
    exact own_retI X0 hx (t := .boolean) Bd.returns (by simp) rfl (hb hby d4_25) Bd.notSynchronized (by decide) (by decide) ⟨by rw [if_neg hc], N0, e0⟩
theorem d3_0 : decode jdk_42_method_66_code 0 = .ok (.aload_n 0, 1) := by decide +kernel
theorem d3_1 : decode jdk_42_method_66_code 1 = .ok (.aload_n 1, 1) := by decide +kernel
theorem d3_2 : decode jdk_42_method_66_code 2 = .ok (.if_acmp .ne 5, 3) := by decide +kernel
theorem d3_5 : decode jdk_42_method_66_code 5 = .ok (.iconst 1, 1) := by decide +kernel
theorem d3_6 : decode jdk_42_method_66_code 6 = .ok (.ireturn, 1) := by decide +kernel
theorem d3_7 : decode jdk_42_method_66_code 7 = .ok (.aload_n 1, 1) := by decide +kernel
theorem d3_8 : decode jdk_42_method_66_code 8 = .ok (.instanceof 10, 3) := by decide +kernel
theorem d3_11 : decode jdk_42_method_66_code 11 = .ok (.ifCond .eq 43, 3) := by decide +kernel
theorem d3_14 : decode jdk_42_method_66_code 14 = .ok (.aload_n 1, 1) := by decide +kernel
theorem d3_15 : decode jdk_42_method_66_code 15 = .ok (.checkcast 10, 3) := by decide +kernel
theorem d3_18 : decode jdk_42_method_66_code 18 = .ok (.astore_n 2, 1) := by decide +kernel
theorem d3_19 : decode jdk_42_method_66_code 19 = .ok (.getstatic 38, 3) := by decide +kernel
theorem d3_22 : decode jdk_42_method_66_code 22 = .ok (.ifCond .eq 14, 3) := by decide +kernel
theorem d3_25 : decode jdk_42_method_66_code 25 = .ok (.aload_n 0, 1) := by decide +kernel
theorem d3_26 : decode jdk_42_method_66_code 26 = .ok (.getfield 15, 3) := by decide +kernel
theorem d3_29 : decode jdk_42_method_66_code 29 = .ok (.aload_n 2, 1) := by decide +kernel
theorem d3_30 : decode jdk_42_method_66_code 30 = .ok (.getfield 15, 3) := by decide +kernel
theorem d3_33 : decode jdk_42_method_66_code 33 = .ok (.if_icmp .ne 21, 3) := by decide +kernel
theorem d3_36 : decode jdk_42_method_66_code 36 = .ok (.aload_n 0, 1) := by decide +kernel
theorem d3_37 : decode jdk_42_method_66_code 37 = .ok (.getfield 9, 3) := by decide +kernel
theorem d3_40 : decode jdk_42_method_66_code 40 = .ok (.aload_n 2, 1) := by decide +kernel
theorem d3_41 : decode jdk_42_method_66_code 41 = .ok (.getfield 9, 3) := by decide +kernel
theorem d3_44 : decode jdk_42_method_66_code 44 = .ok (.invokestatic 541, 3) := by decide +kernel
theorem d3_47 : decode jdk_42_method_66_code 47 = .ok (.ifCond .eq 7, 3) := by decide +kernel
theorem d3_50 : decode jdk_42_method_66_code 50 = .ok (.iconst 1, 1) := by decide +kernel
theorem d3_51 : decode jdk_42_method_66_code 51 = .ok (.goto 4, 3) := by decide +kernel
theorem d3_54 : decode jdk_42_method_66_code 54 = .ok (.iconst 0, 1) := by decide +kernel
theorem d3_55 : decode jdk_42_method_66_code 55 = .ok (.ireturn, 1) := by decide +kernel
theorem ef_rmEq (m : MethodId) (a : Addr) (b : Addr) : entryFrame m #[(.ref a), (.ref b)] 3 = mkF m 0 #[.val (.ref a), .val (.ref b), .unset] [] := by first | (simp [entryFrame, mkF, argsToLocals, Value.category, maxLocals]; done) | rfl
set_option maxRecDepth 65536 in
set_option maxHeartbeats 40000000 in
theorem rmEq (l : Launch) (Z : State) (a0 : Array Value) (hw : ∀ d ∈ tables_1, d.before a0 Z = true) (ws : List Jvm.Cond) (a b t u : Addr) (k k2 : ClassId) (x y cz : Int32) (h0 : Heap) (n0 : Nat) (Z0 : n0 ≤ h0.size) (Va : OwnA Z h0 t k .byte [.int x]) (Vb : OwnA Z h0 u k2 .byte [.int y]) (Ea : Exa Z h0 a "java/lang/String") (Eb : Exa Z h0 b "java/lang/String") (Fa : Fld Z h0 a "java/lang/String" "value" "[B" (.ref t)) (Fb : Fld Z h0 b "java/lang/String" "value" "[B" (.ref u)) (Ca : Fld Z h0 a "java/lang/String" "coder" "B" (.int 0)) (Cb : Fld Z h0 b "java/lang/String" "coder" "B" (.int 0)) (Sc : Sta Z h0 "java/lang/String" "COMPACT_STRINGS" "Z" (.int cz)) (hcz : ¬ cz = 0) :
    MetFree l (⟨"java/lang/String", "equals", "(Ljava/lang/Object;)Z"⟩ : MethodName) (head1 (Jvm.Cond.code (⟨"java/lang/String", "equals", "(Ljava/lang/Object;)Z"⟩ : MethodName) jdk_42_method_66_code (3 : Nat) (Option.some Jvm.ClassFile.FieldType.boolean) :: ws) ({ frames := 1, cells := 0, slots := 0, locals := 14 } : Room)) (fun aZ UZ => aZ = #[(.ref a), (.ref b)] ∧ Z.Warmed39 UZ.vm ∧ UZ.heap = h0) (fun _ _ _ _ _ => True) (fun _ UZ oZ VZ => ∃ vZ LZ, oZ = .returned vZ ∧ (QSame (some (.int (if x = y then 1 else 0))) h0 n0) vZ VZ.heap LZ ∧ FrameEnd UZ oZ VZ LZ ({ frames := 1, cells := 0, slots := 0, locals := 14 } : Room).cells ({ frames := 1, cells := 0, slots := 0, locals := 14 } : Room).slots) := by
  refine MetFree.of_bodySF (plainFor_of_name pn_0) hisR ?_
  intro p e s m args below meth c s₁ Bd hml0 hP hK
  obtain ⟨rfl, hZ, hh⟩ := hP
  have hx := Bd.exec
  have hby := Bd.bytes
  have hml : c.maxLocals = 3 := hml0
  have hown : s.vm.findClass "java/lang/String" = some m.cls := findClass_of_methodNamed Bd.named
  have hnm := (name_of_methodNamed Bd.named Bd.method).1
  have X0 : Stand p l e ({ frames := 1, cells := 0, slots := 0, locals := 14 } : Room) s m #[(.ref a), (.ref b)] below meth c s₁ [] 0 0 := Stand.of_body Bd
  have e0 : s₁.heap = h0 := by rw [← hh, Bd.state]; rfl
  have N0 := Fr.nil n0
  show OwnG p e below (OwnE s (QSame (some (.int (if x = y then 1 else 0))) h0 n0) ({ frames := 1, cells := 0, slots := 0, locals := 14 } : Room).cells ({ frames := 1, cells := 0, slots := 0, locals := 14 } : Room).slots) _
  refine own_by (S' := s₁.setTop (mkF m 0 #[.val (.ref a), .val (.ref b), .unset] [])) (fun tZ kZ => castTop (ef_rmEq m a b) kZ) ?_
  refine own_by (S' := s₁.setTop (mkF m 1 #[.val (.ref a), .val (.ref b), .unset] [(.ref a)])) (fun tZ kZ => XS.aloadN X0.here hx rfl (hb hby d3_0) rfl rfl kZ) ?_
  refine own_by (S' := s₁.setTop (mkF m 2 #[.val (.ref a), .val (.ref b), .unset] [(.ref b), (.ref a)])) (fun tZ kZ => XS.aloadN X0.here hx rfl (hb hby d3_1) rfl rfl kZ) ?_
  by_cases hs : a = b
  · refine own_by (S' := s₁.setTop (mkF m 5 #[.val (.ref a), .val (.ref b), .unset] [])) (fun tZ kZ => Jvm.RoadKit.acmp (g := (mkF m 2 #[.val (.ref a), .val (.ref b), .unset] [(.ref b), (.ref a)])) X0 hx rfl rfl rfl (pc0 := 2) (pc' := 5) (same := true) rfl (hb hby d3_2) rfl (decide_eq_true (congrArg Value.ref hs)) (by decide) (by decide) kZ) ?_
    refine own_by (S' := s₁.setTop (mkF m 6 #[.val (.ref a), .val (.ref b), .unset] [(.int (1 : Int32))])) (fun tZ kZ => XS.iconst X0.here hx rfl (hb hby d3_5) kZ) ?_
    have hxy : x = y := by
      subst hs
      have q := own_fldOne Fa Fb
      cases q
      have q := Va.one Vb
      simpa using q
    exact own_retI X0 hx (t := .boolean) Bd.returns (by simp) rfl (hb hby d3_6) Bd.notSynchronized (by decide) (by decide) ⟨by rw [if_pos hxy], N0, e0⟩
  · refine own_by (S' := s₁.setTop (mkF m 7 #[.val (.ref a), .val (.ref b), .unset] [])) (fun tZ kZ => Jvm.RoadKit.acmp (g := (mkF m 2 #[.val (.ref a), .val (.ref b), .unset] [(.ref b), (.ref a)])) X0 hx rfl rfl rfl (pc0 := 2) (pc' := 7) (same := false) rfl (hb hby d3_2) rfl (decide_eq_false fun q => hs (Value.ref.inj q)) (by decide) (by decide) kZ) ?_
    refine own_by (S' := s₁.setTop (mkF m 8 #[.val (.ref a), .val (.ref b), .unset] [(.ref b)])) (fun tZ kZ => XS.aloadN X0.here hx rfl (hb hby d3_7) rfl rfl kZ) ?_
    obtain ⟨T1, X1, e1, st1⟩ := instY X0 hx hZ hown (hw _ (List.mem_of_getElem? (i := 38) rfl)) e0 (Ins.self Eb) (g := (mkF m 8 #[.val (.ref a), .val (.ref b), .unset] [(.ref b)])) rfl rfl (hb hby d3_8)
    refine own_by (S' := T1.setTop (mkF m 11 #[.val (.ref a), .val (.ref b), .unset] [(.int (1 : Int32))])) st1 ?_
    refine own_by (S' := T1.setTop (mkF m 14 #[.val (.ref a), .val (.ref b), .unset] [])) (fun tZ kZ => XS.ifNo X1.here hx rfl (hb hby d3_11) rfl ((if0 _ _).trans (feq (by decide)).1) kZ) ?_
    refine own_by (S' := T1.setTop (mkF m 15 #[.val (.ref a), .val (.ref b), .unset] [(.ref b)])) (fun tZ kZ => XS.aloadN X1.here hx rfl (hb hby d3_14) rfl rfl kZ) ?_
    obtain ⟨T2, X2, e2, st2⟩ := castY X1 hx hZ hown (hw _ (List.mem_of_getElem? (i := 38) rfl)) e1 (Ins.self Eb) (g := (mkF m 15 #[.val (.ref a), .val (.ref b), .unset] [(.ref b)])) rfl rfl (hb hby d3_15)
    refine own_by (S' := T2.setTop (mkF m 18 #[.val (.ref a), .val (.ref b), .unset] [(.ref b)])) st2 ?_
    refine own_by (S' := T2.setTop (mkF m 19 #[.val (.ref a), .val (.ref b), .val (.ref b)] [])) (fun tZ kZ => XS.astoreN X2.here hx rfl (hb hby d3_18) rfl rfl (l' := #[.val (.ref a), .val (.ref b), .val (.ref b)]) rfl kZ) ?_
    obtain ⟨T3, X3, e3, st3⟩ := getS2 X2 hx hZ hown (host := "") (Or.inl (hw _ (List.mem_of_getElem? (i := 40) rfl))) Via.refl e2 Sc (g := (mkF m 19 #[.val (.ref a), .val (.ref b), .val (.ref b)] [])) rfl (hb hby d3_19)
    refine own_by (S' := T3.setTop (mkF m 22 #[.val (.ref a), .val (.ref b), .val (.ref b)] [(.int cz)])) st3 ?_
    refine own_by (S' := T3.setTop (mkF m 25 #[.val (.ref a), .val (.ref b), .val (.ref b)] [])) (fun tZ kZ => XS.ifNo X3.here hx rfl (hb hby d3_22) rfl ((if0 _ _).trans (feq hcz).1) kZ) ?_
    refine own_by (S' := T3.setTop (mkF m 26 #[.val (.ref a), .val (.ref b), .val (.ref b)] [(.ref a)])) (fun tZ kZ => XS.aloadN X3.here hx rfl (hb hby d3_25) rfl rfl kZ) ?_
    obtain ⟨T4, X4, e4, st4⟩ := getF X3 hx hZ hown (host := "") (Or.inl (hw _ (List.mem_of_getElem? (i := 41) rfl))) Via.refl e3 Ca (g := (mkF m 26 #[.val (.ref a), .val (.ref b), .val (.ref b)] [(.ref a)])) rfl rfl (hb hby d3_26)
    refine own_by (S' := T4.setTop (mkF m 29 #[.val (.ref a), .val (.ref b), .val (.ref b)] [(.int (0 : Int32))])) st4 ?_
    refine own_by (S' := T4.setTop (mkF m 30 #[.val (.ref a), .val (.ref b), .val (.ref b)] [(.ref b), (.int (0 : Int32))])) (fun tZ kZ => XS.aloadN X4.here hx rfl (hb hby d3_29) rfl rfl kZ) ?_
    obtain ⟨T5, X5, e5, st5⟩ := getF X4 hx hZ hown (host := "") (Or.inl (hw _ (List.mem_of_getElem? (i := 41) rfl))) Via.refl e4 Cb (g := (mkF m 30 #[.val (.ref a), .val (.ref b), .val (.ref b)] [(.ref b), (.int (0 : Int32))])) rfl rfl (hb hby d3_30)
    refine own_by (S' := T5.setTop (mkF m 33 #[.val (.ref a), .val (.ref b), .val (.ref b)] [(.int (0 : Int32)), (.int (0 : Int32))])) st5 ?_
    refine own_by (S' := T5.setTop (mkF m 36 #[.val (.ref a), .val (.ref b), .val (.ref b)] [])) (fun tZ kZ => XS.icmpNo X5.here hx rfl (hb hby d3_33) rfl (teq rfl).2 kZ) ?_
    refine own_by (S' := T5.setTop (mkF m 37 #[.val (.ref a), .val (.ref b), .val (.ref b)] [(.ref a)])) (fun tZ kZ => XS.aloadN X5.here hx rfl (hb hby d3_36) rfl rfl kZ) ?_
    obtain ⟨T6, X6, e6, st6⟩ := getF X5 hx hZ hown (host := "") (Or.inl (hw _ (List.mem_of_getElem? (i := 25) rfl))) Via.refl e5 Fa (g := (mkF m 37 #[.val (.ref a), .val (.ref b), .val (.ref b)] [(.ref a)])) rfl rfl (hb hby d3_37)
    refine own_by (S' := T6.setTop (mkF m 40 #[.val (.ref a), .val (.ref b), .val (.ref b)] [(.ref t)])) st6 ?_
    refine own_by (S' := T6.setTop (mkF m 41 #[.val (.ref a), .val (.ref b), .val (.ref b)] [(.ref b), (.ref t)])) (fun tZ kZ => XS.aloadN X6.here hx rfl (hb hby d3_40) rfl rfl kZ) ?_
    obtain ⟨T7, X7, e7, st7⟩ := getF X6 hx hZ hown (host := "") (Or.inl (hw _ (List.mem_of_getElem? (i := 25) rfl))) Via.refl e6 Fb (g := (mkF m 41 #[.val (.ref a), .val (.ref b), .val (.ref b)] [(.ref b), (.ref t)])) rfl rfl (hb hby d3_41)
    refine own_by (S' := T7.setTop (mkF m 44 #[.val (.ref a), .val (.ref b), .val (.ref b)] [(.ref u), (.ref t)])) st7 ?_
    obtain ⟨_, _, ⟨T8, L8, k8, n8⟩, -, X8, ⟨Lc8, hQ8, l8, y8, z8⟩, st8⟩ := Jvm.LawKit.callS X7 hx (y := (⟨"java/lang/StringLatin1", "equals", "([B[B)Z"⟩ : MethodName)) hown (mvT hZ (hw _ (List.mem_of_getElem? (i := 42) rfl))) (mvT hZ (hw _ (List.mem_of_getElem? (i := 43) rfl))) (mvT hZ (hw _ (List.mem_of_getElem? (i := 44) rfl))) (mvT hZ (hw _ (List.mem_of_getElem? (i := 45) rfl))) (by decide) (backOf (W := 0) (rmLEq l Z a0 hw [] t u k k2 x y h0 n0 Z0 Va Vb) hZ (hw _ (List.mem_of_getElem? (i := 45) rfl)) (hw _ (List.mem_of_getElem? (i := 44) rfl)) (by decide) (by decide)) (g := (mkF m 44 #[.val (.ref a), .val (.ref b), .val (.ref b)] [(.ref u), (.ref t)])) rfl (by rw [hml]; rfl) (argsL := [(.ref t), (.ref u)]) (rest := []) (lenOf pd_0 rfl) rfl (by show 2 * 0 + _ ≤ _; exact Nat.le_of_eq rfl) (hb hby d3_44) (fun _ _ => ⟨rfl, e7, (by decide : 0 + 0 ≤ _), (by decide : 0 + 0 ≤ _)⟩)
    dsimp only [Pt.U, Pt.locs, Pt.cells, Pt.slots] at X8 l8 y8 z8 st8 hQ8
    subst l8 y8 z8
    obtain ⟨rfl, N8q, heq8⟩ := hQ8
    have N8 := Fr.app N0 N8q
    refine own_by (S' := T8.setTop (mkF m 47 #[.val (.ref a), .val (.ref b), .val (.ref b)] [(.int (if x = y then (1 : Int32) else 0))])) (fun tZ kZ => st8 _ kZ) ?_
    by_cases hxy : x = y
    · rw [if_pos hxy]
      refine own_by (S' := T8.setTop (mkF m 50 #[.val (.ref a), .val (.ref b), .val (.ref b)] [])) (fun tZ kZ => XS.ifNo X8.here hx rfl (hb hby d3_47) rfl ((if0 _ _).trans (feq (by decide)).1) kZ) ?_
      refine own_by (S' := T8.setTop (mkF m 51 #[.val (.ref a), .val (.ref b), .val (.ref b)] [(.int (1 : Int32))])) (fun tZ kZ => XS.iconst X8.here hx rfl (hb hby d3_50) kZ) ?_
      refine own_by (S' := T8.setTop (mkF m 55 #[.val (.ref a), .val (.ref b), .val (.ref b)] [(.int (1 : Int32))])) (fun tZ kZ => XS.goto X8.here hx rfl (pc0 := 51) (pc' := 55) rfl (hb hby d3_51) (by decide) (by decide) kZ) ?_
      exact own_retI X8 hx (t := .boolean) Bd.returns (by simp) rfl (hb hby d3_55) Bd.notSynchronized (by decide) (by decide) ⟨by first | rfl | rw [if_pos hxy], N8, heq8⟩
    · rw [if_neg hxy]
      refine own_by (S' := T8.setTop (mkF m 54 #[.val (.ref a), .val (.ref b), .val (.ref b)] [])) (fun tZ kZ => XS.ifYes X8.here hx rfl (pc0 := 47) (pc' := 54) rfl (hb hby d3_47) rfl ((if0 _ _).trans (teq rfl).1) (by decide) (by decide) kZ) ?_
      refine own_by (S' := T8.setTop (mkF m 55 #[.val (.ref a), .val (.ref b), .val (.ref b)] [(.int (0 : Int32))])) (fun tZ kZ => XS.iconst X8.here hx rfl (hb hby d3_54) kZ) ?_
      exact own_retI X8 hx (t := .boolean) Bd.returns (by simp) rfl (hb hby d3_55) Bd.notSynchronized (by decide) (by decide) ⟨by first | rfl | rw [if_neg hxy], N8, heq8⟩
theorem d1_0 : decode prog_81_method_6_code 0 = .ok (.aload_n 0, 1) := by decide +kernel
theorem d1_1 : decode prog_81_method_6_code 1 = .ok (.getfield 35, 3) := by decide +kernel
theorem d1_4 : decode prog_81_method_6_code 4 = .ok (.areturn, 1) := by decide +kernel
theorem pn_2 : plainName "com/example/modelwright/modelwright/statement/Cardinality" = true := by first | (simp [plainName, overriddenIn]; done) | decide +kernel
theorem ef_rmSuf (m : MethodId) (a : Addr) : entryFrame m #[(.ref a)] 1 = mkF m 0 #[.val (.ref a)] [] := by first | (simp [entryFrame, mkF, argsToLocals, Value.category, maxLocals]; done) | rfl
set_option maxRecDepth 65536 in
set_option maxHeartbeats 40000000 in
theorem rmSuf (l : Launch) (Z : State) (a0 : Array Value) (hw : ∀ d ∈ tables_1, d.before a0 Z = true) (ws : List Jvm.Cond) (a b : Addr) (h0 : Heap) (n0 : Nat) (Z0 : n0 ≤ h0.size) (Fs : Fld Z h0 a "com/example/modelwright/modelwright/statement/Cardinality" "suffix" "Ljava/lang/String;" (.ref b)) :
    MetFree l (⟨"com/example/modelwright/modelwright/statement/Cardinality", "suffix", "()Ljava/lang/String;"⟩ : MethodName) (head1 (Jvm.Cond.code (⟨"com/example/modelwright/modelwright/statement/Cardinality", "suffix", "()Ljava/lang/String;"⟩ : MethodName) prog_81_method_6_code (1 : Nat) (Option.some (Jvm.ClassFile.FieldType.object "java/lang/String")) :: ws) ({ frames := 0, cells := 0, slots := 0, locals := 0 } : Room)) (fun aZ UZ => aZ = #[(.ref a)] ∧ Z.Warmed39 UZ.vm ∧ UZ.heap = h0) (fun _ _ _ _ _ => True) (fun _ UZ oZ VZ => ∃ vZ LZ, oZ = .returned vZ ∧ (QSame (some (.ref b)) h0 n0) vZ VZ.heap LZ ∧ FrameEnd UZ oZ VZ LZ ({ frames := 0, cells := 0, slots := 0, locals := 0 } : Room).cells ({ frames := 0, cells := 0, slots := 0, locals := 0 } : Room).slots) := by
  refine MetFree.of_bodySF (plainFor_of_name pn_2) hisR ?_
  intro p e s m args below meth c s₁ Bd hml0 hP hK
  obtain ⟨rfl, hZ, hh⟩ := hP
  have hx := Bd.exec
  have hby := Bd.bytes
  have hml : c.maxLocals = 1 := hml0
  have hown : s.vm.findClass "com/example/modelwright/modelwright/statement/Cardinality" = some m.cls := findClass_of_methodNamed Bd.named
  have hnm := (name_of_methodNamed Bd.named Bd.method).1
  have X0 : Stand p l e ({ frames := 0, cells := 0, slots := 0, locals := 0 } : Room) s m #[(.ref a)] below meth c s₁ [] 0 0 := Stand.of_body Bd
  have e0 : s₁.heap = h0 := by rw [← hh, Bd.state]; rfl
  have N0 := Fr.nil n0
  show OwnG p e below (OwnE s (QSame (some (.ref b)) h0 n0) ({ frames := 0, cells := 0, slots := 0, locals := 0 } : Room).cells ({ frames := 0, cells := 0, slots := 0, locals := 0 } : Room).slots) _
  refine own_by (S' := s₁.setTop (mkF m 0 #[.val (.ref a)] [])) (fun tZ kZ => castTop (ef_rmSuf m a) kZ) ?_
  refine own_by (S' := s₁.setTop (mkF m 1 #[.val (.ref a)] [(.ref a)])) (fun tZ kZ => XS.aloadN X0.here hx rfl (hb hby d1_0) rfl rfl kZ) ?_
  obtain ⟨T1, X1, e1, st1⟩ := getF X0 hx hZ hown (host := "") (Or.inl (hw _ (List.mem_of_getElem? (i := 17) rfl))) Via.refl e0 Fs (g := (mkF m 1 #[.val (.ref a)] [(.ref a)])) rfl rfl (hb hby d1_1)
  refine own_by (S' := T1.setTop (mkF m 4 #[.val (.ref a)] [(.ref b)])) st1 ?_
  exact own_retA X1 hx Bd.returns rfl rfl (hb hby d1_4) Bd.notSynchronized (by decide) (by decide) ⟨rfl, N0, e1⟩
theorem d5_0 : decode prog_81_method_4_code 0 = .ok (.aload_n 0, 1) := by decide +kernel
theorem d5_1 : decode prog_81_method_4_code 1 = .ok (.getstatic 7, 3) := by decide +kernel
theorem d5_4 : decode prog_81_method_4_code 4 = .ok (.if_acmp .eq 10, 3) := by decide +kernel
theorem d5_7 : decode prog_81_method_4_code 7 = .ok (.aload_n 0, 1) := by decide +kernel
theorem d5_8 : decode prog_81_method_4_code 8 = .ok (.getstatic 13, 3) := by decide +kernel
theorem d5_11 : decode prog_81_method_4_code 11 = .ok (.if_acmp .ne 7, 3) := by decide +kernel
theorem d5_14 : decode prog_81_method_4_code 14 = .ok (.iconst 1, 1) := by decide +kernel
theorem d5_15 : decode prog_81_method_4_code 15 = .ok (.goto 4, 3) := by decide +kernel
theorem d5_18 : decode prog_81_method_4_code 18 = .ok (.iconst 0, 1) := by decide +kernel
theorem d5_19 : decode prog_81_method_4_code 19 = .ok (.ireturn, 1) := by decide +kernel
theorem ef_rmReq (m : MethodId) (a : Addr) : entryFrame m #[(.ref a)] 1 = mkF m 0 #[.val (.ref a)] [] := by first | (simp [entryFrame, mkF, argsToLocals, Value.category, maxLocals]; done) | rfl
set_option maxRecDepth 65536 in
set_option maxHeartbeats 40000000 in
theorem rmReq (l : Launch) (Z : State) (a0 : Array Value) (hw : ∀ d ∈ tables_1, d.before a0 Z = true) (ws : List Jvm.Cond) (a b d : Addr) (h0 : Heap) (n0 : Nat) (Z0 : n0 ≤ h0.size) (Sb : Sta Z h0 "com/example/modelwright/modelwright/statement/Cardinality" "ONE" "Lcom/example/modelwright/modelwright/statement/Cardinality;" (.ref b)) (Sd : Sta Z h0 "com/example/modelwright/modelwright/statement/Cardinality" "ONE_OR_MORE" "Lcom/example/modelwright/modelwright/statement/Cardinality;" (.ref d)) :
    MetFree l (⟨"com/example/modelwright/modelwright/statement/Cardinality", "required", "()Z"⟩ : MethodName) (head1 (Jvm.Cond.code (⟨"com/example/modelwright/modelwright/statement/Cardinality", "required", "()Z"⟩ : MethodName) prog_81_method_4_code (1 : Nat) (Option.some Jvm.ClassFile.FieldType.boolean) :: ws) ({ frames := 0, cells := 0, slots := 0, locals := 0 } : Room)) (fun aZ UZ => aZ = #[(.ref a)] ∧ Z.Warmed39 UZ.vm ∧ UZ.heap = h0) (fun _ _ _ _ _ => True) (fun _ UZ oZ VZ => ∃ vZ LZ, oZ = .returned vZ ∧ (QSame (some (.int (if a = b ∨ a = d then 1 else 0))) h0 n0) vZ VZ.heap LZ ∧ FrameEnd UZ oZ VZ LZ ({ frames := 0, cells := 0, slots := 0, locals := 0 } : Room).cells ({ frames := 0, cells := 0, slots := 0, locals := 0 } : Room).slots) := by
  refine MetFree.of_bodySF (plainFor_of_name pn_2) hisR ?_
  intro p e s m args below meth c s₁ Bd hml0 hP hK
  obtain ⟨rfl, hZ, hh⟩ := hP
  have hx := Bd.exec
  have hby := Bd.bytes
  have hml : c.maxLocals = 1 := hml0
  have hown : s.vm.findClass "com/example/modelwright/modelwright/statement/Cardinality" = some m.cls := findClass_of_methodNamed Bd.named
  have hnm := (name_of_methodNamed Bd.named Bd.method).1
  have X0 : Stand p l e ({ frames := 0, cells := 0, slots := 0, locals := 0 } : Room) s m #[(.ref a)] below meth c s₁ [] 0 0 := Stand.of_body Bd
  have e0 : s₁.heap = h0 := by rw [← hh, Bd.state]; rfl
  have N0 := Fr.nil n0
  show OwnG p e below (OwnE s (QSame (some (.int (if a = b ∨ a = d then 1 else 0))) h0 n0) ({ frames := 0, cells := 0, slots := 0, locals := 0 } : Room).cells ({ frames := 0, cells := 0, slots := 0, locals := 0 } : Room).slots) _
  refine own_by (S' := s₁.setTop (mkF m 0 #[.val (.ref a)] [])) (fun tZ kZ => castTop (ef_rmReq m a) kZ) ?_
  refine own_by (S' := s₁.setTop (mkF m 1 #[.val (.ref a)] [(.ref a)])) (fun tZ kZ => XS.aloadN X0.here hx rfl (hb hby d5_0) rfl rfl kZ) ?_
  obtain ⟨T1, X1, e1, st1⟩ := getS2 X0 hx hZ hown (host := "") (Or.inl (hw _ (List.mem_of_getElem? (i := 51) rfl))) Via.refl e0 Sb (g := (mkF m 1 #[.val (.ref a)] [(.ref a)])) rfl (hb hby d5_1)
  refine own_by (S' := T1.setTop (mkF m 4 #[.val (.ref a)] [(.ref b), (.ref a)])) st1 ?_
  by_cases h1 : a = b
  · refine own_by (S' := T1.setTop (mkF m 14 #[.val (.ref a)] [])) (fun tZ kZ => Jvm.RoadKit.acmp (g := (mkF m 4 #[.val (.ref a)] [(.ref b), (.ref a)])) X1 hx rfl rfl rfl (pc0 := 4) (pc' := 14) (same := true) rfl (hb hby d5_4) rfl (decide_eq_true (congrArg Value.ref h1)) (by decide) (by decide) kZ) ?_
    refine own_by (S' := T1.setTop (mkF m 15 #[.val (.ref a)] [(.int (1 : Int32))])) (fun tZ kZ => XS.iconst X1.here hx rfl (hb hby d5_14) kZ) ?_
    refine own_by (S' := T1.setTop (mkF m 19 #[.val (.ref a)] [(.int (1 : Int32))])) (fun tZ kZ => XS.goto X1.here hx rfl (pc0 := 15) (pc' := 19) rfl (hb hby d5_15) (by decide) (by decide) kZ) ?_
    exact own_retI X1 hx (t := .boolean) Bd.returns (by simp) rfl (hb hby d5_19) Bd.notSynchronized (by decide) (by decide) ⟨by rw [if_pos (Or.inl h1)], N0, e1⟩
  · refine own_by (S' := T1.setTop (mkF m 7 #[.val (.ref a)] [])) (fun tZ kZ => Jvm.RoadKit.acmp (g := (mkF m 4 #[.val (.ref a)] [(.ref b), (.ref a)])) X1 hx rfl rfl rfl (pc0 := 4) (pc' := 7) (same := false) rfl (hb hby d5_4) rfl (decide_eq_false fun q => h1 (Value.ref.inj q)) (by decide) (by decide) kZ) ?_
    refine own_by (S' := T1.setTop (mkF m 8 #[.val (.ref a)] [(.ref a)])) (fun tZ kZ => XS.aloadN X1.here hx rfl (hb hby d5_7) rfl rfl kZ) ?_
    obtain ⟨T2, X2, e2, st2⟩ := getS2 X1 hx hZ hown (host := "") (Or.inl (hw _ (List.mem_of_getElem? (i := 52) rfl))) Via.refl e1 Sd (g := (mkF m 8 #[.val (.ref a)] [(.ref a)])) rfl (hb hby d5_8)
    refine own_by (S' := T2.setTop (mkF m 11 #[.val (.ref a)] [(.ref d), (.ref a)])) st2 ?_
    by_cases h2 : a = d
    · refine own_by (S' := T2.setTop (mkF m 14 #[.val (.ref a)] [])) (fun tZ kZ => Jvm.RoadKit.acmp (g := (mkF m 11 #[.val (.ref a)] [(.ref d), (.ref a)])) X2 hx rfl rfl rfl (pc0 := 11) (pc' := 14) (same := true) rfl (hb hby d5_11) rfl (decide_eq_true (congrArg Value.ref h2)) (by decide) (by decide) kZ) ?_
      refine own_by (S' := T2.setTop (mkF m 15 #[.val (.ref a)] [(.int (1 : Int32))])) (fun tZ kZ => XS.iconst X2.here hx rfl (hb hby d5_14) kZ) ?_
      refine own_by (S' := T2.setTop (mkF m 19 #[.val (.ref a)] [(.int (1 : Int32))])) (fun tZ kZ => XS.goto X2.here hx rfl (pc0 := 15) (pc' := 19) rfl (hb hby d5_15) (by decide) (by decide) kZ) ?_
      exact own_retI X2 hx (t := .boolean) Bd.returns (by simp) rfl (hb hby d5_19) Bd.notSynchronized (by decide) (by decide) ⟨by rw [if_pos (Or.inr h2)], N0, e2⟩
    · refine own_by (S' := T2.setTop (mkF m 18 #[.val (.ref a)] [])) (fun tZ kZ => Jvm.RoadKit.acmp (g := (mkF m 11 #[.val (.ref a)] [(.ref d), (.ref a)])) X2 hx rfl rfl rfl (pc0 := 11) (pc' := 18) (same := false) rfl (hb hby d5_11) rfl (decide_eq_false fun q => h2 (Value.ref.inj q)) (by decide) (by decide) kZ) ?_
      refine own_by (S' := T2.setTop (mkF m 19 #[.val (.ref a)] [(.int (0 : Int32))])) (fun tZ kZ => XS.iconst X2.here hx rfl (hb hby d5_18) kZ) ?_
      exact own_retI X2 hx (t := .boolean) Bd.returns (by simp) rfl (hb hby d5_19) Bd.notSynchronized (by decide) (by decide) ⟨by rw [if_neg (fun q => q.elim h1 h2)], N0, e2⟩
theorem own_and3 (x : Int32) : (x &&& 3) = 0 ∨ (x &&& 3) = 1 ∨ (x &&& 3) = 2 ∨ (x &&& 3) = 3 := by
  have h1 := c_mask x 3 2 (by decide) (by decide)
  have a : (x &&& 3).toInt = 0 ∨ (x &&& 3).toInt = 1 ∨ (x &&& 3).toInt = 2 ∨ (x &&& 3).toInt = 3 := by omega
  rcases a with a | a | a | a
  · exact Or.inl (Int32.toInt_inj.mp a)
  · exact Or.inr (Or.inl (Int32.toInt_inj.mp a))
  · exact Or.inr (Or.inr (Or.inl (Int32.toInt_inj.mp a)))
  · exact Or.inr (Or.inr (Or.inr (Int32.toInt_inj.mp a)))
theorem own_list1 {cl : Cell} {v : Value} (h1 : cl.slots.size = (1 : Int32).toNatClampNeg) (h2 : cl.slots[(0 : Int32).toNatClampNeg]? = some v) : cl.slots.toList = [v] := by
  have q1 : cl.slots.toList.length = 1 := by rw [Array.length_toList, h1]; rfl
  have q2 : cl.slots.toList[0]? = some v := by rw [Array.getElem?_toList]; exact h2
  match hL : cl.slots.toList, q1 with
  | [w], _ => rw [hL] at q2; simpa using q2
def Q0 (h0 : Heap) (n0 : Nat) (v : Option Value) (h : Heap) (L : List Loc) : Prop := v = some (.int 1) ∧ Fr n0 L
theorem pn_3 : plainName "com/example/modelwright/modelwright/statement/CardinalityRequiredPinLaw" = true := by first | (simp [plainName, overriddenIn]; done) | decide +kernel
theorem ef_rm0 (m : MethodId) (p1 : Int32) : entryFrame m #[(.int p1)] maxLocals = mkF m 0 #[.val (.int p1), .unset, .unset, .unset, .unset] [] := by first | (simp [entryFrame, mkF, argsToLocals, Value.category, maxLocals]; done) | rfl
set_option maxRecDepth 65536 in
set_option maxHeartbeats 40000000 in
theorem rm0 (l : Launch) (Z : State) (a0 : Array Value) (hw : ∀ d ∈ tables_1, d.before a0 Z = true) (ws : List Jvm.Cond) (p1 : Int32) (c0 s0 t0 c1 s1 t1 c2 s2 t2 c3 s3 t3 : Addr) (u0 u1 u2 u3 : Cell) (cz : Int32) (h0 : Heap) (n0 : Nat) (Z0 : n0 ≤ h0.size) (S_c0 : Sta Z h0 "com/example/modelwright/modelwright/statement/Cardinality" "ZERO_OR_ONE" "Lcom/example/modelwright/modelwright/statement/Cardinality;" (.ref c0)) (E_c0 : Exa Z h0 c0 "com/example/modelwright/modelwright/statement/Cardinality") (F_c0 : Fld Z h0 c0 "com/example/modelwright/modelwright/statement/Cardinality" "suffix" "Ljava/lang/String;" (.ref s0)) (G_c0 : Exa Z h0 s0 "java/lang/String") (V_cc0 : Fld Z h0 s0 "java/lang/String" "value" "[B" (.ref t0)) (C_c0 : Fld Z h0 s0 "java/lang/String" "coder" "B" (.int 0)) (A_c0 : Arr Z h0 t0 u0 .byte) (z_c0 : u0.slots.size = (1 : Int32).toNatClampNeg) (b_c0 : u0.slots[(0 : Int32).toNatClampNeg]? = some (.int 63)) (S_c1 : Sta Z h0 "com/example/modelwright/modelwright/statement/Cardinality" "ONE" "Lcom/example/modelwright/modelwright/statement/Cardinality;" (.ref c1)) (E_c1 : Exa Z h0 c1 "com/example/modelwright/modelwright/statement/Cardinality") (F_c1 : Fld Z h0 c1 "com/example/modelwright/modelwright/statement/Cardinality" "suffix" "Ljava/lang/String;" (.ref s1)) (G_c1 : Exa Z h0 s1 "java/lang/String") (V_cc1 : Fld Z h0 s1 "java/lang/String" "value" "[B" (.ref t1)) (C_c1 : Fld Z h0 s1 "java/lang/String" "coder" "B" (.int 0)) (A_c1 : Arr Z h0 t1 u1 .byte) (z_c1 : u1.slots.size = (0 : Int32).toNatClampNeg) (S_c2 : Sta Z h0 "com/example/modelwright/modelwright/statement/Cardinality" "ZERO_OR_MORE" "Lcom/example/modelwright/modelwright/statement/Cardinality;" (.ref c2)) (E_c2 : Exa Z h0 c2 "com/example/modelwright/modelwright/statement/Cardinality") (F_c2 : Fld Z h0 c2 "com/example/modelwright/modelwright/statement/Cardinality" "suffix" "Ljava/lang/String;" (.ref s2)) (G_c2 : Exa Z h0 s2 "java/lang/String") (V_cc2 : Fld Z h0 s2 "java/lang/String" "value" "[B" (.ref t2)) (C_c2 : Fld Z h0 s2 "java/lang/String" "coder" "B" (.int 0)) (A_c2 : Arr Z h0 t2 u2 .byte) (z_c2 : u2.slots.size = (1 : Int32).toNatClampNeg) (b_c2 : u2.slots[(0 : Int32).toNatClampNeg]? = some (.int 42)) (S_c3 : Sta Z h0 "com/example/modelwright/modelwright/statement/Cardinality" "ONE_OR_MORE" "Lcom/example/modelwright/modelwright/statement/Cardinality;" (.ref c3)) (E_c3 : Exa Z h0 c3 "com/example/modelwright/modelwright/statement/Cardinality") (F_c3 : Fld Z h0 c3 "com/example/modelwright/modelwright/statement/Cardinality" "suffix" "Ljava/lang/String;" (.ref s3)) (G_c3 : Exa Z h0 s3 "java/lang/String") (V_cc3 : Fld Z h0 s3 "java/lang/String" "value" "[B" (.ref t3)) (C_c3 : Fld Z h0 s3 "java/lang/String" "coder" "B" (.int 0)) (A_c3 : Arr Z h0 t3 u3 .byte) (z_c3 : u3.slots.size = (1 : Int32).toNatClampNeg) (b_c3 : u3.slots[(0 : Int32).toNatClampNeg]? = some (.int 43)) (n01 : ¬ c0 = c1) (n03 : ¬ c0 = c3) (n21 : ¬ c2 = c1) (n23 : ¬ c2 = c3) (Sc : Sta Z h0 "java/lang/String" "COMPACT_STRINGS" "Z" (.int cz)) (hcz : ¬ cz = 0) (hh1 : Jvm.Lit.constHeld Z "com/example/modelwright/modelwright/statement/CardinalityRequiredPinLaw" 32) (hcw : Jvm.Lit.compactW.before a0 Z = true) (hn0 : n0 = Z.heap.size) :
    MetFree l x (head1 (Jvm.Cond.code x code maxLocals ret :: ws) room_1) (fun aZ UZ => aZ = #[(.int p1)] ∧ UZ = Z ∧ UZ.heap = h0) (fun _ _ _ _ _ => True) (fun _ UZ oZ VZ => ∃ vZ LZ, oZ = .returned vZ ∧ (Q0  h0 n0) vZ VZ.heap LZ ∧ ReturnedEndW UZ oZ VZ LZ room_1.cells room_1.slots) := by
  refine MetFree.of_bodySF (plainFor_of_name pn_3) hisR ?_
  intro p e s m args below meth c s₁ Bd hml0 hP hK
  obtain ⟨rfl, hU, hh⟩ := hP
  have hZ : Z.Warmed39 s.vm := by rw [hU]; exact State.Warmed39.refl Z
  have hx := Bd.exec
  have hby := Bd.bytes
  have hml : c.maxLocals = 5 := hml0
  have hown : s.vm.findClass "com/example/modelwright/modelwright/statement/CardinalityRequiredPinLaw" = some m.cls := findClass_of_methodNamed Bd.named
  have hnm := (name_of_methodNamed Bd.named Bd.method).1
  have X0 : Stand p l e room_1 (s.setVm s.vm) m #[(.int p1)] below meth c s₁ [] 0 0 := Stand.of_body Bd
  have e0 : s₁.heap = h0 := by rw [← hh, Bd.state]; rfl
  have N0 := Fr.nil n0
  show OwnG p e below (OwnEW s (Q0  h0 n0) room_1.cells room_1.slots) _
  refine own_by (S' := s₁.setTop (mkF m 0 #[.val (.int p1), .unset, .unset, .unset, .unset] [])) (fun tZ kZ => castTop (ef_rm0 m p1) kZ) ?_
  have hS0 : s.Since s.vm 0 := State.WarmedH.since (State.WarmedH.refl s) 0
  have hk0 : 0 ≤ h0.size := Nat.zero_le _
  have hZ0 : Z.Warmed39 (s.setVm s.vm).vm := hZ
  have hown0 : (s.setVm s.vm).vm.findClass "com/example/modelwright/modelwright/statement/CardinalityRequiredPinLaw" = some m.cls := hown
  refine own_by (S' := s₁.setTop (mkF m 1 #[.val (.int p1), .unset, .unset, .unset, .unset] [(.int (4 : Int32))])) (fun tZ kZ => XS.iconst X0.here hx rfl (hb hby at_0) kZ) ?_
  obtain ⟨T1, h1, k1, X1, e1, E1, A1, O1, st1⟩ := newR X0 hx hZ0 hown0 (hw _ (List.mem_of_getElem? (i := 0) rfl)) (hw _ (List.mem_of_getElem? (i := 1) rfl)) e0 (g := (mkF m 1 #[.val (.int p1), .unset, .unset, .unset, .unset] [(.int (4 : Int32))])) rfl (hb hby at_1) rfl (by decide) (cap := 4) (by decide) (by decide) (by decide) (by decide)
  obtain ⟨b1, g1⟩ : ∃ z, z = h0.size := ⟨_, rfl⟩
  rw [← g1] at A1 st1
  have g_b1 : n0 ≤ b1 := Nat.le_trans Z0 (Nat.le_of_eq g1.symm)
  have sz_b1 : h0.size ≤ b1 := Nat.le_trans (Keep.refl h0 []).1 (Nat.le_of_eq g1.symm)
  have Zs1 : n0 ≤ h1.size := Nat.le_trans Z0 E1.1
  have hk1 := Nat.le_trans hk0 E1.1
  have K1 := (Keep.refl h0 []).ext E1
  have V_b1 := OwnA.new A1
  refine own_by (S' := T1.setTop (mkF m 4 #[.val (.int p1), .unset, .unset, .unset, .unset] [(.ref b1)])) st1 ?_
  have V_b1' : OwnA Z h1 b1 k1 (.object "com/example/modelwright/modelwright/statement/Cardinality") [.null, .null, .null, .null] := V_b1
  refine own_by (S' := T1.setTop (mkF m 5 #[.val (.int p1), .unset, .unset, .unset, .unset] [(.ref b1), (.ref b1)])) (fun tZ kZ => XS.dup X1.here hx rfl (hb hby at_4) rfl rfl kZ) ?_
  refine own_by (S' := T1.setTop (mkF m 6 #[.val (.int p1), .unset, .unset, .unset, .unset] [(.int (0 : Int32)), (.ref b1), (.ref b1)])) (fun tZ kZ => XS.iconst X1.here hx rfl (hb hby at_5) kZ) ?_
  have ExK1 := own_ext0 K1
  obtain ⟨T2, X2, e2, st2⟩ := getS2 X1 hx hZ0 hown0 (host := "") (Or.inl (hw _ (List.mem_of_getElem? (i := 2) rfl))) Via.refl e1 (S_c0.ext ExK1) (g := (mkF m 6 #[.val (.int p1), .unset, .unset, .unset, .unset] [(.int (0 : Int32)), (.ref b1), (.ref b1)])) rfl (hb hby at_6)
  refine own_by (S' := T2.setTop (mkF m 9 #[.val (.int p1), .unset, .unset, .unset, .unset] [(.ref c0), (.int (0 : Int32)), (.ref b1), (.ref b1)])) st2 ?_
  obtain ⟨cc3, Ar3, hc3, hl3⟩ := id V_b1'
  have hin3 := OwnA.inb (j := (0 : Int32)) hl3 (by decide) (Nat.le_of_ble_eq_true rfl)
  obtain ⟨T3, h3, X3, e3, W3, st3⟩ := stR X2 hx hZ0 e2 Ar3 (j := (0 : Int32)) hin3 rfl (Sto.of Ar3 (hc3 ▸ O1) (Ins.self (E_c0.ext ExK1))) (g := (mkF m 9 #[.val (.int p1), .unset, .unset, .unset, .unset] [(.ref c0), (.int (0 : Int32)), (.ref b1), (.ref b1)])) rfl rfl (hb hby at_9)
  have N3 := Fr.snoc X3 N0 g_b1
  have Zs3 : n0 ≤ h3.size := Nat.le_trans Zs1 (Keep.of_wr W3).1
  have hk3 := Nat.le_trans hk1 (Keep.of_wr W3).1
  have K3 := K1.wr W3 (Or.inr sz_b1)
  have V_b1_w3 : OwnA Z h3 b1 k1 (.object "com/example/modelwright/modelwright/statement/Cardinality") [(.ref c0), .null, .null, .null] := (V_b1'.set W3)
  refine own_by (S' := T3.setTop (mkF m 10 #[.val (.int p1), .unset, .unset, .unset, .unset] [(.ref b1)])) st3 ?_
  refine own_by (S' := T3.setTop (mkF m 11 #[.val (.int p1), .unset, .unset, .unset, .unset] [(.ref b1), (.ref b1)])) (fun tZ kZ => XS.dup X3.here hx rfl (hb hby at_10) rfl rfl kZ) ?_
  refine own_by (S' := T3.setTop (mkF m 12 #[.val (.int p1), .unset, .unset, .unset, .unset] [(.int (1 : Int32)), (.ref b1), (.ref b1)])) (fun tZ kZ => XS.iconst X3.here hx rfl (hb hby at_11) kZ) ?_
  have ExK3 := own_ext0 K3
  obtain ⟨T4, X4, e4, st4⟩ := getS2 X3 hx hZ0 hown0 (host := "") (Or.inl (hw _ (List.mem_of_getElem? (i := 6) rfl))) Via.refl e3 (S_c1.ext ExK3) (g := (mkF m 12 #[.val (.int p1), .unset, .unset, .unset, .unset] [(.int (1 : Int32)), (.ref b1), (.ref b1)])) rfl (hb hby at_12)
  refine own_by (S' := T4.setTop (mkF m 15 #[.val (.int p1), .unset, .unset, .unset, .unset] [(.ref c1), (.int (1 : Int32)), (.ref b1), (.ref b1)])) st4 ?_
  obtain ⟨cc5, Ar5, hc5, hl5⟩ := id V_b1_w3
  have hin5 := OwnA.inb (j := (1 : Int32)) hl5 (by decide) (Nat.le_of_ble_eq_true rfl)
  obtain ⟨T5, h5, X5, e5, W5, st5⟩ := stR X4 hx hZ0 e4 Ar5 (j := (1 : Int32)) hin5 rfl (Sto.of Ar5 (hc5 ▸ O1) (Ins.self (E_c1.ext ExK3))) (g := (mkF m 15 #[.val (.int p1), .unset, .unset, .unset, .unset] [(.ref c1), (.int (1 : Int32)), (.ref b1), (.ref b1)])) rfl rfl (hb hby at_15)
  have N5 := Fr.snoc X5 N3 g_b1
  have Zs5 : n0 ≤ h5.size := Nat.le_trans Zs3 (Keep.of_wr W5).1
  have hk5 := Nat.le_trans hk3 (Keep.of_wr W5).1
  have K5 := K3.wr W5 (Or.inr sz_b1)
  have V_b1_w5 : OwnA Z h5 b1 k1 (.object "com/example/modelwright/modelwright/statement/Cardinality") [(.ref c0), (.ref c1), .null, .null] := (V_b1_w3.set W5)
  refine own_by (S' := T5.setTop (mkF m 16 #[.val (.int p1), .unset, .unset, .unset, .unset] [(.ref b1)])) st5 ?_
  refine own_by (S' := T5.setTop (mkF m 17 #[.val (.int p1), .unset, .unset, .unset, .unset] [(.ref b1), (.ref b1)])) (fun tZ kZ => XS.dup X5.here hx rfl (hb hby at_16) rfl rfl kZ) ?_
  refine own_by (S' := T5.setTop (mkF m 18 #[.val (.int p1), .unset, .unset, .unset, .unset] [(.int (2 : Int32)), (.ref b1), (.ref b1)])) (fun tZ kZ => XS.iconst X5.here hx rfl (hb hby at_17) kZ) ?_
  have ExK5 := own_ext0 K5
  obtain ⟨T6, X6, e6, st6⟩ := getS2 X5 hx hZ0 hown0 (host := "") (Or.inl (hw _ (List.mem_of_getElem? (i := 8) rfl))) Via.refl e5 (S_c2.ext ExK5) (g := (mkF m 18 #[.val (.int p1), .unset, .unset, .unset, .unset] [(.int (2 : Int32)), (.ref b1), (.ref b1)])) rfl (hb hby at_18)
  refine own_by (S' := T6.setTop (mkF m 21 #[.val (.int p1), .unset, .unset, .unset, .unset] [(.ref c2), (.int (2 : Int32)), (.ref b1), (.ref b1)])) st6 ?_
  obtain ⟨cc7, Ar7, hc7, hl7⟩ := id V_b1_w5
  have hin7 := OwnA.inb (j := (2 : Int32)) hl7 (by decide) (Nat.le_of_ble_eq_true rfl)
  obtain ⟨T7, h7, X7, e7, W7, st7⟩ := stR X6 hx hZ0 e6 Ar7 (j := (2 : Int32)) hin7 rfl (Sto.of Ar7 (hc7 ▸ O1) (Ins.self (E_c2.ext ExK5))) (g := (mkF m 21 #[.val (.int p1), .unset, .unset, .unset, .unset] [(.ref c2), (.int (2 : Int32)), (.ref b1), (.ref b1)])) rfl rfl (hb hby at_21)
  have N7 := Fr.snoc X7 N5 g_b1
  have Zs7 : n0 ≤ h7.size := Nat.le_trans Zs5 (Keep.of_wr W7).1
  have hk7 := Nat.le_trans hk5 (Keep.of_wr W7).1
  have K7 := K5.wr W7 (Or.inr sz_b1)
  have V_b1_w7 : OwnA Z h7 b1 k1 (.object "com/example/modelwright/modelwright/statement/Cardinality") [(.ref c0), (.ref c1), (.ref c2), .null] := (V_b1_w5.set W7)
  refine own_by (S' := T7.setTop (mkF m 22 #[.val (.int p1), .unset, .unset, .unset, .unset] [(.ref b1)])) st7 ?_
  refine own_by (S' := T7.setTop (mkF m 23 #[.val (.int p1), .unset, .unset, .unset, .unset] [(.ref b1), (.ref b1)])) (fun tZ kZ => XS.dup X7.here hx rfl (hb hby at_22) rfl rfl kZ) ?_
  refine own_by (S' := T7.setTop (mkF m 24 #[.val (.int p1), .unset, .unset, .unset, .unset] [(.int (3 : Int32)), (.ref b1), (.ref b1)])) (fun tZ kZ => XS.iconst X7.here hx rfl (hb hby at_23) kZ) ?_
  have ExK7 := own_ext0 K7
  obtain ⟨T8, X8, e8, st8⟩ := getS2 X7 hx hZ0 hown0 (host := "") (Or.inl (hw _ (List.mem_of_getElem? (i := 10) rfl))) Via.refl e7 (S_c3.ext ExK7) (g := (mkF m 24 #[.val (.int p1), .unset, .unset, .unset, .unset] [(.int (3 : Int32)), (.ref b1), (.ref b1)])) rfl (hb hby at_24)
  refine own_by (S' := T8.setTop (mkF m 27 #[.val (.int p1), .unset, .unset, .unset, .unset] [(.ref c3), (.int (3 : Int32)), (.ref b1), (.ref b1)])) st8 ?_
  obtain ⟨cc9, Ar9, hc9, hl9⟩ := id V_b1_w7
  have hin9 := OwnA.inb (j := (3 : Int32)) hl9 (by decide) (Nat.le_of_ble_eq_true rfl)
  obtain ⟨T9, h9, X9, e9, W9, st9⟩ := stR X8 hx hZ0 e8 Ar9 (j := (3 : Int32)) hin9 rfl (Sto.of Ar9 (hc9 ▸ O1) (Ins.self (E_c3.ext ExK7))) (g := (mkF m 27 #[.val (.int p1), .unset, .unset, .unset, .unset] [(.ref c3), (.int (3 : Int32)), (.ref b1), (.ref b1)])) rfl rfl (hb hby at_27)
  have N9 := Fr.snoc X9 N7 g_b1
  have Zs9 : n0 ≤ h9.size := Nat.le_trans Zs7 (Keep.of_wr W9).1
  have hk9 := Nat.le_trans hk7 (Keep.of_wr W9).1
  have K9 := K7.wr W9 (Or.inr sz_b1)
  have V_b1_w9 : OwnA Z h9 b1 k1 (.object "com/example/modelwright/modelwright/statement/Cardinality") [(.ref c0), (.ref c1), (.ref c2), (.ref c3)] := (V_b1_w7.set W9)
  refine own_by (S' := T9.setTop (mkF m 28 #[.val (.int p1), .unset, .unset, .unset, .unset] [(.ref b1)])) st9 ?_
  refine own_by (S' := T9.setTop (mkF m 29 #[.val (.int p1), .val (.ref b1), .unset, .unset, .unset] [])) (fun tZ kZ => XS.astoreN X9.here hx rfl (hb hby at_28) rfl rfl (l' := #[.val (.int p1), .val (.ref b1), .unset, .unset, .unset]) rfl kZ) ?_
  refine own_by (S' := T9.setTop (mkF m 30 #[.val (.int p1), .val (.ref b1), .unset, .unset, .unset] [(.ref b1)])) (fun tZ kZ => XS.aloadN X9.here hx rfl (hb hby at_29) rfl rfl kZ) ?_
  refine own_by (S' := T9.setTop (mkF m 31 #[.val (.int p1), .val (.ref b1), .unset, .unset, .unset] [(.int p1), (.ref b1)])) (fun tZ kZ => XS.iloadN X9.here hx rfl (hb hby at_30) rfl kZ) ?_
  refine own_by (S' := T9.setTop (mkF m 32 #[.val (.int p1), .val (.ref b1), .unset, .unset, .unset] [(.int (3 : Int32)), (.int p1), (.ref b1)])) (fun tZ kZ => XS.iconst X9.here hx rfl (hb hby at_31) kZ) ?_
  refine own_by (S' := T9.setTop (mkF m 33 #[.val (.int p1), .val (.ref b1), .unset, .unset, .unset] [(.int (p1 &&& (3 : Int32))), (.ref b1)])) (fun tZ kZ => XS.iand X9.here hx rfl (hb hby at_32) rfl kZ) ?_
  rcases own_and3 p1 with hi | hi | hi | hi
  · rw [hi]
    obtain ⟨cc10, Ar10, hc10, hl10⟩ := id V_b1_w9
    refine own_by (S' := T9.setTop (mkF m 34 #[.val (.int p1), .val (.ref b1), .unset, .unset, .unset] [(.ref c0)])) (fun tZ kZ => X9.aaload hx (j := (0 : Int32)) (v := (.ref c0)) (by rw [e9]; exact Ar10.1) (State.isArrayOf_alike hZ0.alike Ar10.2.1) rfl Ar10.2.2 (OwnA.inb (j := (0 : Int32)) hl10 (by decide) (Nat.le_of_ble_eq_true rfl)) (OwnA.at (j := (0 : Int32)) hl10 rfl) (g := (mkF m 33 #[.val (.int p1), .val (.ref b1), .unset, .unset, .unset] [(.int (0 : Int32)), (.ref b1)])) rfl rfl (hb hby at_33) _ kZ) ?_
    refine own_by (S' := T9.setTop (mkF m 35 #[.val (.int p1), .val (.ref b1), .val (.ref c0), .unset, .unset] [])) (fun tZ kZ => XS.astoreN X9.here hx rfl (hb hby at_34) rfl rfl (l' := #[.val (.int p1), .val (.ref b1), .val (.ref c0), .unset, .unset]) rfl kZ) ?_
    refine own_by (S' := T9.setTop (mkF m 36 #[.val (.int p1), .val (.ref b1), .val (.ref c0), .unset, .unset] [(.ref c0)])) (fun tZ kZ => XS.aloadN X9.here hx rfl (hb hby at_35) rfl rfl kZ) ?_
    have ExK9 := own_ext0 K9
    obtain ⟨cq11, kq11, q11a, q11b, q11c⟩ := isOf hZ0 e9 (E_c0.ext ExK9)
    obtain ⟨_, _, ⟨T11, L11, k11, n11⟩, -, X11, ⟨Lc11, hQ11, l11, y11, z11⟩, st11⟩ := X9.virtualBack hx (y := (⟨"com/example/modelwright/modelwright/statement/Cardinality", "suffix", "()Ljava/lang/String;"⟩ : MethodName)) (z := (⟨"com/example/modelwright/modelwright/statement/Cardinality", "suffix", "()Ljava/lang/String;"⟩ : MethodName)) hown0 (mvT hZ0 (hw _ (List.mem_of_getElem? (i := 12) rfl))) (mvT hZ0 (hw _ (List.mem_of_getElem? (i := 13) rfl))) (notFace_of_selects (args := #[]) (mvT hZ0 (hw _ (List.mem_of_getElem? (i := 15) rfl)))) (mvT hZ0 (hw _ (List.mem_of_getElem? (i := 15) rfl))) (mvT hZ0 (hw _ (List.mem_of_getElem? (i := 14) rfl))) (by decide) (backOf (W := 0) (rmSuf l Z a0 hw [] c0 s0 h9 n0 Zs9 (F_c0.ext ExK9)) hZ0 (hw _ (List.mem_of_getElem? (i := 16) rfl)) (hw _ (List.mem_of_getElem? (i := 3) rfl)) (by decide) (by decide)) q11a q11c (g := (mkF m 36 #[.val (.int p1), .val (.ref b1), .val (.ref c0), .unset, .unset] [(.ref c0)])) rfl (by rw [hml]; rfl) (Steps.refl _) (argsL := []) (rest := []) (lenOf pd_1 rfl) rfl (by show 2 * 0 + _ ≤ _; exact Nat.le_of_eq rfl) (hb hby at_36) (fun _ _ => ⟨rfl, e9, (by decide : 1 + 0 ≤ _), (by decide : 4 + 0 ≤ _)⟩)
    dsimp only [Pt.U, Pt.locs, Pt.cells, Pt.slots] at X11 l11 y11 z11 st11 hQ11
    subst l11 y11 z11
    obtain ⟨rfl, N11q, heq11⟩ := hQ11
    have N11 := Fr.app N9 N11q
    refine own_by (S' := T11.setTop (mkF m 39 #[.val (.int p1), .val (.ref b1), .val (.ref c0), .unset, .unset] [(.ref s0)])) (fun tZ kZ => st11.trans kZ) ?_
    refine own_by (S' := T11.setTop (mkF m 40 #[.val (.int p1), .val (.ref b1), .val (.ref c0), .val (.ref s0), .unset] [])) (fun tZ kZ => XS.astoreN X11.here hx rfl (hb hby at_39) rfl rfl (l' := #[.val (.int p1), .val (.ref b1), .val (.ref c0), .val (.ref s0), .unset]) rfl kZ) ?_
    refine own_by (S' := T11.setTop (mkF m 41 #[.val (.int p1), .val (.ref b1), .val (.ref c0), .val (.ref s0), .unset] [(.ref s0)])) (fun tZ kZ => XS.aloadN X11.here hx rfl (hb hby at_40) rfl rfl kZ) ?_
    obtain ⟨cq12, kq12, q12a, q12b, q12c⟩ := isOf hZ0 heq11 (G_c0.ext ExK9)
    obtain ⟨_, _, ⟨T12, L12, k12, n12⟩, -, X12, ⟨Lc12, hQ12, l12, y12, z12⟩, st12⟩ := X11.virtualBack hx (y := (⟨"java/lang/String", "isEmpty", "()Z"⟩ : MethodName)) (z := (⟨"java/lang/String", "isEmpty", "()Z"⟩ : MethodName)) hown0 (mvT hZ0 (hw _ (List.mem_of_getElem? (i := 19) rfl))) (mvT hZ0 (hw _ (List.mem_of_getElem? (i := 20) rfl))) (notFace_of_selects (args := #[]) (mvT hZ0 (hw _ (List.mem_of_getElem? (i := 22) rfl)))) (mvT hZ0 (hw _ (List.mem_of_getElem? (i := 22) rfl))) (mvT hZ0 (hw _ (List.mem_of_getElem? (i := 21) rfl))) (by decide) (backOf (W := 0) (rmEmp l Z a0 hw [] s0 t0 (1 : Int32) u0 h9 n0 Zs9 (V_cc0.ext ExK9) (A_c0.ext ExK9) z_c0 (by decide)) hZ0 (hw _ (List.mem_of_getElem? (i := 24) rfl)) (hw _ (List.mem_of_getElem? (i := 23) rfl)) (by decide) (by decide)) q12a q12c (g := (mkF m 41 #[.val (.int p1), .val (.ref b1), .val (.ref c0), .val (.ref s0), .unset] [(.ref s0)])) rfl (by rw [hml]; rfl) (Steps.refl _) (argsL := []) (rest := []) (lenOf pd_2 rfl) rfl (by show 2 * 0 + _ ≤ _; exact Nat.le_of_eq rfl) (hb hby at_41) (fun _ _ => ⟨rfl, heq11, (by decide : 1 + 0 ≤ _), (by decide : 4 + 0 ≤ _)⟩)
    dsimp only [Pt.U, Pt.locs, Pt.cells, Pt.slots] at X12 l12 y12 z12 st12 hQ12
    subst l12 y12 z12
    obtain ⟨rfl, N12q, heq12⟩ := hQ12
    have N12 := Fr.app N11 N12q
    refine own_by (S' := T12.setTop (mkF m 44 #[.val (.int p1), .val (.ref b1), .val (.ref c0), .val (.ref s0), .unset] [(.int (if (1 : Int32) = 0 then (1 : Int32) else 0))])) (fun tZ kZ => st12.trans kZ) ?_
    rw [if_neg (by decide)]
    refine own_by (S' := T12.setTop (mkF m 47 #[.val (.int p1), .val (.ref b1), .val (.ref c0), .val (.ref s0), .unset] [])) (fun tZ kZ => XS.ifNo X12.here hx rfl (hb hby at_44) rfl ((if0 _ _).trans (teq rfl).2) kZ) ?_
    refine own_by (S' := T12.setTop (mkF m 48 #[.val (.int p1), .val (.ref b1), .val (.ref c0), .val (.ref s0), .unset] [(.ref s0)])) (fun tZ kZ => XS.aloadN X12.here hx rfl (hb hby at_47) rfl rfl kZ) ?_
    have hfr13 := N12
    rw [hn0, ← hU] at hfr13
    obtain ⟨sp, T13, h13, k13, tp, kp, X13, e13, E13, hS13, hk13, hZ13, hown13, Gp, Cp, Vp, Ap, -, -, -, st13⟩ := ldcSV X12 hx hZ0 hown0 (hw _ (List.mem_of_getElem? (i := 27) rfl)) (own_str hw) heq12 hS0 hk9 hfr13 (by rw [hU]; exact fun _ _ q => q) (show IB Z s.vm [] from by rw [hU]; exact IB.start) (by simp) hh1 hcw (vs := [.int 43]) (z := 1) ⟨by decide, by decide⟩ (by decide) (by decide) (g := (mkF m 48 #[.val (.int p1), .val (.ref b1), .val (.ref c0), .val (.ref s0), .unset] [(.ref s0)])) rfl (hb hby at_48) (n := 4) (by decide) (by decide) (by decide) (by decide)
    have Zs13 : n0 ≤ h13.size := Nat.le_trans Zs9 E13.1
    have K13 := K9.ext E13
    refine own_by (S' := T13.setTop (mkF m 50 #[.val (.int p1), .val (.ref b1), .val (.ref c0), .val (.ref s0), .unset] [(.ref sp), (.ref s0)])) st13 ?_
    have ExK13 := own_ext0 K13
    obtain ⟨cq14, kq14, q14a, q14b, q14c⟩ := isOf hZ13 e13 (G_c0.ext ExK13)
    obtain ⟨_, _, ⟨T14, L14, k14, n14⟩, -, X14, ⟨Lc14, hQ14, l14, y14, z14⟩, st14⟩ := X13.virtualBack hx (y := (⟨"java/lang/String", "equals", "(Ljava/lang/Object;)Z"⟩ : MethodName)) (z := (⟨"java/lang/String", "equals", "(Ljava/lang/Object;)Z"⟩ : MethodName)) hown13 (mvT hZ13 (hw _ (List.mem_of_getElem? (i := 33) rfl))) (mvT hZ13 (hw _ (List.mem_of_getElem? (i := 34) rfl))) (notFace_of_selects (args := #[]) (mvT hZ13 (hw _ (List.mem_of_getElem? (i := 36) rfl)))) (mvT hZ13 (hw _ (List.mem_of_getElem? (i := 36) rfl))) (mvT hZ13 (hw _ (List.mem_of_getElem? (i := 35) rfl))) (by decide) (backOf (W := 0) (rmEq l Z a0 hw [] s0 sp t0 tp u0.cls kp (63 : Int32) (43 : Int32) cz h13 n0 Zs13 ⟨_, (A_c0.ext ExK13), rfl, own_list1 z_c0 b_c0⟩ (OwnA.ofArv Ap rfl) (G_c0.ext ExK13) Gp (V_cc0.ext ExK13) Vp (C_c0.ext ExK13) Cp (Sc.ext ExK13) hcz) hZ13 (hw _ (List.mem_of_getElem? (i := 37) rfl)) (hw _ (List.mem_of_getElem? (i := 23) rfl)) (by decide) (by decide)) q14a q14c (g := (mkF m 50 #[.val (.int p1), .val (.ref b1), .val (.ref c0), .val (.ref s0), .unset] [(.ref sp), (.ref s0)])) rfl (by rw [hml]; rfl) (Steps.refl _) (argsL := [(.ref sp)]) (rest := []) (lenOf pd_3 rfl) rfl (by show 2 * 0 + _ ≤ _; exact Nat.le_of_eq rfl) (hb hby at_50) (fun _ _ => ⟨rfl, e13, (by decide : 3 + 0 ≤ _), (by decide : 12 + 0 ≤ _)⟩)
    dsimp only [Pt.U, Pt.locs, Pt.cells, Pt.slots] at X14 l14 y14 z14 st14 hQ14
    subst l14 y14 z14
    obtain ⟨rfl, N14q, heq14⟩ := hQ14
    have N14 := Fr.app N12 N14q
    refine own_by (S' := T14.setTop (mkF m 53 #[.val (.int p1), .val (.ref b1), .val (.ref c0), .val (.ref s0), .unset] [(.int (if (63 : Int32) = 43 then (1 : Int32) else 0))])) (fun tZ kZ => st14.trans kZ) ?_
    rw [if_neg (by decide)]
    refine own_by (S' := T14.setTop (mkF m 60 #[.val (.int p1), .val (.ref b1), .val (.ref c0), .val (.ref s0), .unset] [])) (fun tZ kZ => XS.ifYes X14.here hx rfl (pc0 := 53) (pc' := 60) rfl (hb hby at_53) rfl ((if0 _ _).trans (teq rfl).1) (by decide) (by decide) kZ) ?_
    refine own_by (S' := T14.setTop (mkF m 61 #[.val (.int p1), .val (.ref b1), .val (.ref c0), .val (.ref s0), .unset] [(.int (0 : Int32))])) (fun tZ kZ => XS.iconst X14.here hx rfl (hb hby at_60) kZ) ?_
    refine own_by (S' := T14.setTop (mkF m 63 #[.val (.int p1), .val (.ref b1), .val (.ref c0), .val (.ref s0), .val (.int (0 : Int32))] [])) (fun tZ kZ => XS.istore X14.here hx rfl (hb hby at_61) rfl (l' := #[.val (.int p1), .val (.ref b1), .val (.ref c0), .val (.ref s0), .val (.int (0 : Int32))]) rfl kZ) ?_
    refine own_by (S' := T14.setTop (mkF m 64 #[.val (.int p1), .val (.ref b1), .val (.ref c0), .val (.ref s0), .val (.int (0 : Int32))] [(.ref c0)])) (fun tZ kZ => XS.aloadN X14.here hx rfl (hb hby at_63) rfl rfl kZ) ?_
    obtain ⟨cq15, kq15, q15a, q15b, q15c⟩ := isOf hZ13 heq14 (E_c0.ext ExK13)
    obtain ⟨_, _, ⟨T15, L15, k15, n15⟩, -, X15, ⟨Lc15, hQ15, l15, y15, z15⟩, st15⟩ := X14.virtualBack hx (y := (⟨"com/example/modelwright/modelwright/statement/Cardinality", "required", "()Z"⟩ : MethodName)) (z := (⟨"com/example/modelwright/modelwright/statement/Cardinality", "required", "()Z"⟩ : MethodName)) hown13 (mvT hZ13 (hw _ (List.mem_of_getElem? (i := 46) rfl))) (mvT hZ13 (hw _ (List.mem_of_getElem? (i := 47) rfl))) (notFace_of_selects (args := #[]) (mvT hZ13 (hw _ (List.mem_of_getElem? (i := 49) rfl)))) (mvT hZ13 (hw _ (List.mem_of_getElem? (i := 49) rfl))) (mvT hZ13 (hw _ (List.mem_of_getElem? (i := 48) rfl))) (by decide) (backOf (W := 0) (rmReq l Z a0 hw [] c0 c1 c3 h13 n0 Zs13 (S_c1.ext ExK13) (S_c3.ext ExK13)) hZ13 (hw _ (List.mem_of_getElem? (i := 50) rfl)) (hw _ (List.mem_of_getElem? (i := 3) rfl)) (by decide) (by decide)) q15a q15c (g := (mkF m 64 #[.val (.int p1), .val (.ref b1), .val (.ref c0), .val (.ref s0), .val (.int (0 : Int32))] [(.ref c0)])) rfl (by rw [hml]; rfl) (Steps.refl _) (argsL := []) (rest := []) (lenOf pd_2 rfl) rfl (by show 2 * 0 + _ ≤ _; exact Nat.le_of_eq rfl) (hb hby at_64) (fun _ _ => ⟨rfl, heq14, (by decide : 3 + 0 ≤ _), (by decide : 12 + 0 ≤ _)⟩)
    dsimp only [Pt.U, Pt.locs, Pt.cells, Pt.slots] at X15 l15 y15 z15 st15 hQ15
    subst l15 y15 z15
    obtain ⟨rfl, N15q, heq15⟩ := hQ15
    have N15 := Fr.app N14 N15q
    refine own_by (S' := T15.setTop (mkF m 67 #[.val (.int p1), .val (.ref b1), .val (.ref c0), .val (.ref s0), .val (.int (0 : Int32))] [(.int (if c0 = c1 ∨ c0 = c3 then (1 : Int32) else 0))])) (fun tZ kZ => st15.trans kZ) ?_
    rw [if_neg (fun q => q.elim n01 n03)]
    refine own_by (S' := T15.setTop (mkF m 69 #[.val (.int p1), .val (.ref b1), .val (.ref c0), .val (.ref s0), .val (.int (0 : Int32))] [(.int (0 : Int32)), (.int (0 : Int32))])) (fun tZ kZ => XS.iload X15.here hx rfl (hb hby at_67) rfl kZ) ?_
    refine own_by (S' := T15.setTop (mkF m 72 #[.val (.int p1), .val (.ref b1), .val (.ref c0), .val (.ref s0), .val (.int (0 : Int32))] [])) (fun tZ kZ => XS.icmpNo X15.here hx rfl (hb hby at_69) rfl (teq rfl).2 kZ) ?_
    refine own_by (S' := T15.setTop (mkF m 73 #[.val (.int p1), .val (.ref b1), .val (.ref c0), .val (.ref s0), .val (.int (0 : Int32))] [(.int (1 : Int32))])) (fun tZ kZ => XS.iconst X15.here hx rfl (hb hby at_72) kZ) ?_
    refine own_by (S' := T15.setTop (mkF m 77 #[.val (.int p1), .val (.ref b1), .val (.ref c0), .val (.ref s0), .val (.int (0 : Int32))] [(.int (1 : Int32))])) (fun tZ kZ => XS.goto X15.here hx rfl (pc0 := 73) (pc' := 77) rfl (hb hby at_73) (by decide) (by decide) kZ) ?_
    exact own_retWI X15 hS13 (by rw [heq15]; exact hk13) hx (t := .boolean) Bd.returns (by simp) rfl (hb hby at_77) Bd.notSynchronized (by decide) (by decide) ⟨rfl, N15⟩
  · rw [hi]
    obtain ⟨cc16, Ar16, hc16, hl16⟩ := id V_b1_w9
    refine own_by (S' := T9.setTop (mkF m 34 #[.val (.int p1), .val (.ref b1), .unset, .unset, .unset] [(.ref c1)])) (fun tZ kZ => X9.aaload hx (j := (1 : Int32)) (v := (.ref c1)) (by rw [e9]; exact Ar16.1) (State.isArrayOf_alike hZ0.alike Ar16.2.1) rfl Ar16.2.2 (OwnA.inb (j := (1 : Int32)) hl16 (by decide) (Nat.le_of_ble_eq_true rfl)) (OwnA.at (j := (1 : Int32)) hl16 rfl) (g := (mkF m 33 #[.val (.int p1), .val (.ref b1), .unset, .unset, .unset] [(.int (1 : Int32)), (.ref b1)])) rfl rfl (hb hby at_33) _ kZ) ?_
    refine own_by (S' := T9.setTop (mkF m 35 #[.val (.int p1), .val (.ref b1), .val (.ref c1), .unset, .unset] [])) (fun tZ kZ => XS.astoreN X9.here hx rfl (hb hby at_34) rfl rfl (l' := #[.val (.int p1), .val (.ref b1), .val (.ref c1), .unset, .unset]) rfl kZ) ?_
    refine own_by (S' := T9.setTop (mkF m 36 #[.val (.int p1), .val (.ref b1), .val (.ref c1), .unset, .unset] [(.ref c1)])) (fun tZ kZ => XS.aloadN X9.here hx rfl (hb hby at_35) rfl rfl kZ) ?_
    have ExK9 := own_ext0 K9
    obtain ⟨cq17, kq17, q17a, q17b, q17c⟩ := isOf hZ0 e9 (E_c1.ext ExK9)
    obtain ⟨_, _, ⟨T17, L17, k17, n17⟩, -, X17, ⟨Lc17, hQ17, l17, y17, z17⟩, st17⟩ := X9.virtualBack hx (y := (⟨"com/example/modelwright/modelwright/statement/Cardinality", "suffix", "()Ljava/lang/String;"⟩ : MethodName)) (z := (⟨"com/example/modelwright/modelwright/statement/Cardinality", "suffix", "()Ljava/lang/String;"⟩ : MethodName)) hown0 (mvT hZ0 (hw _ (List.mem_of_getElem? (i := 12) rfl))) (mvT hZ0 (hw _ (List.mem_of_getElem? (i := 13) rfl))) (notFace_of_selects (args := #[]) (mvT hZ0 (hw _ (List.mem_of_getElem? (i := 15) rfl)))) (mvT hZ0 (hw _ (List.mem_of_getElem? (i := 15) rfl))) (mvT hZ0 (hw _ (List.mem_of_getElem? (i := 14) rfl))) (by decide) (backOf (W := 0) (rmSuf l Z a0 hw [] c1 s1 h9 n0 Zs9 (F_c1.ext ExK9)) hZ0 (hw _ (List.mem_of_getElem? (i := 16) rfl)) (hw _ (List.mem_of_getElem? (i := 3) rfl)) (by decide) (by decide)) q17a q17c (g := (mkF m 36 #[.val (.int p1), .val (.ref b1), .val (.ref c1), .unset, .unset] [(.ref c1)])) rfl (by rw [hml]; rfl) (Steps.refl _) (argsL := []) (rest := []) (lenOf pd_1 rfl) rfl (by show 2 * 0 + _ ≤ _; exact Nat.le_of_eq rfl) (hb hby at_36) (fun _ _ => ⟨rfl, e9, (by decide : 1 + 0 ≤ _), (by decide : 4 + 0 ≤ _)⟩)
    dsimp only [Pt.U, Pt.locs, Pt.cells, Pt.slots] at X17 l17 y17 z17 st17 hQ17
    subst l17 y17 z17
    obtain ⟨rfl, N17q, heq17⟩ := hQ17
    have N17 := Fr.app N9 N17q
    refine own_by (S' := T17.setTop (mkF m 39 #[.val (.int p1), .val (.ref b1), .val (.ref c1), .unset, .unset] [(.ref s1)])) (fun tZ kZ => st17.trans kZ) ?_
    refine own_by (S' := T17.setTop (mkF m 40 #[.val (.int p1), .val (.ref b1), .val (.ref c1), .val (.ref s1), .unset] [])) (fun tZ kZ => XS.astoreN X17.here hx rfl (hb hby at_39) rfl rfl (l' := #[.val (.int p1), .val (.ref b1), .val (.ref c1), .val (.ref s1), .unset]) rfl kZ) ?_
    refine own_by (S' := T17.setTop (mkF m 41 #[.val (.int p1), .val (.ref b1), .val (.ref c1), .val (.ref s1), .unset] [(.ref s1)])) (fun tZ kZ => XS.aloadN X17.here hx rfl (hb hby at_40) rfl rfl kZ) ?_
    obtain ⟨cq18, kq18, q18a, q18b, q18c⟩ := isOf hZ0 heq17 (G_c1.ext ExK9)
    obtain ⟨_, _, ⟨T18, L18, k18, n18⟩, -, X18, ⟨Lc18, hQ18, l18, y18, z18⟩, st18⟩ := X17.virtualBack hx (y := (⟨"java/lang/String", "isEmpty", "()Z"⟩ : MethodName)) (z := (⟨"java/lang/String", "isEmpty", "()Z"⟩ : MethodName)) hown0 (mvT hZ0 (hw _ (List.mem_of_getElem? (i := 19) rfl))) (mvT hZ0 (hw _ (List.mem_of_getElem? (i := 20) rfl))) (notFace_of_selects (args := #[]) (mvT hZ0 (hw _ (List.mem_of_getElem? (i := 22) rfl)))) (mvT hZ0 (hw _ (List.mem_of_getElem? (i := 22) rfl))) (mvT hZ0 (hw _ (List.mem_of_getElem? (i := 21) rfl))) (by decide) (backOf (W := 0) (rmEmp l Z a0 hw [] s1 t1 (0 : Int32) u1 h9 n0 Zs9 (V_cc1.ext ExK9) (A_c1.ext ExK9) z_c1 (by decide)) hZ0 (hw _ (List.mem_of_getElem? (i := 24) rfl)) (hw _ (List.mem_of_getElem? (i := 23) rfl)) (by decide) (by decide)) q18a q18c (g := (mkF m 41 #[.val (.int p1), .val (.ref b1), .val (.ref c1), .val (.ref s1), .unset] [(.ref s1)])) rfl (by rw [hml]; rfl) (Steps.refl _) (argsL := []) (rest := []) (lenOf pd_2 rfl) rfl (by show 2 * 0 + _ ≤ _; exact Nat.le_of_eq rfl) (hb hby at_41) (fun _ _ => ⟨rfl, heq17, (by decide : 1 + 0 ≤ _), (by decide : 4 + 0 ≤ _)⟩)
    dsimp only [Pt.U, Pt.locs, Pt.cells, Pt.slots] at X18 l18 y18 z18 st18 hQ18
    subst l18 y18 z18
    obtain ⟨rfl, N18q, heq18⟩ := hQ18
    have N18 := Fr.app N17 N18q
    refine own_by (S' := T18.setTop (mkF m 44 #[.val (.int p1), .val (.ref b1), .val (.ref c1), .val (.ref s1), .unset] [(.int (if (0 : Int32) = 0 then (1 : Int32) else 0))])) (fun tZ kZ => st18.trans kZ) ?_
    rw [if_pos rfl]
    refine own_by (S' := T18.setTop (mkF m 56 #[.val (.int p1), .val (.ref b1), .val (.ref c1), .val (.ref s1), .unset] [])) (fun tZ kZ => XS.ifYes X18.here hx rfl (pc0 := 44) (pc' := 56) rfl (hb hby at_44) rfl ((if0 _ _).trans (feq (by decide)).2) (by decide) (by decide) kZ) ?_
    refine own_by (S' := T18.setTop (mkF m 57 #[.val (.int p1), .val (.ref b1), .val (.ref c1), .val (.ref s1), .unset] [(.int (1 : Int32))])) (fun tZ kZ => XS.iconst X18.here hx rfl (hb hby at_56) kZ) ?_
    refine own_by (S' := T18.setTop (mkF m 61 #[.val (.int p1), .val (.ref b1), .val (.ref c1), .val (.ref s1), .unset] [(.int (1 : Int32))])) (fun tZ kZ => XS.goto X18.here hx rfl (pc0 := 57) (pc' := 61) rfl (hb hby at_57) (by decide) (by decide) kZ) ?_
    refine own_by (S' := T18.setTop (mkF m 63 #[.val (.int p1), .val (.ref b1), .val (.ref c1), .val (.ref s1), .val (.int (1 : Int32))] [])) (fun tZ kZ => XS.istore X18.here hx rfl (hb hby at_61) rfl (l' := #[.val (.int p1), .val (.ref b1), .val (.ref c1), .val (.ref s1), .val (.int (1 : Int32))]) rfl kZ) ?_
    refine own_by (S' := T18.setTop (mkF m 64 #[.val (.int p1), .val (.ref b1), .val (.ref c1), .val (.ref s1), .val (.int (1 : Int32))] [(.ref c1)])) (fun tZ kZ => XS.aloadN X18.here hx rfl (hb hby at_63) rfl rfl kZ) ?_
    obtain ⟨cq19, kq19, q19a, q19b, q19c⟩ := isOf hZ0 heq18 (E_c1.ext ExK9)
    obtain ⟨_, _, ⟨T19, L19, k19, n19⟩, -, X19, ⟨Lc19, hQ19, l19, y19, z19⟩, st19⟩ := X18.virtualBack hx (y := (⟨"com/example/modelwright/modelwright/statement/Cardinality", "required", "()Z"⟩ : MethodName)) (z := (⟨"com/example/modelwright/modelwright/statement/Cardinality", "required", "()Z"⟩ : MethodName)) hown0 (mvT hZ0 (hw _ (List.mem_of_getElem? (i := 46) rfl))) (mvT hZ0 (hw _ (List.mem_of_getElem? (i := 47) rfl))) (notFace_of_selects (args := #[]) (mvT hZ0 (hw _ (List.mem_of_getElem? (i := 49) rfl)))) (mvT hZ0 (hw _ (List.mem_of_getElem? (i := 49) rfl))) (mvT hZ0 (hw _ (List.mem_of_getElem? (i := 48) rfl))) (by decide) (backOf (W := 0) (rmReq l Z a0 hw [] c1 c1 c3 h9 n0 Zs9 (S_c1.ext ExK9) (S_c3.ext ExK9)) hZ0 (hw _ (List.mem_of_getElem? (i := 50) rfl)) (hw _ (List.mem_of_getElem? (i := 3) rfl)) (by decide) (by decide)) q19a q19c (g := (mkF m 64 #[.val (.int p1), .val (.ref b1), .val (.ref c1), .val (.ref s1), .val (.int (1 : Int32))] [(.ref c1)])) rfl (by rw [hml]; rfl) (Steps.refl _) (argsL := []) (rest := []) (lenOf pd_2 rfl) rfl (by show 2 * 0 + _ ≤ _; exact Nat.le_of_eq rfl) (hb hby at_64) (fun _ _ => ⟨rfl, heq18, (by decide : 1 + 0 ≤ _), (by decide : 4 + 0 ≤ _)⟩)
    dsimp only [Pt.U, Pt.locs, Pt.cells, Pt.slots] at X19 l19 y19 z19 st19 hQ19
    subst l19 y19 z19
    obtain ⟨rfl, N19q, heq19⟩ := hQ19
    have N19 := Fr.app N18 N19q
    refine own_by (S' := T19.setTop (mkF m 67 #[.val (.int p1), .val (.ref b1), .val (.ref c1), .val (.ref s1), .val (.int (1 : Int32))] [(.int (if c1 = c1 ∨ c1 = c3 then (1 : Int32) else 0))])) (fun tZ kZ => st19.trans kZ) ?_
    rw [if_pos (Or.inl rfl)]
    refine own_by (S' := T19.setTop (mkF m 69 #[.val (.int p1), .val (.ref b1), .val (.ref c1), .val (.ref s1), .val (.int (1 : Int32))] [(.int (1 : Int32)), (.int (1 : Int32))])) (fun tZ kZ => XS.iload X19.here hx rfl (hb hby at_67) rfl kZ) ?_
    refine own_by (S' := T19.setTop (mkF m 72 #[.val (.int p1), .val (.ref b1), .val (.ref c1), .val (.ref s1), .val (.int (1 : Int32))] [])) (fun tZ kZ => XS.icmpNo X19.here hx rfl (hb hby at_69) rfl (teq rfl).2 kZ) ?_
    refine own_by (S' := T19.setTop (mkF m 73 #[.val (.int p1), .val (.ref b1), .val (.ref c1), .val (.ref s1), .val (.int (1 : Int32))] [(.int (1 : Int32))])) (fun tZ kZ => XS.iconst X19.here hx rfl (hb hby at_72) kZ) ?_
    refine own_by (S' := T19.setTop (mkF m 77 #[.val (.int p1), .val (.ref b1), .val (.ref c1), .val (.ref s1), .val (.int (1 : Int32))] [(.int (1 : Int32))])) (fun tZ kZ => XS.goto X19.here hx rfl (pc0 := 73) (pc' := 77) rfl (hb hby at_73) (by decide) (by decide) kZ) ?_
    exact own_retWI X19 hS0 (by rw [heq19]; exact hk9) hx (t := .boolean) Bd.returns (by simp) rfl (hb hby at_77) Bd.notSynchronized (by decide) (by decide) ⟨rfl, N19⟩
  · rw [hi]
    obtain ⟨cc20, Ar20, hc20, hl20⟩ := id V_b1_w9
    refine own_by (S' := T9.setTop (mkF m 34 #[.val (.int p1), .val (.ref b1), .unset, .unset, .unset] [(.ref c2)])) (fun tZ kZ => X9.aaload hx (j := (2 : Int32)) (v := (.ref c2)) (by rw [e9]; exact Ar20.1) (State.isArrayOf_alike hZ0.alike Ar20.2.1) rfl Ar20.2.2 (OwnA.inb (j := (2 : Int32)) hl20 (by decide) (Nat.le_of_ble_eq_true rfl)) (OwnA.at (j := (2 : Int32)) hl20 rfl) (g := (mkF m 33 #[.val (.int p1), .val (.ref b1), .unset, .unset, .unset] [(.int (2 : Int32)), (.ref b1)])) rfl rfl (hb hby at_33) _ kZ) ?_
    refine own_by (S' := T9.setTop (mkF m 35 #[.val (.int p1), .val (.ref b1), .val (.ref c2), .unset, .unset] [])) (fun tZ kZ => XS.astoreN X9.here hx rfl (hb hby at_34) rfl rfl (l' := #[.val (.int p1), .val (.ref b1), .val (.ref c2), .unset, .unset]) rfl kZ) ?_
    refine own_by (S' := T9.setTop (mkF m 36 #[.val (.int p1), .val (.ref b1), .val (.ref c2), .unset, .unset] [(.ref c2)])) (fun tZ kZ => XS.aloadN X9.here hx rfl (hb hby at_35) rfl rfl kZ) ?_
    have ExK9 := own_ext0 K9
    obtain ⟨cq21, kq21, q21a, q21b, q21c⟩ := isOf hZ0 e9 (E_c2.ext ExK9)
    obtain ⟨_, _, ⟨T21, L21, k21, n21⟩, -, X21, ⟨Lc21, hQ21, l21, y21, z21⟩, st21⟩ := X9.virtualBack hx (y := (⟨"com/example/modelwright/modelwright/statement/Cardinality", "suffix", "()Ljava/lang/String;"⟩ : MethodName)) (z := (⟨"com/example/modelwright/modelwright/statement/Cardinality", "suffix", "()Ljava/lang/String;"⟩ : MethodName)) hown0 (mvT hZ0 (hw _ (List.mem_of_getElem? (i := 12) rfl))) (mvT hZ0 (hw _ (List.mem_of_getElem? (i := 13) rfl))) (notFace_of_selects (args := #[]) (mvT hZ0 (hw _ (List.mem_of_getElem? (i := 15) rfl)))) (mvT hZ0 (hw _ (List.mem_of_getElem? (i := 15) rfl))) (mvT hZ0 (hw _ (List.mem_of_getElem? (i := 14) rfl))) (by decide) (backOf (W := 0) (rmSuf l Z a0 hw [] c2 s2 h9 n0 Zs9 (F_c2.ext ExK9)) hZ0 (hw _ (List.mem_of_getElem? (i := 16) rfl)) (hw _ (List.mem_of_getElem? (i := 3) rfl)) (by decide) (by decide)) q21a q21c (g := (mkF m 36 #[.val (.int p1), .val (.ref b1), .val (.ref c2), .unset, .unset] [(.ref c2)])) rfl (by rw [hml]; rfl) (Steps.refl _) (argsL := []) (rest := []) (lenOf pd_1 rfl) rfl (by show 2 * 0 + _ ≤ _; exact Nat.le_of_eq rfl) (hb hby at_36) (fun _ _ => ⟨rfl, e9, (by decide : 1 + 0 ≤ _), (by decide : 4 + 0 ≤ _)⟩)
    dsimp only [Pt.U, Pt.locs, Pt.cells, Pt.slots] at X21 l21 y21 z21 st21 hQ21
    subst l21 y21 z21
    obtain ⟨rfl, N21q, heq21⟩ := hQ21
    have N21 := Fr.app N9 N21q
    refine own_by (S' := T21.setTop (mkF m 39 #[.val (.int p1), .val (.ref b1), .val (.ref c2), .unset, .unset] [(.ref s2)])) (fun tZ kZ => st21.trans kZ) ?_
    refine own_by (S' := T21.setTop (mkF m 40 #[.val (.int p1), .val (.ref b1), .val (.ref c2), .val (.ref s2), .unset] [])) (fun tZ kZ => XS.astoreN X21.here hx rfl (hb hby at_39) rfl rfl (l' := #[.val (.int p1), .val (.ref b1), .val (.ref c2), .val (.ref s2), .unset]) rfl kZ) ?_
    refine own_by (S' := T21.setTop (mkF m 41 #[.val (.int p1), .val (.ref b1), .val (.ref c2), .val (.ref s2), .unset] [(.ref s2)])) (fun tZ kZ => XS.aloadN X21.here hx rfl (hb hby at_40) rfl rfl kZ) ?_
    obtain ⟨cq22, kq22, q22a, q22b, q22c⟩ := isOf hZ0 heq21 (G_c2.ext ExK9)
    obtain ⟨_, _, ⟨T22, L22, k22, n22⟩, -, X22, ⟨Lc22, hQ22, l22, y22, z22⟩, st22⟩ := X21.virtualBack hx (y := (⟨"java/lang/String", "isEmpty", "()Z"⟩ : MethodName)) (z := (⟨"java/lang/String", "isEmpty", "()Z"⟩ : MethodName)) hown0 (mvT hZ0 (hw _ (List.mem_of_getElem? (i := 19) rfl))) (mvT hZ0 (hw _ (List.mem_of_getElem? (i := 20) rfl))) (notFace_of_selects (args := #[]) (mvT hZ0 (hw _ (List.mem_of_getElem? (i := 22) rfl)))) (mvT hZ0 (hw _ (List.mem_of_getElem? (i := 22) rfl))) (mvT hZ0 (hw _ (List.mem_of_getElem? (i := 21) rfl))) (by decide) (backOf (W := 0) (rmEmp l Z a0 hw [] s2 t2 (1 : Int32) u2 h9 n0 Zs9 (V_cc2.ext ExK9) (A_c2.ext ExK9) z_c2 (by decide)) hZ0 (hw _ (List.mem_of_getElem? (i := 24) rfl)) (hw _ (List.mem_of_getElem? (i := 23) rfl)) (by decide) (by decide)) q22a q22c (g := (mkF m 41 #[.val (.int p1), .val (.ref b1), .val (.ref c2), .val (.ref s2), .unset] [(.ref s2)])) rfl (by rw [hml]; rfl) (Steps.refl _) (argsL := []) (rest := []) (lenOf pd_2 rfl) rfl (by show 2 * 0 + _ ≤ _; exact Nat.le_of_eq rfl) (hb hby at_41) (fun _ _ => ⟨rfl, heq21, (by decide : 1 + 0 ≤ _), (by decide : 4 + 0 ≤ _)⟩)
    dsimp only [Pt.U, Pt.locs, Pt.cells, Pt.slots] at X22 l22 y22 z22 st22 hQ22
    subst l22 y22 z22
    obtain ⟨rfl, N22q, heq22⟩ := hQ22
    have N22 := Fr.app N21 N22q
    refine own_by (S' := T22.setTop (mkF m 44 #[.val (.int p1), .val (.ref b1), .val (.ref c2), .val (.ref s2), .unset] [(.int (if (1 : Int32) = 0 then (1 : Int32) else 0))])) (fun tZ kZ => st22.trans kZ) ?_
    rw [if_neg (by decide)]
    refine own_by (S' := T22.setTop (mkF m 47 #[.val (.int p1), .val (.ref b1), .val (.ref c2), .val (.ref s2), .unset] [])) (fun tZ kZ => XS.ifNo X22.here hx rfl (hb hby at_44) rfl ((if0 _ _).trans (teq rfl).2) kZ) ?_
    refine own_by (S' := T22.setTop (mkF m 48 #[.val (.int p1), .val (.ref b1), .val (.ref c2), .val (.ref s2), .unset] [(.ref s2)])) (fun tZ kZ => XS.aloadN X22.here hx rfl (hb hby at_47) rfl rfl kZ) ?_
    have hfr23 := N22
    rw [hn0, ← hU] at hfr23
    obtain ⟨sp, T23, h23, k23, tp, kp, X23, e23, E23, hS23, hk23, hZ23, hown23, Gp, Cp, Vp, Ap, -, -, -, st23⟩ := ldcSV X22 hx hZ0 hown0 (hw _ (List.mem_of_getElem? (i := 27) rfl)) (own_str hw) heq22 hS0 hk9 hfr23 (by rw [hU]; exact fun _ _ q => q) (show IB Z s.vm [] from by rw [hU]; exact IB.start) (by simp) hh1 hcw (vs := [.int 43]) (z := 1) ⟨by decide, by decide⟩ (by decide) (by decide) (g := (mkF m 48 #[.val (.int p1), .val (.ref b1), .val (.ref c2), .val (.ref s2), .unset] [(.ref s2)])) rfl (hb hby at_48) (n := 4) (by decide) (by decide) (by decide) (by decide)
    have Zs23 : n0 ≤ h23.size := Nat.le_trans Zs9 E23.1
    have K23 := K9.ext E23
    refine own_by (S' := T23.setTop (mkF m 50 #[.val (.int p1), .val (.ref b1), .val (.ref c2), .val (.ref s2), .unset] [(.ref sp), (.ref s2)])) st23 ?_
    have ExK23 := own_ext0 K23
    obtain ⟨cq24, kq24, q24a, q24b, q24c⟩ := isOf hZ23 e23 (G_c2.ext ExK23)
    obtain ⟨_, _, ⟨T24, L24, k24, n24⟩, -, X24, ⟨Lc24, hQ24, l24, y24, z24⟩, st24⟩ := X23.virtualBack hx (y := (⟨"java/lang/String", "equals", "(Ljava/lang/Object;)Z"⟩ : MethodName)) (z := (⟨"java/lang/String", "equals", "(Ljava/lang/Object;)Z"⟩ : MethodName)) hown23 (mvT hZ23 (hw _ (List.mem_of_getElem? (i := 33) rfl))) (mvT hZ23 (hw _ (List.mem_of_getElem? (i := 34) rfl))) (notFace_of_selects (args := #[]) (mvT hZ23 (hw _ (List.mem_of_getElem? (i := 36) rfl)))) (mvT hZ23 (hw _ (List.mem_of_getElem? (i := 36) rfl))) (mvT hZ23 (hw _ (List.mem_of_getElem? (i := 35) rfl))) (by decide) (backOf (W := 0) (rmEq l Z a0 hw [] s2 sp t2 tp u2.cls kp (42 : Int32) (43 : Int32) cz h23 n0 Zs23 ⟨_, (A_c2.ext ExK23), rfl, own_list1 z_c2 b_c2⟩ (OwnA.ofArv Ap rfl) (G_c2.ext ExK23) Gp (V_cc2.ext ExK23) Vp (C_c2.ext ExK23) Cp (Sc.ext ExK23) hcz) hZ23 (hw _ (List.mem_of_getElem? (i := 37) rfl)) (hw _ (List.mem_of_getElem? (i := 23) rfl)) (by decide) (by decide)) q24a q24c (g := (mkF m 50 #[.val (.int p1), .val (.ref b1), .val (.ref c2), .val (.ref s2), .unset] [(.ref sp), (.ref s2)])) rfl (by rw [hml]; rfl) (Steps.refl _) (argsL := [(.ref sp)]) (rest := []) (lenOf pd_3 rfl) rfl (by show 2 * 0 + _ ≤ _; exact Nat.le_of_eq rfl) (hb hby at_50) (fun _ _ => ⟨rfl, e23, (by decide : 3 + 0 ≤ _), (by decide : 12 + 0 ≤ _)⟩)
    dsimp only [Pt.U, Pt.locs, Pt.cells, Pt.slots] at X24 l24 y24 z24 st24 hQ24
    subst l24 y24 z24
    obtain ⟨rfl, N24q, heq24⟩ := hQ24
    have N24 := Fr.app N22 N24q
    refine own_by (S' := T24.setTop (mkF m 53 #[.val (.int p1), .val (.ref b1), .val (.ref c2), .val (.ref s2), .unset] [(.int (if (42 : Int32) = 43 then (1 : Int32) else 0))])) (fun tZ kZ => st24.trans kZ) ?_
    rw [if_neg (by decide)]
    refine own_by (S' := T24.setTop (mkF m 60 #[.val (.int p1), .val (.ref b1), .val (.ref c2), .val (.ref s2), .unset] [])) (fun tZ kZ => XS.ifYes X24.here hx rfl (pc0 := 53) (pc' := 60) rfl (hb hby at_53) rfl ((if0 _ _).trans (teq rfl).1) (by decide) (by decide) kZ) ?_
    refine own_by (S' := T24.setTop (mkF m 61 #[.val (.int p1), .val (.ref b1), .val (.ref c2), .val (.ref s2), .unset] [(.int (0 : Int32))])) (fun tZ kZ => XS.iconst X24.here hx rfl (hb hby at_60) kZ) ?_
    refine own_by (S' := T24.setTop (mkF m 63 #[.val (.int p1), .val (.ref b1), .val (.ref c2), .val (.ref s2), .val (.int (0 : Int32))] [])) (fun tZ kZ => XS.istore X24.here hx rfl (hb hby at_61) rfl (l' := #[.val (.int p1), .val (.ref b1), .val (.ref c2), .val (.ref s2), .val (.int (0 : Int32))]) rfl kZ) ?_
    refine own_by (S' := T24.setTop (mkF m 64 #[.val (.int p1), .val (.ref b1), .val (.ref c2), .val (.ref s2), .val (.int (0 : Int32))] [(.ref c2)])) (fun tZ kZ => XS.aloadN X24.here hx rfl (hb hby at_63) rfl rfl kZ) ?_
    obtain ⟨cq25, kq25, q25a, q25b, q25c⟩ := isOf hZ23 heq24 (E_c2.ext ExK23)
    obtain ⟨_, _, ⟨T25, L25, k25, n25⟩, -, X25, ⟨Lc25, hQ25, l25, y25, z25⟩, st25⟩ := X24.virtualBack hx (y := (⟨"com/example/modelwright/modelwright/statement/Cardinality", "required", "()Z"⟩ : MethodName)) (z := (⟨"com/example/modelwright/modelwright/statement/Cardinality", "required", "()Z"⟩ : MethodName)) hown23 (mvT hZ23 (hw _ (List.mem_of_getElem? (i := 46) rfl))) (mvT hZ23 (hw _ (List.mem_of_getElem? (i := 47) rfl))) (notFace_of_selects (args := #[]) (mvT hZ23 (hw _ (List.mem_of_getElem? (i := 49) rfl)))) (mvT hZ23 (hw _ (List.mem_of_getElem? (i := 49) rfl))) (mvT hZ23 (hw _ (List.mem_of_getElem? (i := 48) rfl))) (by decide) (backOf (W := 0) (rmReq l Z a0 hw [] c2 c1 c3 h23 n0 Zs23 (S_c1.ext ExK23) (S_c3.ext ExK23)) hZ23 (hw _ (List.mem_of_getElem? (i := 50) rfl)) (hw _ (List.mem_of_getElem? (i := 3) rfl)) (by decide) (by decide)) q25a q25c (g := (mkF m 64 #[.val (.int p1), .val (.ref b1), .val (.ref c2), .val (.ref s2), .val (.int (0 : Int32))] [(.ref c2)])) rfl (by rw [hml]; rfl) (Steps.refl _) (argsL := []) (rest := []) (lenOf pd_2 rfl) rfl (by show 2 * 0 + _ ≤ _; exact Nat.le_of_eq rfl) (hb hby at_64) (fun _ _ => ⟨rfl, heq24, (by decide : 3 + 0 ≤ _), (by decide : 12 + 0 ≤ _)⟩)
    dsimp only [Pt.U, Pt.locs, Pt.cells, Pt.slots] at X25 l25 y25 z25 st25 hQ25
    subst l25 y25 z25
    obtain ⟨rfl, N25q, heq25⟩ := hQ25
    have N25 := Fr.app N24 N25q
    refine own_by (S' := T25.setTop (mkF m 67 #[.val (.int p1), .val (.ref b1), .val (.ref c2), .val (.ref s2), .val (.int (0 : Int32))] [(.int (if c2 = c1 ∨ c2 = c3 then (1 : Int32) else 0))])) (fun tZ kZ => st25.trans kZ) ?_
    rw [if_neg (fun q => q.elim n21 n23)]
    refine own_by (S' := T25.setTop (mkF m 69 #[.val (.int p1), .val (.ref b1), .val (.ref c2), .val (.ref s2), .val (.int (0 : Int32))] [(.int (0 : Int32)), (.int (0 : Int32))])) (fun tZ kZ => XS.iload X25.here hx rfl (hb hby at_67) rfl kZ) ?_
    refine own_by (S' := T25.setTop (mkF m 72 #[.val (.int p1), .val (.ref b1), .val (.ref c2), .val (.ref s2), .val (.int (0 : Int32))] [])) (fun tZ kZ => XS.icmpNo X25.here hx rfl (hb hby at_69) rfl (teq rfl).2 kZ) ?_
    refine own_by (S' := T25.setTop (mkF m 73 #[.val (.int p1), .val (.ref b1), .val (.ref c2), .val (.ref s2), .val (.int (0 : Int32))] [(.int (1 : Int32))])) (fun tZ kZ => XS.iconst X25.here hx rfl (hb hby at_72) kZ) ?_
    refine own_by (S' := T25.setTop (mkF m 77 #[.val (.int p1), .val (.ref b1), .val (.ref c2), .val (.ref s2), .val (.int (0 : Int32))] [(.int (1 : Int32))])) (fun tZ kZ => XS.goto X25.here hx rfl (pc0 := 73) (pc' := 77) rfl (hb hby at_73) (by decide) (by decide) kZ) ?_
    exact own_retWI X25 hS23 (by rw [heq25]; exact hk23) hx (t := .boolean) Bd.returns (by simp) rfl (hb hby at_77) Bd.notSynchronized (by decide) (by decide) ⟨rfl, N25⟩
  · rw [hi]
    obtain ⟨cc26, Ar26, hc26, hl26⟩ := id V_b1_w9
    refine own_by (S' := T9.setTop (mkF m 34 #[.val (.int p1), .val (.ref b1), .unset, .unset, .unset] [(.ref c3)])) (fun tZ kZ => X9.aaload hx (j := (3 : Int32)) (v := (.ref c3)) (by rw [e9]; exact Ar26.1) (State.isArrayOf_alike hZ0.alike Ar26.2.1) rfl Ar26.2.2 (OwnA.inb (j := (3 : Int32)) hl26 (by decide) (Nat.le_of_ble_eq_true rfl)) (OwnA.at (j := (3 : Int32)) hl26 rfl) (g := (mkF m 33 #[.val (.int p1), .val (.ref b1), .unset, .unset, .unset] [(.int (3 : Int32)), (.ref b1)])) rfl rfl (hb hby at_33) _ kZ) ?_
    refine own_by (S' := T9.setTop (mkF m 35 #[.val (.int p1), .val (.ref b1), .val (.ref c3), .unset, .unset] [])) (fun tZ kZ => XS.astoreN X9.here hx rfl (hb hby at_34) rfl rfl (l' := #[.val (.int p1), .val (.ref b1), .val (.ref c3), .unset, .unset]) rfl kZ) ?_
    refine own_by (S' := T9.setTop (mkF m 36 #[.val (.int p1), .val (.ref b1), .val (.ref c3), .unset, .unset] [(.ref c3)])) (fun tZ kZ => XS.aloadN X9.here hx rfl (hb hby at_35) rfl rfl kZ) ?_
    have ExK9 := own_ext0 K9
    obtain ⟨cq27, kq27, q27a, q27b, q27c⟩ := isOf hZ0 e9 (E_c3.ext ExK9)
    obtain ⟨_, _, ⟨T27, L27, k27, n27⟩, -, X27, ⟨Lc27, hQ27, l27, y27, z27⟩, st27⟩ := X9.virtualBack hx (y := (⟨"com/example/modelwright/modelwright/statement/Cardinality", "suffix", "()Ljava/lang/String;"⟩ : MethodName)) (z := (⟨"com/example/modelwright/modelwright/statement/Cardinality", "suffix", "()Ljava/lang/String;"⟩ : MethodName)) hown0 (mvT hZ0 (hw _ (List.mem_of_getElem? (i := 12) rfl))) (mvT hZ0 (hw _ (List.mem_of_getElem? (i := 13) rfl))) (notFace_of_selects (args := #[]) (mvT hZ0 (hw _ (List.mem_of_getElem? (i := 15) rfl)))) (mvT hZ0 (hw _ (List.mem_of_getElem? (i := 15) rfl))) (mvT hZ0 (hw _ (List.mem_of_getElem? (i := 14) rfl))) (by decide) (backOf (W := 0) (rmSuf l Z a0 hw [] c3 s3 h9 n0 Zs9 (F_c3.ext ExK9)) hZ0 (hw _ (List.mem_of_getElem? (i := 16) rfl)) (hw _ (List.mem_of_getElem? (i := 3) rfl)) (by decide) (by decide)) q27a q27c (g := (mkF m 36 #[.val (.int p1), .val (.ref b1), .val (.ref c3), .unset, .unset] [(.ref c3)])) rfl (by rw [hml]; rfl) (Steps.refl _) (argsL := []) (rest := []) (lenOf pd_1 rfl) rfl (by show 2 * 0 + _ ≤ _; exact Nat.le_of_eq rfl) (hb hby at_36) (fun _ _ => ⟨rfl, e9, (by decide : 1 + 0 ≤ _), (by decide : 4 + 0 ≤ _)⟩)
    dsimp only [Pt.U, Pt.locs, Pt.cells, Pt.slots] at X27 l27 y27 z27 st27 hQ27
    subst l27 y27 z27
    obtain ⟨rfl, N27q, heq27⟩ := hQ27
    have N27 := Fr.app N9 N27q
    refine own_by (S' := T27.setTop (mkF m 39 #[.val (.int p1), .val (.ref b1), .val (.ref c3), .unset, .unset] [(.ref s3)])) (fun tZ kZ => st27.trans kZ) ?_
    refine own_by (S' := T27.setTop (mkF m 40 #[.val (.int p1), .val (.ref b1), .val (.ref c3), .val (.ref s3), .unset] [])) (fun tZ kZ => XS.astoreN X27.here hx rfl (hb hby at_39) rfl rfl (l' := #[.val (.int p1), .val (.ref b1), .val (.ref c3), .val (.ref s3), .unset]) rfl kZ) ?_
    refine own_by (S' := T27.setTop (mkF m 41 #[.val (.int p1), .val (.ref b1), .val (.ref c3), .val (.ref s3), .unset] [(.ref s3)])) (fun tZ kZ => XS.aloadN X27.here hx rfl (hb hby at_40) rfl rfl kZ) ?_
    obtain ⟨cq28, kq28, q28a, q28b, q28c⟩ := isOf hZ0 heq27 (G_c3.ext ExK9)
    obtain ⟨_, _, ⟨T28, L28, k28, n28⟩, -, X28, ⟨Lc28, hQ28, l28, y28, z28⟩, st28⟩ := X27.virtualBack hx (y := (⟨"java/lang/String", "isEmpty", "()Z"⟩ : MethodName)) (z := (⟨"java/lang/String", "isEmpty", "()Z"⟩ : MethodName)) hown0 (mvT hZ0 (hw _ (List.mem_of_getElem? (i := 19) rfl))) (mvT hZ0 (hw _ (List.mem_of_getElem? (i := 20) rfl))) (notFace_of_selects (args := #[]) (mvT hZ0 (hw _ (List.mem_of_getElem? (i := 22) rfl)))) (mvT hZ0 (hw _ (List.mem_of_getElem? (i := 22) rfl))) (mvT hZ0 (hw _ (List.mem_of_getElem? (i := 21) rfl))) (by decide) (backOf (W := 0) (rmEmp l Z a0 hw [] s3 t3 (1 : Int32) u3 h9 n0 Zs9 (V_cc3.ext ExK9) (A_c3.ext ExK9) z_c3 (by decide)) hZ0 (hw _ (List.mem_of_getElem? (i := 24) rfl)) (hw _ (List.mem_of_getElem? (i := 23) rfl)) (by decide) (by decide)) q28a q28c (g := (mkF m 41 #[.val (.int p1), .val (.ref b1), .val (.ref c3), .val (.ref s3), .unset] [(.ref s3)])) rfl (by rw [hml]; rfl) (Steps.refl _) (argsL := []) (rest := []) (lenOf pd_2 rfl) rfl (by show 2 * 0 + _ ≤ _; exact Nat.le_of_eq rfl) (hb hby at_41) (fun _ _ => ⟨rfl, heq27, (by decide : 1 + 0 ≤ _), (by decide : 4 + 0 ≤ _)⟩)
    dsimp only [Pt.U, Pt.locs, Pt.cells, Pt.slots] at X28 l28 y28 z28 st28 hQ28
    subst l28 y28 z28
    obtain ⟨rfl, N28q, heq28⟩ := hQ28
    have N28 := Fr.app N27 N28q
    refine own_by (S' := T28.setTop (mkF m 44 #[.val (.int p1), .val (.ref b1), .val (.ref c3), .val (.ref s3), .unset] [(.int (if (1 : Int32) = 0 then (1 : Int32) else 0))])) (fun tZ kZ => st28.trans kZ) ?_
    rw [if_neg (by decide)]
    refine own_by (S' := T28.setTop (mkF m 47 #[.val (.int p1), .val (.ref b1), .val (.ref c3), .val (.ref s3), .unset] [])) (fun tZ kZ => XS.ifNo X28.here hx rfl (hb hby at_44) rfl ((if0 _ _).trans (teq rfl).2) kZ) ?_
    refine own_by (S' := T28.setTop (mkF m 48 #[.val (.int p1), .val (.ref b1), .val (.ref c3), .val (.ref s3), .unset] [(.ref s3)])) (fun tZ kZ => XS.aloadN X28.here hx rfl (hb hby at_47) rfl rfl kZ) ?_
    have hfr29 := N28
    rw [hn0, ← hU] at hfr29
    obtain ⟨sp, T29, h29, k29, tp, kp, X29, e29, E29, hS29, hk29, hZ29, hown29, Gp, Cp, Vp, Ap, -, -, -, st29⟩ := ldcSV X28 hx hZ0 hown0 (hw _ (List.mem_of_getElem? (i := 27) rfl)) (own_str hw) heq28 hS0 hk9 hfr29 (by rw [hU]; exact fun _ _ q => q) (show IB Z s.vm [] from by rw [hU]; exact IB.start) (by simp) hh1 hcw (vs := [.int 43]) (z := 1) ⟨by decide, by decide⟩ (by decide) (by decide) (g := (mkF m 48 #[.val (.int p1), .val (.ref b1), .val (.ref c3), .val (.ref s3), .unset] [(.ref s3)])) rfl (hb hby at_48) (n := 4) (by decide) (by decide) (by decide) (by decide)
    have Zs29 : n0 ≤ h29.size := Nat.le_trans Zs9 E29.1
    have K29 := K9.ext E29
    refine own_by (S' := T29.setTop (mkF m 50 #[.val (.int p1), .val (.ref b1), .val (.ref c3), .val (.ref s3), .unset] [(.ref sp), (.ref s3)])) st29 ?_
    have ExK29 := own_ext0 K29
    obtain ⟨cq30, kq30, q30a, q30b, q30c⟩ := isOf hZ29 e29 (G_c3.ext ExK29)
    obtain ⟨_, _, ⟨T30, L30, k30, n30⟩, -, X30, ⟨Lc30, hQ30, l30, y30, z30⟩, st30⟩ := X29.virtualBack hx (y := (⟨"java/lang/String", "equals", "(Ljava/lang/Object;)Z"⟩ : MethodName)) (z := (⟨"java/lang/String", "equals", "(Ljava/lang/Object;)Z"⟩ : MethodName)) hown29 (mvT hZ29 (hw _ (List.mem_of_getElem? (i := 33) rfl))) (mvT hZ29 (hw _ (List.mem_of_getElem? (i := 34) rfl))) (notFace_of_selects (args := #[]) (mvT hZ29 (hw _ (List.mem_of_getElem? (i := 36) rfl)))) (mvT hZ29 (hw _ (List.mem_of_getElem? (i := 36) rfl))) (mvT hZ29 (hw _ (List.mem_of_getElem? (i := 35) rfl))) (by decide) (backOf (W := 0) (rmEq l Z a0 hw [] s3 sp t3 tp u3.cls kp (43 : Int32) (43 : Int32) cz h29 n0 Zs29 ⟨_, (A_c3.ext ExK29), rfl, own_list1 z_c3 b_c3⟩ (OwnA.ofArv Ap rfl) (G_c3.ext ExK29) Gp (V_cc3.ext ExK29) Vp (C_c3.ext ExK29) Cp (Sc.ext ExK29) hcz) hZ29 (hw _ (List.mem_of_getElem? (i := 37) rfl)) (hw _ (List.mem_of_getElem? (i := 23) rfl)) (by decide) (by decide)) q30a q30c (g := (mkF m 50 #[.val (.int p1), .val (.ref b1), .val (.ref c3), .val (.ref s3), .unset] [(.ref sp), (.ref s3)])) rfl (by rw [hml]; rfl) (Steps.refl _) (argsL := [(.ref sp)]) (rest := []) (lenOf pd_3 rfl) rfl (by show 2 * 0 + _ ≤ _; exact Nat.le_of_eq rfl) (hb hby at_50) (fun _ _ => ⟨rfl, e29, (by decide : 3 + 0 ≤ _), (by decide : 12 + 0 ≤ _)⟩)
    dsimp only [Pt.U, Pt.locs, Pt.cells, Pt.slots] at X30 l30 y30 z30 st30 hQ30
    subst l30 y30 z30
    obtain ⟨rfl, N30q, heq30⟩ := hQ30
    have N30 := Fr.app N28 N30q
    refine own_by (S' := T30.setTop (mkF m 53 #[.val (.int p1), .val (.ref b1), .val (.ref c3), .val (.ref s3), .unset] [(.int (if (43 : Int32) = 43 then (1 : Int32) else 0))])) (fun tZ kZ => st30.trans kZ) ?_
    rw [if_pos rfl]
    refine own_by (S' := T30.setTop (mkF m 56 #[.val (.int p1), .val (.ref b1), .val (.ref c3), .val (.ref s3), .unset] [])) (fun tZ kZ => XS.ifNo X30.here hx rfl (hb hby at_53) rfl ((if0 _ _).trans (feq (by decide)).1) kZ) ?_
    refine own_by (S' := T30.setTop (mkF m 57 #[.val (.int p1), .val (.ref b1), .val (.ref c3), .val (.ref s3), .unset] [(.int (1 : Int32))])) (fun tZ kZ => XS.iconst X30.here hx rfl (hb hby at_56) kZ) ?_
    refine own_by (S' := T30.setTop (mkF m 61 #[.val (.int p1), .val (.ref b1), .val (.ref c3), .val (.ref s3), .unset] [(.int (1 : Int32))])) (fun tZ kZ => XS.goto X30.here hx rfl (pc0 := 57) (pc' := 61) rfl (hb hby at_57) (by decide) (by decide) kZ) ?_
    refine own_by (S' := T30.setTop (mkF m 63 #[.val (.int p1), .val (.ref b1), .val (.ref c3), .val (.ref s3), .val (.int (1 : Int32))] [])) (fun tZ kZ => XS.istore X30.here hx rfl (hb hby at_61) rfl (l' := #[.val (.int p1), .val (.ref b1), .val (.ref c3), .val (.ref s3), .val (.int (1 : Int32))]) rfl kZ) ?_
    refine own_by (S' := T30.setTop (mkF m 64 #[.val (.int p1), .val (.ref b1), .val (.ref c3), .val (.ref s3), .val (.int (1 : Int32))] [(.ref c3)])) (fun tZ kZ => XS.aloadN X30.here hx rfl (hb hby at_63) rfl rfl kZ) ?_
    obtain ⟨cq31, kq31, q31a, q31b, q31c⟩ := isOf hZ29 heq30 (E_c3.ext ExK29)
    obtain ⟨_, _, ⟨T31, L31, k31, n31⟩, -, X31, ⟨Lc31, hQ31, l31, y31, z31⟩, st31⟩ := X30.virtualBack hx (y := (⟨"com/example/modelwright/modelwright/statement/Cardinality", "required", "()Z"⟩ : MethodName)) (z := (⟨"com/example/modelwright/modelwright/statement/Cardinality", "required", "()Z"⟩ : MethodName)) hown29 (mvT hZ29 (hw _ (List.mem_of_getElem? (i := 46) rfl))) (mvT hZ29 (hw _ (List.mem_of_getElem? (i := 47) rfl))) (notFace_of_selects (args := #[]) (mvT hZ29 (hw _ (List.mem_of_getElem? (i := 49) rfl)))) (mvT hZ29 (hw _ (List.mem_of_getElem? (i := 49) rfl))) (mvT hZ29 (hw _ (List.mem_of_getElem? (i := 48) rfl))) (by decide) (backOf (W := 0) (rmReq l Z a0 hw [] c3 c1 c3 h29 n0 Zs29 (S_c1.ext ExK29) (S_c3.ext ExK29)) hZ29 (hw _ (List.mem_of_getElem? (i := 50) rfl)) (hw _ (List.mem_of_getElem? (i := 3) rfl)) (by decide) (by decide)) q31a q31c (g := (mkF m 64 #[.val (.int p1), .val (.ref b1), .val (.ref c3), .val (.ref s3), .val (.int (1 : Int32))] [(.ref c3)])) rfl (by rw [hml]; rfl) (Steps.refl _) (argsL := []) (rest := []) (lenOf pd_2 rfl) rfl (by show 2 * 0 + _ ≤ _; exact Nat.le_of_eq rfl) (hb hby at_64) (fun _ _ => ⟨rfl, heq30, (by decide : 3 + 0 ≤ _), (by decide : 12 + 0 ≤ _)⟩)
    dsimp only [Pt.U, Pt.locs, Pt.cells, Pt.slots] at X31 l31 y31 z31 st31 hQ31
    subst l31 y31 z31
    obtain ⟨rfl, N31q, heq31⟩ := hQ31
    have N31 := Fr.app N30 N31q
    refine own_by (S' := T31.setTop (mkF m 67 #[.val (.int p1), .val (.ref b1), .val (.ref c3), .val (.ref s3), .val (.int (1 : Int32))] [(.int (if c3 = c1 ∨ c3 = c3 then (1 : Int32) else 0))])) (fun tZ kZ => st31.trans kZ) ?_
    rw [if_pos (Or.inr rfl)]
    refine own_by (S' := T31.setTop (mkF m 69 #[.val (.int p1), .val (.ref b1), .val (.ref c3), .val (.ref s3), .val (.int (1 : Int32))] [(.int (1 : Int32)), (.int (1 : Int32))])) (fun tZ kZ => XS.iload X31.here hx rfl (hb hby at_67) rfl kZ) ?_
    refine own_by (S' := T31.setTop (mkF m 72 #[.val (.int p1), .val (.ref b1), .val (.ref c3), .val (.ref s3), .val (.int (1 : Int32))] [])) (fun tZ kZ => XS.icmpNo X31.here hx rfl (hb hby at_69) rfl (teq rfl).2 kZ) ?_
    refine own_by (S' := T31.setTop (mkF m 73 #[.val (.int p1), .val (.ref b1), .val (.ref c3), .val (.ref s3), .val (.int (1 : Int32))] [(.int (1 : Int32))])) (fun tZ kZ => XS.iconst X31.here hx rfl (hb hby at_72) kZ) ?_
    refine own_by (S' := T31.setTop (mkF m 77 #[.val (.int p1), .val (.ref b1), .val (.ref c3), .val (.ref s3), .val (.int (1 : Int32))] [(.int (1 : Int32))])) (fun tZ kZ => XS.goto X31.here hx rfl (pc0 := 73) (pc' := 77) rfl (hb hby at_73) (by decide) (by decide) kZ) ?_
    exact own_retWI X31 hS29 (by rw [heq31]; exact hk29) hx (t := .boolean) Bd.returns (by simp) rfl (hb hby at_77) Bd.notSynchronized (by decide) (by decide) ⟨rfl, N31⟩
set_option maxRecDepth 65536 in
set_option maxHeartbeats 40000000 in
theorem comes_1 {Post : Tables → Env → Array Value → State → Outcome → State → Prop} (hpost : ∀ tb e args s v u, (limb_1_1.after args s (.returned v) u = true ∧ limb_1_2.after args s (.returned v) u = true ∧ True) → FramedW s (.returned v) u (Jvm.fieldLocs frame_1_writes args s ++ Jvm.arrayLocs frame_1_arrays args s ++ Jvm.staticLocs frame_1_statics s) 16 1152 → Post tb e args s (.returned v) u) :
    ArmFor flags0 classFile x code maxLocals ret World_1 tables_1 room_1 Calls_1 rest_1 Pre_1 Post := by
  intro l hfl _ _ p e ha hc hk s m args below hf hA hF happ hP
  obtain ⟨hcalls, hrest, hpre⟩ := hP
  obtain ⟨-, -, -, hnamed, -, -, -, hat⟩ := (Spec.applies_iff hf).mp happ
  obtain ⟨hg, hn⟩ := and_e (Cond.before_iff.mp (show (Jvm.Cond.and given_1 narrow_1).before args s = true from hpre))
  obtain ⟨gc, gr0⟩ := and_e hg
  obtain ⟨w0, rfl⟩ : ∃ w0 : Value, args = #[w0] := by
    have hs : args.size = 1 := by simpa [Cond.value, given_1] using gc
    obtain ⟨L⟩ := args
    match L, hs with
    | [w0], _ => exact ⟨w0, rfl⟩
  have hw := fun d (hd : d ∈ tables_1) => atoms_spec (ws := Jvm.Cond.code x code maxLocals ret :: tables_1) hat d (List.mem_cons_of_mem _ hd)
  have hfit : Fit s := fun {y c} hc i hi => by
    obtain ⟨ha, rfl⟩ := Array.getElem?_eq_some_iff.mp hc
    have q := List.all_eq_true.mp ((Array.all_eq_true_iff_forall_mem.mp hF) _ (Array.getElem_mem ha)) i (List.mem_range.mpr hi)
    simpa [Array.getElem?_eq_getElem hi] using q
  obtain ⟨hsets, hown0⟩ := atoms_of _ (rest_1_c_eq ▸ (show rest_1_c.before _ s = true from hrest))
  have hr0 := Cond.before_iff.mp hown0
  obtain ⟨i0, ei0⟩ := is_v gr0
  obtain rfl : w0 = (.int i0) := Option.some.inj ei0
  obtain ⟨nb0, nc0⟩ := and_e hn
  obtain ⟨nb1, nc1⟩ := and_e nc0
  obtain ⟨nb2, nc2⟩ := and_e nc1
  obtain ⟨nb3, nc3⟩ := and_e nc2
  obtain ⟨nb4, nc4⟩ := and_e nc3
  obtain ⟨nb5, nc5⟩ := and_e nc4
  obtain ⟨nb6, nc6⟩ := and_e nc5
  obtain ⟨nb7, nc7⟩ := and_e nc6
  obtain ⟨nb8, nc8⟩ := and_e nc7
  obtain ⟨nb9, nc9⟩ := and_e nc8
  obtain ⟨nb10, nc10⟩ := and_e nc9
  obtain ⟨nb11, nc11⟩ := and_e nc10
  obtain ⟨nb12, nc12⟩ := and_e nc11
  obtain ⟨nb13, nc13⟩ := and_e nc12
  obtain ⟨nb14, nc14⟩ := and_e nc13
  obtain ⟨nb15, nc15⟩ := and_e nc14
  obtain ⟨nb16, nc16⟩ := and_e nc15
  obtain ⟨nb17, nc17⟩ := and_e nc16
  obtain ⟨nb18, nc18⟩ := and_e nc17
  obtain ⟨nb19, nc19⟩ := and_e nc18
  obtain ⟨nb20, nc20⟩ := and_e nc19
  obtain ⟨nb21, nc21⟩ := and_e nc20
  obtain ⟨nb22, nc22⟩ := and_e nc21
  obtain ⟨nb23, nc23⟩ := and_e nc22
  obtain ⟨nb24, nc24⟩ := and_e nc23
  obtain ⟨nb25, nc25⟩ := and_e nc24
  obtain ⟨c0, ec0⟩ := exa_v nb0
  have S_c0 : Sta s s.heap "com/example/modelwright/modelwright/statement/Cardinality" "ZERO_OR_ONE" "Lcom/example/modelwright/modelwright/statement/Cardinality;" (.ref c0) := Sta.start ec0 (Or.inr ⟨(hw _ (List.mem_of_getElem? (i := 3) rfl)), (hw _ (List.mem_of_getElem? (i := 4) rfl))⟩)
  have E_c0 := Exa.start ec0 nb0
  obtain ⟨s0, es0⟩ := exa_v nb4
  have F_c0 := Fld.start ((fld_at ec0).symm.trans es0)
  have G_c0 := Exa.start es0 nb4
  obtain ⟨t0, et0⟩ := arr_v nb5
  have V_cc0 := Fld.start ((fld_at es0).symm.trans et0)
  have C_c0 := Fld.start ((fld_at es0).symm.trans (own_eqI nb7))
  obtain ⟨u0, A_c0⟩ := Arr.start et0 nb5
  have z_c0 := own_size et0 A_c0 nb6
  have o0 := (fld_at ec0).symm.trans (own_eqI nb9)
  have b_c0 := own_elI et0 A_c0 nb8
  obtain ⟨c1, ec1⟩ := exa_v nb1
  have S_c1 : Sta s s.heap "com/example/modelwright/modelwright/statement/Cardinality" "ONE" "Lcom/example/modelwright/modelwright/statement/Cardinality;" (.ref c1) := Sta.start ec1 (Or.inr ⟨(hw _ (List.mem_of_getElem? (i := 3) rfl)), (hw _ (List.mem_of_getElem? (i := 7) rfl))⟩)
  have E_c1 := Exa.start ec1 nb1
  obtain ⟨s1, es1⟩ := exa_v nb23
  have F_c1 := Fld.start ((fld_at ec1).symm.trans es1)
  have G_c1 := Exa.start es1 nb23
  obtain ⟨t1, et1⟩ := arr_v nb24
  have V_cc1 := Fld.start ((fld_at es1).symm.trans et1)
  have C_c1 := Fld.start ((fld_at es1).symm.trans (own_eqI nc25))
  obtain ⟨u1, A_c1⟩ := Arr.start et1 nb24
  have z_c1 := own_size et1 A_c1 nb25
  have o1 := (fld_at ec1).symm.trans (own_eqI nb10)
  obtain ⟨c2, ec2⟩ := exa_v nb2
  have S_c2 : Sta s s.heap "com/example/modelwright/modelwright/statement/Cardinality" "ZERO_OR_MORE" "Lcom/example/modelwright/modelwright/statement/Cardinality;" (.ref c2) := Sta.start ec2 (Or.inr ⟨(hw _ (List.mem_of_getElem? (i := 3) rfl)), (hw _ (List.mem_of_getElem? (i := 9) rfl))⟩)
  have E_c2 := Exa.start ec2 nb2
  obtain ⟨s2, es2⟩ := exa_v nb17
  have F_c2 := Fld.start ((fld_at ec2).symm.trans es2)
  have G_c2 := Exa.start es2 nb17
  obtain ⟨t2, et2⟩ := arr_v nb18
  have V_cc2 := Fld.start ((fld_at es2).symm.trans et2)
  have C_c2 := Fld.start ((fld_at es2).symm.trans (own_eqI nb20))
  obtain ⟨u2, A_c2⟩ := Arr.start et2 nb18
  have z_c2 := own_size et2 A_c2 nb19
  have o2 := (fld_at ec2).symm.trans (own_eqI nb22)
  have b_c2 := own_elI et2 A_c2 nb21
  obtain ⟨c3, ec3⟩ := exa_v nb3
  have S_c3 : Sta s s.heap "com/example/modelwright/modelwright/statement/Cardinality" "ONE_OR_MORE" "Lcom/example/modelwright/modelwright/statement/Cardinality;" (.ref c3) := Sta.start ec3 (Or.inr ⟨(hw _ (List.mem_of_getElem? (i := 3) rfl)), (hw _ (List.mem_of_getElem? (i := 11) rfl))⟩)
  have E_c3 := Exa.start ec3 nb3
  obtain ⟨s3, es3⟩ := exa_v nb12
  have F_c3 := Fld.start ((fld_at ec3).symm.trans es3)
  have G_c3 := Exa.start es3 nb12
  obtain ⟨t3, et3⟩ := arr_v nb13
  have V_cc3 := Fld.start ((fld_at es3).symm.trans et3)
  have C_c3 := Fld.start ((fld_at es3).symm.trans (own_eqI nb15))
  obtain ⟨u3, A_c3⟩ := Arr.start et3 nb13
  have z_c3 := own_size et3 A_c3 nb14
  have o3 := (fld_at ec3).symm.trans (own_eqI nb11)
  have b_c3 := own_elI et3 A_c3 nb16
  have n01 : ¬ c0 = c1 := fun q => by rw [q, o1] at o0; simp at o0
  have n03 : ¬ c0 = c3 := fun q => by rw [q, o3] at o0; simp at o0
  have n21 : ¬ c2 = c1 := fun q => by rw [q, o1] at o2; simp at o2
  have n23 : ¬ c2 = c3 := fun q => by rw [q, o3] at o2; simp at o2
  obtain ⟨cz, ecz⟩ := is_v (Cond.before_iff.mp (hsets _ (List.mem_of_getElem? (i := 1) rfl)))
  have Sc : Sta s s.heap "java/lang/String" "COMPACT_STRINGS" "Z" (.int cz) := Sta.start ecz (Or.inl (hsets _ (List.mem_of_getElem? (i := 0) rfl)))
  have hcz : ¬ cz = 0 := own_ne ecz (Cond.before_iff.mp (hsets _ (List.mem_of_getElem? (i := 2) rfl)))
  have hh1 : Jvm.Lit.constHeld s "com/example/modelwright/modelwright/statement/CardinalityRequiredPinLaw" 32 := hcalls.1 ("com/example/modelwright/modelwright/statement/CardinalityRequiredPinLaw", 32) (List.mem_of_getElem? (i := 0) rfl)
  have hcw : Jvm.Lit.compactW.before _ s = true := hsets _ (List.mem_of_getElem? (i := 2) rfl)
  have hn0 : s.heap.size = s.heap.size := rfl
  obtain ⟨n, o, h1, h2, h3, _, L, rfl, ⟨rfl, N⟩, hq⟩ := rm0 l s _ hw tables_1 i0 c0 s0 t0 c1 s1 t1 c2 s2 t2 c3 s3 t3 u0 u1 u2 u3 cz s.heap s.heap.size (Nat.le_refl _) S_c0 E_c0 F_c0 G_c0 V_cc0 C_c0 A_c0 z_c0 b_c0 S_c1 E_c1 F_c1 G_c1 V_cc1 C_c1 A_c1 z_c1 S_c2 E_c2 F_c2 G_c2 V_cc2 C_c2 A_c2 z_c2 b_c2 S_c3 E_c3 F_c3 G_c3 V_cc3 C_c3 A_c3 z_c3 b_c3 n01 n03 n21 n23 Sc hcz hh1 hcw hn0 p e ha hc hk s m _ below hf ((Spec.applies_iff_loose hf).mp happ).1 ⟨rfl, rfl, rfl⟩ trivial
  refine ⟨n, _, h1, h2, h3, hpost _ _ _ _ _ _ ⟨Cond.after_iff.mpr rfl, Cond.after_iff.mpr (eq_i res_at (Term.int_eval (1)) rfl), trivial⟩ ⟨hq.1, hq.2.1, hq.2.2.1, (hq.2.2.2.sift fun y hy => Or.inr (N y hy)).mono (by decide) (by decide)⟩⟩
theorem main_1_1 : Claimed_1_1 := comes_1 fun _ _ _ _ _ _ h hF => ⟨h.1, hF⟩
theorem main_1_2 : Claimed_1_2 := comes_1 fun _ _ _ _ _ _ h hF => ⟨h.2.1, hF⟩

end Jvm.Pilot.@@N@@
namespace Jvm.Pilot.@@N@@
open Jvm Jvm.ClassFile Sem Op Lib Jvm.Free Jvm.Stand Jvm.Pilot.@@N@@.Jvm.D
/-! MADE BY PROGRAM (witnessworld.py) out of the Statement's table words and the real class files: 19 classes; the members and pool entries that the words name. The judged class is class 1, her method 1. -/
namespace start1
open Jvm.ClassFile
def u (s : String) : CpInfo := .utf8 (stringToUtf16 s)
/-- a pool by its gaps: so many unusable entries, then the entry; so many at the end -/
def gap : Nat → List CpInfo → List CpInfo
  | 0, r => r
  | n + 1, r => .unusable :: gap n r
def poolList (es : List (Nat × CpInfo)) (last : Nat) : List CpInfo := es.foldr (fun e r => gap e.1 (e.2 :: r)) (gap last [])
def pool (es : List (Nat × CpInfo)) (last : Nat) : Array CpInfo := ⟨poolList es last⟩
def fileOf (pool : Array CpInfo) (this : Nat) (attrs : Array Attribute := #[]) (ms : Array MethodInfo := #[]) (fl : Nat := 33) (sup : Nat := 0) (ifs : Array Nat := #[]) (fds : Array FieldInfo := #[]) : ClassFile where
  minorVersion := 0
  majorVersion := 65
  constantPool := pool
  accessFlags := fl
  thisClass := this
  superClass := sup
  interfaces := ifs
  fields := fds
  methods := ms
  attributes := attrs
def plain (name : String) (sup : Option ClassId) : Class where
  name := name
  kind := .ordinary
  loader := none
  accessFlags := 33
  super := sup
  interfaces := #[]
  cf := none
  fields := #[]
  methods := #[]
  instanceTypes := #[]
  staticTypes := #[]
  resolved := #[]
  callSites := []
  init := .initialized
  statics := none
  mirror := none

def pool0 : Array CpInfo := pool [(5, u "<init>"), (0, u "()V"), (1, .class_ 10), (1, u "java/lang/Object")] 113

def k0m0 : Method := { name := "<init>", desc := "()V", sig := { parameters := [], returnType := none }, accessFlags := 1, code := none }
/-- java/lang/Object -/
def k0 : Class := { plain "java/lang/Object" none with
  accessFlags := 33
  interfaces := #[]
  cf := some (fileOf pool0 8 #[] #[{ accessFlags := 1, nameIndex := 5, descriptorIndex := 6, attributes := #[] }] 33 0 #[] #[])
  fields := #[]
  methods := #[k0m0]
  instanceTypes := #[]
  staticTypes := #[]
  resolved := Array.replicate 124 none
  statics := none }

def pool1 : Array CpInfo := pool [(2, .class_ 4), (1, u "java/lang/Object"), (0, u "<init>"), (0, u "()V"), (0, .class_ 8), (0, u "com/example/modelwright/modelwright/statement/Cardinality"), (0, .fieldref 7 10), (0, .nameAndType 11 12), (0, u "ZERO_OR_ONE"), (0, u "Lcom/example/modelwright/modelwright/statement/Cardinality;"), (0, .fieldref 7 14), (0, .nameAndType 15 12), (0, u "ONE"), (0, .fieldref 7 17), (0, .nameAndType 18 12), (0, u "ZERO_OR_MORE"), (0, .fieldref 7 20), (0, .nameAndType 21 12), (0, u "ONE_OR_MORE"), (0, .methodref 7 23), (0, .nameAndType 24 25), (0, u "suffix"), (0, u "()Ljava/lang/String;"), (0, .methodref 27 28), (0, .class_ 29), (0, .nameAndType 30 31), (0, u "java/lang/String"), (0, u "isEmpty"), (0, u "()Z"), (0, .string 33), (0, u "+"), (0, .methodref 27 35), (0, .nameAndType 36 37), (0, u "equals"), (0, u "(Ljava/lang/Object;)Z"), (0, .methodref 7 39), (0, .nameAndType 40 31), (0, u "required"), (0, .class_ 42), (0, u "com/example/modelwright/modelwright/statement/CardinalityRequiredPinLaw"), (2, u "law"), (0, u "(I)Z")] 5

def k1m0 : Method := { name := "<init>", desc := "()V", sig := { parameters := [], returnType := none }, accessFlags := 1, code := none }
def k1c1 : Code := { maxStack := 4, maxLocals := 5, code := code, exceptionTable := #[], attributes := #[] }
def k1m1 : Method := { name := "law", desc := "(I)Z", sig := { parameters := [.int], returnType := some .boolean }, accessFlags := 9, code := some k1c1 }
/-- com/example/modelwright/modelwright/statement/CardinalityRequiredPinLaw -/
def k1 : Class := { plain "com/example/modelwright/modelwright/statement/CardinalityRequiredPinLaw" (some 0) with
  accessFlags := 49
  interfaces := #[]
  cf := some (fileOf pool1 41 #[] #[{ accessFlags := 1, nameIndex := 5, descriptorIndex := 6, attributes := #[] }, { accessFlags := 9, nameIndex := 45, descriptorIndex := 46, attributes := #[] }] 49 2 #[] #[])
  fields := #[]
  methods := #[k1m0, k1m1]
  instanceTypes := #[]
  staticTypes := #[]
  resolved := Array.replicate 52 none
  statics := none }

def pool2 : Array CpInfo := pool [(1, .class_ 2), (0, u "java/lang/constant/Constable"), (0, .class_ 4), (0, u "java/lang/Object")] 6

/-- java/lang/constant/Constable -/
def k2 : Class := { plain "java/lang/constant/Constable" (some 0) with
  accessFlags := 1537
  interfaces := #[]
  cf := some (fileOf pool2 1 #[] #[] 1537 3 #[] #[])
  fields := #[]
  methods := #[]
  instanceTypes := #[]
  staticTypes := #[]
  resolved := Array.replicate 11 none
  statics := none }

def pool3 : Array CpInfo := pool [(1, .class_ 2), (0, u "java/lang/Comparable"), (0, .class_ 4), (0, u "java/lang/Object")] 7

/-- java/lang/Comparable -/
def k3 : Class := { plain "java/lang/Comparable" (some 0) with
  accessFlags := 1537
  interfaces := #[]
  cf := some (fileOf pool3 1 #[] #[] 1537 3 #[] #[])
  fields := #[]
  methods := #[]
  instanceTypes := #[]
  staticTypes := #[]
  resolved := Array.replicate 12 none
  statics := none }

def pool4 : Array CpInfo := pool [(1, .class_ 2), (0, u "java/io/Serializable"), (0, .class_ 4), (0, u "java/lang/Object")] 2

/-- java/io/Serializable -/
def k4 : Class := { plain "java/io/Serializable" (some 0) with
  accessFlags := 1537
  interfaces := #[]
  cf := some (fileOf pool4 1 #[] #[] 1537 3 #[] #[])
  fields := #[]
  methods := #[]
  instanceTypes := #[]
  staticTypes := #[]
  resolved := Array.replicate 7 none
  statics := none }

def pool5 : Array CpInfo := pool [(2, .class_ 4), (1, u "java/lang/Enum"), (0, u "name"), (0, u "Ljava/lang/String;"), (2, u "ordinal"), (0, u "I"), (1, .class_ 14), (1, u "java/lang/Object"), (4, u "hash"), (86, .class_ 108), (1, u "java/lang/Enum$EnumDesc"), (2, .class_ 112), (0, u "java/lang/constant/Constable"), (0, .class_ 114), (0, u "java/lang/Comparable"), (0, .class_ 116), (0, u "java/io/Serializable")] 87

/-- java/lang/Enum -/
def k5 : Class := { plain "java/lang/Enum" (some 0) with
  accessFlags := 1057
  interfaces := #[2, 3, 4]
  cf := some (fileOf pool5 2 #[.nestMembers #[106]] #[] 1057 12 #[111, 113, 115] #[{ accessFlags := 18, nameIndex := 5, descriptorIndex := 6, attributes := #[] }, { accessFlags := 18, nameIndex := 9, descriptorIndex := 10, attributes := #[] }, { accessFlags := 2, nameIndex := 19, descriptorIndex := 10, attributes := #[] }])
  fields := #[{ name := "name", type := (.object "java/lang/String"), accessFlags := 18, slot := 0, constantValue := 0 }, { name := "ordinal", type := .int, accessFlags := 18, slot := 1, constantValue := 0 }, { name := "hash", type := .int, accessFlags := 2, slot := 2, constantValue := 0 }]
  methods := #[]
  instanceTypes := #[(.object "java/lang/String"), .int, .int]
  staticTypes := #[]
  resolved := Array.replicate 204 none
  statics := none }

def pool6 : Array CpInfo := pool [(1, .class_ 2), (0, u "com/example/modelwright/modelwright/statement/Cardinality"), (2, u "ZERO_OR_ONE"), (0, u "Lcom/example/modelwright/modelwright/statement/Cardinality;"), (0, .fieldref 1 8), (0, .nameAndType 9 6), (0, u "ONE"), (2, u "ZERO_OR_MORE"), (0, .fieldref 1 14), (0, .nameAndType 15 6), (0, u "ONE_OR_MORE"), (2, u "$VALUES"), (0, u "[Lcom/example/modelwright/modelwright/statement/Cardinality;"), (6, .class_ 28), (1, u "java/lang/Enum"), (6, .fieldref 1 36), (0, .nameAndType 37 38), (0, u "suffix"), (0, u "Ljava/lang/String;"), (26, u "required"), (0, u "()Z"), (2, u "()Ljava/lang/String;")] 5

def k6c0 : Code := { maxStack := 2, maxLocals := 1, code := prog_81_method_4_code, exceptionTable := #[], attributes := #[] }
def k6m0 : Method := { name := "required", desc := "()Z", sig := { parameters := [], returnType := some .boolean }, accessFlags := 1, code := some k6c0 }
def k6c1 : Code := { maxStack := 1, maxLocals := 1, code := prog_81_method_6_code, exceptionTable := #[], attributes := #[] }
def k6m1 : Method := { name := "suffix", desc := "()Ljava/lang/String;", sig := { parameters := [], returnType := some (.object "java/lang/String") }, accessFlags := 0, code := some k6c1 }
/-- com/example/modelwright/modelwright/statement/Cardinality -/
def k6 : Class := { plain "com/example/modelwright/modelwright/statement/Cardinality" (some 5) with
  accessFlags := 16433
  interfaces := #[]
  cf := some (fileOf pool6 1 #[] #[{ accessFlags := 1, nameIndex := 65, descriptorIndex := 66, attributes := #[] }, { accessFlags := 0, nameIndex := 37, descriptorIndex := 69, attributes := #[] }] 16433 26 #[] #[{ accessFlags := 16409, nameIndex := 5, descriptorIndex := 6, attributes := #[] }, { accessFlags := 16409, nameIndex := 9, descriptorIndex := 6, attributes := #[] }, { accessFlags := 16409, nameIndex := 12, descriptorIndex := 6, attributes := #[] }, { accessFlags := 16409, nameIndex := 15, descriptorIndex := 6, attributes := #[] }, { accessFlags := 18, nameIndex := 37, descriptorIndex := 38, attributes := #[] }, { accessFlags := 4122, nameIndex := 18, descriptorIndex := 19, attributes := #[] }])
  fields := #[{ name := "ZERO_OR_ONE", type := (.object "com/example/modelwright/modelwright/statement/Cardinality"), accessFlags := 16409, slot := 0, constantValue := 0 }, { name := "ONE", type := (.object "com/example/modelwright/modelwright/statement/Cardinality"), accessFlags := 16409, slot := 1, constantValue := 0 }, { name := "ZERO_OR_MORE", type := (.object "com/example/modelwright/modelwright/statement/Cardinality"), accessFlags := 16409, slot := 2, constantValue := 0 }, { name := "ONE_OR_MORE", type := (.object "com/example/modelwright/modelwright/statement/Cardinality"), accessFlags := 16409, slot := 3, constantValue := 0 }, { name := "suffix", type := (.object "java/lang/String"), accessFlags := 18, slot := 3, constantValue := 0 }, { name := "$VALUES", type := (.array (.object "com/example/modelwright/modelwright/statement/Cardinality")), accessFlags := 4122, slot := 4, constantValue := 0 }]
  methods := #[k6m0, k6m1]
  instanceTypes := #[(.object "java/lang/String"), .int, .int, (.object "java/lang/String")]
  staticTypes := #[(.object "com/example/modelwright/modelwright/statement/Cardinality"), (.object "com/example/modelwright/modelwright/statement/Cardinality"), (.object "com/example/modelwright/modelwright/statement/Cardinality"), (.object "com/example/modelwright/modelwright/statement/Cardinality"), (.array (.object "com/example/modelwright/modelwright/statement/Cardinality"))]
  resolved := Array.replicate 75 none
  statics := some 0 }

def pool7 : Array CpInfo := pool [(2, .class_ 4), (1, u "java/lang/CharSequence"), (42, .class_ 48), (0, u "java/lang/CharSequence$1CodePointIterator"), (10, .class_ 60), (0, u "java/lang/CharSequence$1CharIterator"), (5, .class_ 67), (0, u "java/lang/Object")] 63

/-- java/lang/CharSequence -/
def k7 : Class := { plain "java/lang/CharSequence" (some 0) with
  accessFlags := 1537
  interfaces := #[]
  cf := some (fileOf pool7 2 #[.nestMembers #[47, 59]] #[] 1537 66 #[] #[])
  fields := #[]
  methods := #[]
  instanceTypes := #[]
  staticTypes := #[]
  resolved := Array.replicate 131 none
  statics := none }

def pool8 : Array CpInfo := pool [(1, .class_ 2), (0, u "java/lang/constant/ConstantDesc"), (0, .class_ 4), (0, u "java/lang/Object")] 32

/-- java/lang/constant/ConstantDesc -/
def k8 : Class := { plain "java/lang/constant/ConstantDesc" (some 0) with
  accessFlags := 1537
  interfaces := #[]
  cf := some (fileOf pool8 1 #[] #[] 1537 3 #[] #[])
  fields := #[]
  methods := #[]
  instanceTypes := #[]
  staticTypes := #[]
  resolved := Array.replicate 37 none
  statics := none }

def pool9 : Array CpInfo := pool [(2, .class_ 4), (1, u "java/lang/Object"), (0, u "<init>"), (0, u "()V"), (2, .fieldref 10 11), (0, .class_ 12), (0, .nameAndType 13 14), (0, u "java/lang/String"), (0, u "value"), (0, u "[B"), (0, .fieldref 10 16), (0, .nameAndType 17 18), (0, u "coder"), (0, u "B"), (2, u "hash"), (0, u "I"), (2, u "hashIsZero"), (0, u "Z"), (11, .fieldref 10 39), (0, .nameAndType 40 26), (0, u "COMPACT_STRINGS"), (66, .class_ 109), (1, u "java/lang/StringLatin1"), (32, u "()Z"), (398, .methodref 107 542), (0, .nameAndType 543 544), (0, u "equals"), (0, u "([B[B)Z"), (28, u "(Ljava/lang/Object;)Z"), (1, .class_ 576), (0, u "java/lang/CharSequence"), (22, u "CASE_INSENSITIVE_ORDER"), (0, u "Ljava/util/Comparator;"), (91, u "isEmpty"), (408, u "serialPersistentFields"), (0, u "[Ljava/io/ObjectStreamField;"), (0, .class_ 1104), (0, u "java/lang/String$CaseInsensitiveComparator"), (1, .class_ 1107), (0, u "java/io/Serializable"), (0, .class_ 1109), (0, u "java/lang/Comparable"), (0, .class_ 1111), (0, u "java/lang/constant/Constable"), (0, .class_ 1113), (0, u "java/lang/constant/ConstantDesc"), (2, u "serialVersionUID"), (0, u "J"), (3, u "REPL"), (0, u "C"), (2, u "LATIN1"), (1, u "UTF16")] 323

def k9m0 : Method := { name := "<init>", desc := "()V", sig := { parameters := [], returnType := none }, accessFlags := 1, code := none }
def k9c1 : Code := { maxStack := 1, maxLocals := 1, code := jdk_42_method_55_code, exceptionTable := #[], attributes := #[] }
def k9m1 : Method := { name := "isEmpty", desc := "()Z", sig := { parameters := [], returnType := some .boolean }, accessFlags := 1, code := some k9c1 }
def k9c2 : Code := { maxStack := 2, maxLocals := 3, code := jdk_42_method_66_code, exceptionTable := #[], attributes := #[] }
def k9m2 : Method := { name := "equals", desc := "(Ljava/lang/Object;)Z", sig := { parameters := [(.object "java/lang/Object")], returnType := some .boolean }, accessFlags := 1, code := some k9c2 }
/-- java/lang/String -/
def k9 : Class := { plain "java/lang/String" (some 0) with
  accessFlags := 49
  interfaces := #[4, 3, 7, 2, 8]
  cf := some (fileOf pool9 10 #[.nestMembers #[1103]] #[{ accessFlags := 1, nameIndex := 5, descriptorIndex := 6, attributes := #[] }, { accessFlags := 1, nameIndex := 692, descriptorIndex := 142, attributes := #[] }, { accessFlags := 1, nameIndex := 543, descriptorIndex := 573, attributes := #[] }] 49 2 #[1106, 1108, 575, 1110, 1112] #[{ accessFlags := 18, nameIndex := 13, descriptorIndex := 14, attributes := #[] }, { accessFlags := 18, nameIndex := 17, descriptorIndex := 18, attributes := #[] }, { accessFlags := 2, nameIndex := 21, descriptorIndex := 22, attributes := #[] }, { accessFlags := 2, nameIndex := 25, descriptorIndex := 26, attributes := #[] }, { accessFlags := 26, nameIndex := 1116, descriptorIndex := 1117, attributes := #[] }, { accessFlags := 24, nameIndex := 40, descriptorIndex := 26, attributes := #[] }, { accessFlags := 26, nameIndex := 1101, descriptorIndex := 1102, attributes := #[] }, { accessFlags := 26, nameIndex := 1121, descriptorIndex := 1122, attributes := #[] }, { accessFlags := 25, nameIndex := 599, descriptorIndex := 600, attributes := #[] }, { accessFlags := 24, nameIndex := 1125, descriptorIndex := 18, attributes := #[] }, { accessFlags := 24, nameIndex := 1127, descriptorIndex := 18, attributes := #[] }])
  fields := #[{ name := "value", type := (.array .byte), accessFlags := 18, slot := 0, constantValue := 0 }, { name := "coder", type := .byte, accessFlags := 18, slot := 1, constantValue := 0 }, { name := "hash", type := .int, accessFlags := 2, slot := 2, constantValue := 0 }, { name := "hashIsZero", type := .boolean, accessFlags := 2, slot := 3, constantValue := 0 }, { name := "serialVersionUID", type := .long, accessFlags := 26, slot := 0, constantValue := 0 }, { name := "COMPACT_STRINGS", type := .boolean, accessFlags := 24, slot := 1, constantValue := 0 }, { name := "serialPersistentFields", type := (.array (.object "java/io/ObjectStreamField")), accessFlags := 26, slot := 2, constantValue := 0 }, { name := "REPL", type := .char, accessFlags := 26, slot := 3, constantValue := 0 }, { name := "CASE_INSENSITIVE_ORDER", type := (.object "java/util/Comparator"), accessFlags := 25, slot := 4, constantValue := 0 }, { name := "LATIN1", type := .byte, accessFlags := 24, slot := 5, constantValue := 0 }, { name := "UTF16", type := .byte, accessFlags := 24, slot := 6, constantValue := 0 }]
  methods := #[k9m0, k9m1, k9m2]
  instanceTypes := #[(.array .byte), .byte, .int, .boolean]
  staticTypes := #[.long, .boolean, (.array (.object "java/io/ObjectStreamField")), .char, (.object "java/util/Comparator"), .byte, .byte]
  resolved := Array.replicate 1451 none
  statics := some 1 }

def pool10 : Array CpInfo := pool [(4, .class_ 6), (1, u "java/lang/Object"), (0, u "<init>"), (0, u "()V"), (5, .class_ 16), (1, u "java/lang/StringLatin1"), (104, u "$assertionsDisabled"), (0, u "Z"), (98, .class_ 223), (1, u "java/lang/StringLatin1$LinesSpliterator"), (57, u "equals"), (0, u "([B[B)Z"), (107, .class_ 391), (0, u "java/lang/StringLatin1$CharsSpliterator")] 3

def k10m0 : Method := { name := "<init>", desc := "()V", sig := { parameters := [], returnType := none }, accessFlags := 0, code := none }
def k10c1 : Code := { maxStack := 3, maxLocals := 3, code := jdk_43_method_13_code, exceptionTable := #[], attributes := #[] }
def k10m1 : Method := { name := "equals", desc := "([B[B)Z", sig := { parameters := [(.array .byte), (.array .byte)], returnType := some .boolean }, accessFlags := 9, code := some k10c1 }
/-- java/lang/StringLatin1 -/
def k10 : Class := { plain "java/lang/StringLatin1" (some 0) with
  accessFlags := 48
  interfaces := #[]
  cf := some (fileOf pool10 14 #[.nestMembers #[390, 221]] #[{ accessFlags := 0, nameIndex := 7, descriptorIndex := 8, attributes := #[] }, { accessFlags := 9, nameIndex := 281, descriptorIndex := 282, attributes := #[] }] 48 4 #[] #[{ accessFlags := 4120, nameIndex := 121, descriptorIndex := 122, attributes := #[] }])
  fields := #[{ name := "$assertionsDisabled", type := .boolean, accessFlags := 4120, slot := 0, constantValue := 0 }]
  methods := #[k10m0, k10m1]
  instanceTypes := #[]
  staticTypes := #[.boolean]
  resolved := Array.replicate 395 none
  statics := none }

def pool11 : Array CpInfo := pool [(2, .class_ 4), (1, u "java/lang/Object"), (0, u "<init>"), (0, u "()V"), (17, .class_ 26), (1, u "jdk/internal/util/Preconditions"), (28, .class_ 56), (0, u "jdk/internal/util/Preconditions$4"), (57, .class_ 115), (0, u "jdk/internal/util/Preconditions$1"), (7, u "SIOOBE_FORMATTER"), (0, u "Ljava/util/function/BiFunction;"), (0, .class_ 126), (0, u "jdk/internal/util/Preconditions$2"), (3, u "AIOOBE_FORMATTER"), (0, .class_ 132), (0, u "jdk/internal/util/Preconditions$3"), (3, u "IOOBE_FORMATTER")] 57

def k11m0 : Method := { name := "<init>", desc := "()V", sig := { parameters := [], returnType := none }, accessFlags := 1, code := none }
/-- jdk/internal/util/Preconditions -/
def k11 : Class := { plain "jdk/internal/util/Preconditions" (some 0) with
  accessFlags := 33
  interfaces := #[]
  cf := some (fileOf pool11 24 #[.nestMembers #[55, 131, 125, 114]] #[{ accessFlags := 1, nameIndex := 5, descriptorIndex := 6, attributes := #[] }] 33 2 #[] #[{ accessFlags := 25, nameIndex := 123, descriptorIndex := 124, attributes := #[] }, { accessFlags := 25, nameIndex := 130, descriptorIndex := 124, attributes := #[] }, { accessFlags := 25, nameIndex := 136, descriptorIndex := 124, attributes := #[] }])
  fields := #[{ name := "SIOOBE_FORMATTER", type := (.object "java/util/function/BiFunction"), accessFlags := 25, slot := 0, constantValue := 0 }, { name := "AIOOBE_FORMATTER", type := (.object "java/util/function/BiFunction"), accessFlags := 25, slot := 1, constantValue := 0 }, { name := "IOOBE_FORMATTER", type := (.object "java/util/function/BiFunction"), accessFlags := 25, slot := 2, constantValue := 0 }]
  methods := #[k11m0]
  instanceTypes := #[]
  staticTypes := #[(.object "java/util/function/BiFunction"), (.object "java/util/function/BiFunction"), (.object "java/util/function/BiFunction")]
  resolved := Array.replicate 194 none
  statics := some 2 }

def pool12 : Array CpInfo := pool [(9, u "<init>"), (6, .class_ 18), (1, u "java/lang/Object"), (0, u "()V"), (1, .class_ 23), (1, u "jdk/internal/util/ArraysSupport"), (0, u "LOG2_ARRAY_LONG_INDEX_SCALE"), (0, u "I"), (2, u "U"), (0, u "Ljdk/internal/misc/Unsafe;"), (8, u "BIG_ENDIAN"), (0, u "Z"), (8, u "LOG2_BYTE_BIT_SIZE"), (4, u "LOG2_ARRAY_INT_INDEX_SCALE"), (54, u "JLA"), (0, u "Ljdk/internal/access/JavaLangAccess;"), (11, u "LOG2_ARRAY_BOOLEAN_INDEX_SCALE"), (9, u "LOG2_ARRAY_BYTE_INDEX_SCALE"), (5, u "LOG2_ARRAY_CHAR_INDEX_SCALE"), (5, u "LOG2_ARRAY_SHORT_INDEX_SCALE"), (18, u "LOG2_ARRAY_FLOAT_INDEX_SCALE"), (24, u "LOG2_ARRAY_DOUBLE_INDEX_SCALE"), (89, u "T_BOOLEAN"), (2, u "T_CHAR"), (1, u "T_FLOAT"), (1, u "T_DOUBLE"), (1, u "T_BYTE"), (1, u "T_SHORT"), (1, u "T_INT"), (1, u "T_LONG"), (1, u "SOFT_MAX_ARRAY_LENGTH")] 83

def k12m0 : Method := { name := "<init>", desc := "()V", sig := { parameters := [], returnType := none }, accessFlags := 2, code := none }
/-- jdk/internal/util/ArraysSupport -/
def k12 : Class := { plain "jdk/internal/util/ArraysSupport" (some 0) with
  accessFlags := 33
  interfaces := #[]
  cf := some (fileOf pool12 21 #[] #[{ accessFlags := 2, nameIndex := 9, descriptorIndex := 19, attributes := #[] }] 33 16 #[] #[{ accessFlags := 24, nameIndex := 28, descriptorIndex := 29, attributes := #[] }, { accessFlags := 26, nameIndex := 38, descriptorIndex := 39, attributes := #[] }, { accessFlags := 25, nameIndex := 121, descriptorIndex := 25, attributes := #[] }, { accessFlags := 25, nameIndex := 131, descriptorIndex := 25, attributes := #[] }, { accessFlags := 25, nameIndex := 137, descriptorIndex := 25, attributes := #[] }, { accessFlags := 25, nameIndex := 143, descriptorIndex := 25, attributes := #[] }, { accessFlags := 25, nameIndex := 53, descriptorIndex := 25, attributes := #[] }, { accessFlags := 25, nameIndex := 24, descriptorIndex := 25, attributes := #[] }, { accessFlags := 25, nameIndex := 162, descriptorIndex := 25, attributes := #[] }, { accessFlags := 25, nameIndex := 187, descriptorIndex := 25, attributes := #[] }, { accessFlags := 26, nameIndex := 48, descriptorIndex := 25, attributes := #[] }, { accessFlags := 25, nameIndex := 277, descriptorIndex := 25, attributes := #[] }, { accessFlags := 25, nameIndex := 280, descriptorIndex := 25, attributes := #[] }, { accessFlags := 25, nameIndex := 282, descriptorIndex := 25, attributes := #[] }, { accessFlags := 25, nameIndex := 284, descriptorIndex := 25, attributes := #[] }, { accessFlags := 25, nameIndex := 286, descriptorIndex := 25, attributes := #[] }, { accessFlags := 25, nameIndex := 288, descriptorIndex := 25, attributes := #[] }, { accessFlags := 25, nameIndex := 290, descriptorIndex := 25, attributes := #[] }, { accessFlags := 25, nameIndex := 292, descriptorIndex := 25, attributes := #[] }, { accessFlags := 26, nameIndex := 108, descriptorIndex := 109, attributes := #[] }, { accessFlags := 25, nameIndex := 294, descriptorIndex := 25, attributes := #[] }])
  fields := #[{ name := "U", type := (.object "jdk/internal/misc/Unsafe"), accessFlags := 24, slot := 0, constantValue := 0 }, { name := "BIG_ENDIAN", type := .boolean, accessFlags := 26, slot := 1, constantValue := 0 }, { name := "LOG2_ARRAY_BOOLEAN_INDEX_SCALE", type := .int, accessFlags := 25, slot := 2, constantValue := 0 }, { name := "LOG2_ARRAY_BYTE_INDEX_SCALE", type := .int, accessFlags := 25, slot := 3, constantValue := 0 }, { name := "LOG2_ARRAY_CHAR_INDEX_SCALE", type := .int, accessFlags := 25, slot := 4, constantValue := 0 }, { name := "LOG2_ARRAY_SHORT_INDEX_SCALE", type := .int, accessFlags := 25, slot := 5, constantValue := 0 }, { name := "LOG2_ARRAY_INT_INDEX_SCALE", type := .int, accessFlags := 25, slot := 6, constantValue := 0 }, { name := "LOG2_ARRAY_LONG_INDEX_SCALE", type := .int, accessFlags := 25, slot := 7, constantValue := 0 }, { name := "LOG2_ARRAY_FLOAT_INDEX_SCALE", type := .int, accessFlags := 25, slot := 8, constantValue := 0 }, { name := "LOG2_ARRAY_DOUBLE_INDEX_SCALE", type := .int, accessFlags := 25, slot := 9, constantValue := 0 }, { name := "LOG2_BYTE_BIT_SIZE", type := .int, accessFlags := 26, slot := 10, constantValue := 0 }, { name := "T_BOOLEAN", type := .int, accessFlags := 25, slot := 11, constantValue := 0 }, { name := "T_CHAR", type := .int, accessFlags := 25, slot := 12, constantValue := 0 }, { name := "T_FLOAT", type := .int, accessFlags := 25, slot := 13, constantValue := 0 }, { name := "T_DOUBLE", type := .int, accessFlags := 25, slot := 14, constantValue := 0 }, { name := "T_BYTE", type := .int, accessFlags := 25, slot := 15, constantValue := 0 }, { name := "T_SHORT", type := .int, accessFlags := 25, slot := 16, constantValue := 0 }, { name := "T_INT", type := .int, accessFlags := 25, slot := 17, constantValue := 0 }, { name := "T_LONG", type := .int, accessFlags := 25, slot := 18, constantValue := 0 }, { name := "JLA", type := (.object "jdk/internal/access/JavaLangAccess"), accessFlags := 26, slot := 19, constantValue := 0 }, { name := "SOFT_MAX_ARRAY_LENGTH", type := .int, accessFlags := 25, slot := 20, constantValue := 0 }]
  methods := #[k12m0]
  instanceTypes := #[]
  staticTypes := #[(.object "jdk/internal/misc/Unsafe"), .boolean, .int, .int, .int, .int, .int, .int, .int, .int, .int, .int, .int, .int, .int, .int, .int, .int, .int, (.object "jdk/internal/access/JavaLangAccess"), .int]
  resolved := Array.replicate 378 none
  statics := none }

def pool13 : Array CpInfo := pool [(1, u "java/lang/Cloneable"), (0, .class_ 1), (0, u "java/lang/Object"), (0, .class_ 3)] 3

/-- java/lang/Cloneable -/
def k13 : Class := { plain "java/lang/Cloneable" (some 0) with
  accessFlags := 1537
  interfaces := #[]
  cf := some (fileOf pool13 2 #[] #[] 1537 4 #[] #[])
  fields := #[]
  methods := #[]
  instanceTypes := #[]
  staticTypes := #[]
  resolved := Array.replicate 8 none
  statics := none }

/-- the primitive byte -/
def k14 : Class := { plain "byte" none with kind := .primitive 'B', accessFlags := 0x411 }
/-- [B -/
def k15 : Class := { plain "[B" (some 0) with kind := .array 14 .byte, interfaces := #[13, 4], accessFlags := 1041 }

/-- the primitive int -/
def k16 : Class := { plain "int" none with kind := .primitive 'I', accessFlags := 0x411 }
/-- [I -/
def k17 : Class := { plain "[I" (some 0) with kind := .array 16 .int, interfaces := #[13, 4], accessFlags := 1041 }

/-- [Lcom/example/modelwright/modelwright/statement/Cardinality; -/
def k18 : Class := { plain "[Lcom/example/modelwright/modelwright/statement/Cardinality;" (some 0) with kind := .array 6 (.object "com/example/modelwright/modelwright/statement/Cardinality"), interfaces := #[13, 4], accessFlags := 1041 }

def heap : Heap := #[{ cls := 6, slots := #[.ref 11, .ref 12, .ref 13, .ref 14, .null], vm := .statics 6 },
  { cls := 9, slots := #[.long 0, .int 1, .null, .int 0, .null, .int 0, .int 0], vm := .statics 9 },
  { cls := 11, slots := #[.null, .null, .null], vm := .statics 11 },
  { cls := 15, slots := #[.int 63], vm := .none },
  { cls := 15, slots := #[], vm := .none },
  { cls := 15, slots := #[.int 42], vm := .none },
  { cls := 15, slots := #[.int 43], vm := .none },
  { cls := 9, slots := #[.ref 3, .int 0, .int 0, .int 0], vm := .none },
  { cls := 9, slots := #[.ref 4, .int 0, .int 0, .int 0], vm := .none },
  { cls := 9, slots := #[.ref 5, .int 0, .int 0, .int 0], vm := .none },
  { cls := 9, slots := #[.ref 6, .int 0, .int 0, .int 0], vm := .none },
  { cls := 6, slots := #[.null, .int 0, .int 0, .ref 7], vm := .none },
  { cls := 6, slots := #[.null, .int 1, .int 0, .ref 8], vm := .none },
  { cls := 6, slots := #[.null, .int 2, .int 0, .ref 9], vm := .none },
  { cls := 6, slots := #[.null, .int 3, .int 0, .ref 10], vm := .none }]
def classes : Array Class := #[k0, k1, k2, k3, k4, k5, k6, k7, k8, k9, k10, k11, k12, k13, k14, k15, k16, k17, k18]
def interned : List (Array UInt16 × Addr) := []
def slotsUsed : Nat := 50
def theMethod : MethodId := ⟨1, 1⟩
def args0 : Array Value := #[.int 5]
def aboutOver (below : List Frame) : State where
  vm := { classes := classes, interned := interned.toArray }
  heap := heap
  slotsUsed := slotsUsed
  threads := #[{ frames := .invoking theMethod args0 :: below }]
def below0 : List Frame := [.native { method := ⟨0, 0⟩, args := #[] }]
def about1 : State := aboutOver below0
def p0 : Program := .bare "" "" ""
def e0 : Env := launch0.env 0 0 0
theorem w_frames : about1.frames = Frame.invoking theMethod args0 :: below0 := rfl
set_option maxRecDepth 65536 in
theorem w_args : argsFit about1.vm theMethod args0 = true := by decide +kernel
set_option maxRecDepth 65536 in
theorem w_heap : heapFits about1 = true := by decide +kernel
set_option maxRecDepth 65536 in
theorem w_runnable : about1.curStatus? = some .runnable := by decide +kernel
set_option maxRecDepth 65536 in
theorem w_alone : about1.alone = true := by decide +kernel
set_option maxRecDepth 65536 in
theorem w_named : about1.methodNamed? x = some theMethod := by decide +kernel
set_option maxRecDepth 65536 in
theorem w_hears : about1.hears theMethod below0 = true := by decide +kernel
set_option maxRecDepth 65536 in
theorem w_ripe : about1.ripe theMethod args0 below0 = true := by decide +kernel
theorem w_running : about1.status = .running := rfl
set_option maxRecDepth 65536 in
theorem w_room : about1.hasRoom e0.platform room_1 = true :=
  launch0.hasRoom_least _ room_1 (by decide +kernel) (by decide +kernel) (by decide +kernel) (by decide +kernel) (by decide +kernel) (by decide +kernel)
theorem allAtoms_all (ts : List Jvm.Cond) (a : Array Jvm.Value) (st : Jvm.State) : (allAtoms ts).before a st = ts.all (fun c => c.before a st) := by
  induction ts with
  | nil => rfl
  | cons c t ih =>
    show (Jvm.Cond.and c (allAtoms t)).before a st = _
    rw [Jvm.Cond.before_and, ih, List.all_cons]
def words1 : List Jvm.Cond := Jvm.Cond.code x code maxLocals ret :: tables_1
/-- a 'code' word, met by the world's own term for the bytes: nothing is compared byte by byte -/
theorem code_word {y : MethodName} {bytes : ByteArray} {mx : Nat} {rt : Option FieldType} {a : Array Value} {s : State} {m : MethodId} {meth : Method} {c : Code} (h1 : s.methodNamed? y = some m) (h2 : s.vm.method? m = some meth) (h3 : meth.code = some c) (h4 : c.code = bytes)
    (h5 : (c.maxLocals == mx && c.exceptionTable.isEmpty && decide (c.maxStack ≤ mostOperands) && decide (meth.sig.returnType = rt) && !meth.locks && decide (parseMethodDescriptor y.desc = some meth.sig)) = true) : (Jvm.Cond.code y bytes mx rt).before a s = true := by
  simp only [Bool.and_eq_true, beq_iff_eq, Bool.not_eq_true', decide_eq_true_eq] at h5
  obtain ⟨⟨⟨⟨⟨g1, g2⟩, g3⟩, g4⟩, g5⟩, g6⟩ := h5
  simp [Cond.before, Cond.holds, Cond.value, h1, h2, h3, h4, g1, g2, g3, g4, g5, g6]
def isCode : Jvm.Cond → Bool
  | .code _ _ _ _ => true
  | _ => false
theorem all_split {L : List Jvm.Cond} {P : Jvm.Cond → Bool} (h1 : L.all (fun c => isCode c || P c) = true) (h2 : ∀ c ∈ L.filter isCode, P c = true) : L.all P = true := by
  refine List.all_eq_true.mpr fun c hc => ?_
  have h := List.all_eq_true.mp h1 c hc
  rcases Bool.eq_false_or_eq_true (isCode c) with hi | hi
  · exact h2 c (List.mem_filter.mpr ⟨hc, hi⟩)
  · simpa [hi] using h
set_option maxRecDepth 65536 in
theorem w_c0 : (Jvm.Cond.code x code maxLocals ret).before args0 about1 = true := code_word (m := ⟨1, 1⟩) (meth := k1m1) (c := k1c1) (by decide +kernel) rfl rfl rfl (by decide +kernel)
set_option maxRecDepth 65536 in
theorem w_c1 : (Jvm.Cond.code ({ cls := "com/example/modelwright/modelwright/statement/Cardinality", name := "suffix", desc := "()Ljava/lang/String;" } : Jvm.MethodName) prog_81_method_6_code (1 : Nat) (Option.some (Jvm.ClassFile.FieldType.object "java/lang/String"))).before args0 about1 = true := code_word (m := ⟨6, 1⟩) (meth := k6m1) (c := k6c1) (by decide +kernel) rfl rfl rfl (by decide +kernel)
set_option maxRecDepth 65536 in
theorem w_c2 : (Jvm.Cond.code ({ cls := "java/lang/String", name := "isEmpty", desc := "()Z" } : Jvm.MethodName) jdk_42_method_55_code (1 : Nat) (Option.some Jvm.ClassFile.FieldType.boolean)).before args0 about1 = true := code_word (m := ⟨9, 1⟩) (meth := k9m1) (c := k9c1) (by decide +kernel) rfl rfl rfl (by decide +kernel)
set_option maxRecDepth 65536 in
theorem w_c3 : (Jvm.Cond.code ({ cls := "java/lang/String", name := "equals", desc := "(Ljava/lang/Object;)Z" } : Jvm.MethodName) jdk_42_method_66_code (3 : Nat) (Option.some Jvm.ClassFile.FieldType.boolean)).before args0 about1 = true := code_word (m := ⟨9, 2⟩) (meth := k9m2) (c := k9c2) (by decide +kernel) rfl rfl rfl (by decide +kernel)
set_option maxRecDepth 65536 in
theorem w_c4 : (Jvm.Cond.code ({ cls := "java/lang/StringLatin1", name := "equals", desc := "([B[B)Z" } : Jvm.MethodName) jdk_43_method_13_code (3 : Nat) (Option.some Jvm.ClassFile.FieldType.boolean)).before args0 about1 = true := code_word (m := ⟨10, 1⟩) (meth := k10m1) (c := k10c1) (by decide +kernel) rfl rfl rfl (by decide +kernel)
set_option maxRecDepth 65536 in
theorem w_c5 : (Jvm.Cond.code ({ cls := "com/example/modelwright/modelwright/statement/Cardinality", name := "required", desc := "()Z" } : Jvm.MethodName) prog_81_method_4_code (1 : Nat) (Option.some Jvm.ClassFile.FieldType.boolean)).before args0 about1 = true := code_word (m := ⟨6, 0⟩) (meth := k6m0) (c := k6c0) (by decide +kernel) rfl rfl rfl (by decide +kernel)
def codes1 : List Jvm.Cond := [Jvm.Cond.code x code maxLocals ret, Jvm.Cond.code ({ cls := "com/example/modelwright/modelwright/statement/Cardinality", name := "suffix", desc := "()Ljava/lang/String;" } : Jvm.MethodName) prog_81_method_6_code (1 : Nat) (Option.some (Jvm.ClassFile.FieldType.object "java/lang/String")), Jvm.Cond.code ({ cls := "java/lang/String", name := "isEmpty", desc := "()Z" } : Jvm.MethodName) jdk_42_method_55_code (1 : Nat) (Option.some Jvm.ClassFile.FieldType.boolean), Jvm.Cond.code ({ cls := "java/lang/String", name := "equals", desc := "(Ljava/lang/Object;)Z" } : Jvm.MethodName) jdk_42_method_66_code (3 : Nat) (Option.some Jvm.ClassFile.FieldType.boolean), Jvm.Cond.code ({ cls := "java/lang/StringLatin1", name := "equals", desc := "([B[B)Z" } : Jvm.MethodName) jdk_43_method_13_code (3 : Nat) (Option.some Jvm.ClassFile.FieldType.boolean), Jvm.Cond.code ({ cls := "com/example/modelwright/modelwright/statement/Cardinality", name := "required", desc := "()Z" } : Jvm.MethodName) prog_81_method_4_code (1 : Nat) (Option.some Jvm.ClassFile.FieldType.boolean)]
set_option maxRecDepth 65536 in
theorem codes_eq : words1.filter isCode = codes1 := rfl
theorem w_codes : ∀ c ∈ words1.filter isCode, c.before args0 about1 = true := by
  rw [codes_eq]
  intro c hc
  simp only [codes1, List.mem_cons, List.not_mem_nil, or_false] at hc
  rcases hc with rfl | rfl | rfl | rfl | rfl | rfl
  · exact w_c0
  · exact w_c1
  · exact w_c2
  · exact w_c3
  · exact w_c4
  · exact w_c5
set_option maxRecDepth 65536 in
theorem w_t1 : (words1.take 24).all (fun c => isCode c || c.before args0 about1) = true := by decide +kernel
set_option maxRecDepth 65536 in
theorem w_t2 : ((words1.drop 24).take 24).all (fun c => isCode c || c.before args0 about1) = true := by decide +kernel
set_option maxRecDepth 65536 in
theorem w_t3 : ((words1.drop 24).drop 24).all (fun c => isCode c || c.before args0 about1) = true := by decide +kernel
theorem w_tables : (allAtoms (Jvm.Cond.code x code maxLocals ret :: tables_1)).before args0 about1 = true := by
  rw [allAtoms_all]
  show words1.all (fun c => c.before args0 about1) = true
  refine all_split ?_ w_codes
  rw [← List.take_append_drop 24 words1, List.all_append, w_t1, ← List.take_append_drop 24 (words1.drop 24), List.all_append, w_t2, w_t3]
  rfl
set_option maxRecDepth 65536 in
theorem w_rest : rest_1_c.before args0 about1 = true := by decide +kernel
set_option maxRecDepth 65536 in
theorem w_case : (Jvm.Cond.and given_1 narrow_1).before args0 about1 = true := by decide +kernel
set_option maxRecDepth 65536 in
theorem w_consts : constsHeld consts_1 about1 := Jvm.Lit.constsHeldB_iff.mp (by decide +kernel)
theorem w_applies : (headSpec (Jvm.Cond.code x code maxLocals ret :: tables_1) room_1).applies x e0.platform about1 = true :=
  (Spec.applies_iff w_frames).mpr ⟨w_running, w_runnable, w_alone, w_named, w_hears, w_ripe, w_room, w_tables⟩
theorem atStart : AtStart classFile x code maxLocals ret World_1 tables_1 room_1 Calls_1 rest_1 Pre_1 launch0 p0 e0 about1 theMethod args0 below0 :=
  ⟨lists_1, trivial, launch0.admits_env _ _ _, launch0.least_env, fairChoices_fair.cas, fairChoices_fair.clock, w_frames, w_args, w_heap, w_applies, ⟨w_consts, trivial⟩, w_rest, w_case⟩
end start1
theorem witness_1 : WitnessClaimed_1 := ⟨start1.p0, start1.e0, start1.about1, start1.theMethod, start1.args0, start1.below0, start1.atStart⟩
end Jvm.Pilot.@@N@@
