import JvmDerived
import JvmDerived.Pilot.@@N@@Statement
import JvmDerived.Pilot.@@N@@Code
set_option linter.unusedVariables false
set_option linter.unusedSimpArgs false
namespace Jvm.RoadKit
open Sem ClassFile Op Lib Jvm.Stand Jvm.Free Jvm.LawKit
section New
variable {p : Program} {l : Launch} {e : Env} {R : Room} {s : State} {m : MethodId} {args : Array Value} {below : List Frame} {meth : Method} {c : Code} {T : State} {locs : List Loc} {cells slots : Nat}
theorem retI (X : Stand p l e R s m args below meth c T locs cells slots) (hx : p.tables.exec = Jvm.exec) {pc : Nat} {Ls : Array Slot} {z : Int32} {rest : List Value} (hret : meth.sig.returnType = some .int) (hd : decode c.code pc = .ok (.ireturn, 1)) {fs : List Frame}
    (hl : ∀ (f : JFrame) (acts : List Action), f.method = m → f.locked = none → f.entered = [] → (doReturn e (T.setTop f) acts (some (.int z))).1 = T.setFrames fs) : Steps p.tables e below (T.setTop (mkF m pc Ls (.int z :: rest))) (T.setFrames fs) := by
  have hm' : T.vm.method? m = some meth := X.method'
  have hn : narrow .int (.int z) = .int z := rfl
  show Steps p.tables e below (T.setTop { method := m, pc := pc, locals := Ls, stack := _ :: rest, locked := none }) _
  jvm_step X.here [X.here.top, hx, hd, hm', hret, hn]
  first | (intro acts; rw [hl _ acts rfl rfl rfl]) | rw [hl _ _ rfl rfl rfl]
  exact Steps.refl _
/-- the run from A comes to its end, and there Q holds -/
def own_G (tb : Tables) (e : Env) (below : List Frame) (s : State) (Q : Option Value → Heap → List Loc → Prop) (C S : Nat) (A : State) : Prop :=
  ∃ s₂ o, Steps tb e below A s₂ ∧ s₂.status = .running ∧ Ended s₂ below o ∧ ∃ v L, o = .returned v ∧ Q v s₂.heap L ∧ FrameEnd s o s₂ L C S
theorem own_by {tb : Tables} {Q : Option Value → Heap → List Loc → Prop} {C S : Nat} {A B : State} (st : ∀ t, Steps tb e below B t → Steps tb e below A t) (k : own_G tb e below s Q C S B) : own_G tb e below s Q C S A := by
  obtain ⟨s₂, o, h, r⟩ := k
  exact ⟨s₂, o, st _ h, r⟩
theorem own_end (X : Stand p l e R s m args below meth c T locs cells slots) {v : Option Value} (hv : meth.sig.returnType = none → v = none) (hlk : meth.locks = false) {Q : Option Value → Heap → List Loc → Prop} {C S : Nat} {A : State}
    (st : ∀ fs, (∀ (f : JFrame) (acts : List Action), f.method = m → f.locked = none → f.entered = [] → (doReturn e (T.setTop f) acts v).1 = T.setFrames fs) → Steps p.tables e below A (T.setFrames fs))
    (hQ : Q v T.heap locs) (hc : cells ≤ C) (hs : slots ≤ S) : own_G p.tables e below s Q C S A := by
  obtain ⟨fs, hr, hrun, hended, hW, hsame⟩ := X.leave hv hlk
  exact ⟨_, _, st fs hr, hrun, hended, _, _, rfl, hQ, ⟨_, rfl⟩, hW, hsame.mono hc hs⟩
theorem own_lremM {tb : Tables} [Ours tb] {target : State} {g : JFrame} (h : At T m c below) (hx : tb.exec = Jvm.exec) (hg : g.method = m) {x y : Int64} {rest : List Value} (hd : decode c.code g.pc = .ok (.lrem, 1)) (hs : g.stack = .long y :: .long x :: rest) (hy : y ≠ 0)
    (hr : Steps tb e below (T.setTop { g with pc := g.pc + 1, stack := .long (x % y) :: rest }) target) : Steps tb e below (T.setTop g) target := by
  have q : x - x / y * y = x % y := lrem_mod x y
  exact XT.lrem h hx hg hd hs hy (by rw [q]; exact hr)
variable {Z : State} {a0 : Array Value} {h h' : Heap} {a b : Addr} {ty : FieldType} {n : Nat} {f : Nat → Value} {sl : Nat} {v : Value} {ws : List Addr}
/-- the array at a has n places, place k holds f k -/
def own_A (Z : State) (h : Heap) (a : Addr) (ty : FieldType) (n : Nat) (f : Nat → Value) : Prop := ∃ c : Cell, Arr Z h a c ty ∧ c.slots.size = n ∧ ∀ k, k < n → c.slots[k]? = some (f k)
abbrev own_AJ (Z : State) (h : Heap) (a : Addr) (n : Nat) (F : Nat → Int64) : Prop := own_A Z h a .long n (fun k => .long (F k))
abbrev own_AI (Z : State) (h : Heap) (a : Addr) (n : Nat) (F : Nat → Int32) : Prop := own_A Z h a .int n (fun k => .int (F k))
abbrev own_AB (Z : State) (h : Heap) (a : Addr) (n : Nat) (F : Nat → Int32) : Prop := own_A Z h a .byte n (fun k => .int (F k))
def own_upd {α : Type} (f : Nat → α) (k : Nat) (x : α) : Nat → α := fun i => if i = k then x else f i
theorem own_A.lt (F : own_A Z h a ty n f) : a < h.size := by obtain ⟨c, A, -⟩ := F; exact A.lt
theorem own_A.ext (F : own_A Z h a ty n f) (E : Ext h h') : own_A Z h' a ty n f := by obtain ⟨c, A, r⟩ := F; exact ⟨c, A.ext E, r⟩
theorem own_A.other (F : own_A Z h b ty n f) (W : Wr h h' a sl v) (q : b ≠ a) : own_A Z h' b ty n f := by obtain ⟨c, A, r⟩ := F; exact ⟨c, A.other W q, r⟩
theorem own_A.keep (F : own_A Z h a ty n f) (K : Keep h h' ws) (q : a ∉ ws) : own_A Z h' a ty n f := by obtain ⟨c, A, r⟩ := F; exact ⟨c, ⟨K.2.1 a c A.1 q, A.2⟩, r⟩
theorem own_A.cast {f' : Nat → Value} (F : own_A Z h a ty n f) (q : ∀ k, k < n → f k = f' k) : own_A Z h a ty n f' := by obtain ⟨c, A, S, H⟩ := F; exact ⟨c, A, S, fun k hk => by rw [H k hk, q k hk]⟩
theorem own_idx {j : Int32} {k n : Nat} (hk : j.toInt = k) (hn : k < n) {c : Cell} (S : c.slots.size = n) : ¬ (j < 0 ∨ c.slots.size ≤ j.toNatClampNeg) ∧ j.toNatClampNeg = k := by
  have e : j.toNatClampNeg = k := by show j.toInt.toNat = k; rw [hk]; rfl
  refine ⟨?_, e⟩
  rw [e, S]
  rintro (q | q)
  · rw [Int32.lt_iff_toInt_lt] at q; have : (0 : Int32).toInt = 0 := by decide
    omega
  · omega
theorem own_A.set {c : Cell} (A : Arr Z h a c ty) (S : c.slots.size = n) (H : ∀ k, k < n → c.slots[k]? = some (f k)) {j : Nat} (W : Wr h h' a j v) (hj : j < n) {f' : Nat → Value} (q : ∀ k, k < n → f' k = if k = j then v else f k) : own_A Z h' a ty n f' := by
  refine ⟨c.setSlot j v, A.same W, by rw [sz_set]; exact S, fun i hi => ?_⟩
  rw [q i hi]
  by_cases e : i = j
  · subst e; simp [Cell.setSlot, S, hi]
  · rw [if_neg e, ← H i hi]; show (c.slots.setIfInBounds j v)[i]? = _; exact Array.getElem?_setIfInBounds_ne (Ne.symm e)
theorem own_ldJ (X : Stand p l e R s m args below meth c T locs cells slots) (hx : p.tables.exec = Jvm.exec) (hZ : Z.Warmed39 s.vm) (eT : T.heap = h) {F : Nat → Int64} (V : own_AJ Z h a n F) {j : Int32} {k : Nat} (hk : j.toInt = k) (hn : k < n) {g : JFrame} (hg : g.method = m) {rest : List Value} (hs : g.stack = .int j :: .ref a :: rest) (hd : decode c.code g.pc = .ok (.laload, 1)) :
    ∀ target, Steps p.tables e below (T.setTop { g with pc := g.pc + 1, stack := .long (F k) :: rest }) target → Steps p.tables e below (T.setTop g) target := by
  obtain ⟨c, A, S, H⟩ := V
  obtain ⟨q, e'⟩ := own_idx hk hn S
  intro target hr
  exact X.laload hx (by rw [eT]; exact A.1) (State.isArrayOf_alike hZ.alike A.2.1) A.2.2 q (v := .long (F k)) (by rw [e']; exact H k hn) hg hs hd target hr
theorem own_ldI (X : Stand p l e R s m args below meth c T locs cells slots) (hx : p.tables.exec = Jvm.exec) (hZ : Z.Warmed39 s.vm) (eT : T.heap = h) {F : Nat → Int32} (V : own_AI Z h a n F) {j : Int32} {k : Nat} (hk : j.toInt = k) (hn : k < n) {g : JFrame} (hg : g.method = m) {rest : List Value} (hs : g.stack = .int j :: .ref a :: rest) (hd : decode c.code g.pc = .ok (.iaload, 1)) :
    ∀ target, Steps p.tables e below (T.setTop { g with pc := g.pc + 1, stack := .int (F k) :: rest }) target → Steps p.tables e below (T.setTop g) target := by
  obtain ⟨c, A, S, H⟩ := V
  obtain ⟨q, e'⟩ := own_idx hk hn S
  intro target hr
  exact X.iaload hx (by rw [eT]; exact A.1) (State.isArrayOf_alike hZ.alike A.2.1) A.2.2 q (v := .int (F k)) (by rw [e']; exact H k hn) hg hs hd target hr
theorem own_ldB (X : Stand p l e R s m args below meth c T locs cells slots) (hx : p.tables.exec = Jvm.exec) (hZ : Z.Warmed39 s.vm) (eT : T.heap = h) {F : Nat → Int32} (V : own_AB Z h a n F) {j : Int32} {k : Nat} (hk : j.toInt = k) (hn : k < n) {g : JFrame} (hg : g.method = m) {rest : List Value} (hs : g.stack = .int j :: .ref a :: rest) (hd : decode c.code g.pc = .ok (.baload, 1)) :
    ∀ target, Steps p.tables e below (T.setTop { g with pc := g.pc + 1, stack := .int (F k) :: rest }) target → Steps p.tables e below (T.setTop g) target := by
  obtain ⟨c, A, S, H⟩ := V
  obtain ⟨q, e'⟩ := own_idx hk hn S
  intro target hr
  exact X.baloadBytes hx (by rw [eT]; exact A.1) (State.isArrayOf_alike hZ.alike A.2.1) A.2.2 q (v := .int (F k)) (by rw [e']; exact H k hn) hg hs hd target hr
theorem own_stJ (X : Stand p l e R s m args below meth c T locs cells slots) (hx : p.tables.exec = Jvm.exec) (hZ : Z.Warmed39 s.vm) (eT : T.heap = h) {F : Nat → Int64} (V : own_AJ Z h a n F) {j : Int32} {x : Int64} {k : Nat} (hk : j.toInt = k) (hn : k < n) {g : JFrame} (hg : g.method = m) {rest : List Value} (hs : g.stack = .long x :: .int j :: .ref a :: rest) (hd : decode c.code g.pc = .ok (.lastore, 1)) :
    ∃ T' h', Stand p l e R s m args below meth c T' (locs ++ [⟨a, j.toNatClampNeg⟩]) cells slots ∧ T'.heap = h' ∧ Wr h h' a j.toNatClampNeg (.long x) ∧ own_AJ Z h' a n (own_upd F k x) ∧ ∀ target, Steps p.tables e below (T'.setTop { g with pc := g.pc + 1, stack := rest }) target → Steps p.tables e below (T.setTop g) target := by
  obtain ⟨c, A, S, H⟩ := V
  obtain ⟨q, e'⟩ := own_idx hk hn S
  obtain ⟨T', h', X', e1, W, st⟩ := stJ X hx hZ eT A q hg hs hd
  exact ⟨T', h', X', e1, W, own_A.set A S H W (by rw [e']; exact hn) (fun i _ => by rw [e']; show Value.long (if i = k then x else F i) = _; by_cases z : i = k <;> simp [z]), st⟩
theorem own_stI (X : Stand p l e R s m args below meth c T locs cells slots) (hx : p.tables.exec = Jvm.exec) (hZ : Z.Warmed39 s.vm) (eT : T.heap = h) {F : Nat → Int32} (V : own_AI Z h a n F) {j : Int32} {x : Int32} {k : Nat} (hk : j.toInt = k) (hn : k < n) {g : JFrame} (hg : g.method = m) {rest : List Value} (hs : g.stack = .int x :: .int j :: .ref a :: rest) (hd : decode c.code g.pc = .ok (.iastore, 1)) :
    ∃ T' h', Stand p l e R s m args below meth c T' (locs ++ [⟨a, j.toNatClampNeg⟩]) cells slots ∧ T'.heap = h' ∧ Wr h h' a j.toNatClampNeg (.int x) ∧ own_AI Z h' a n (own_upd F k x) ∧ ∀ target, Steps p.tables e below (T'.setTop { g with pc := g.pc + 1, stack := rest }) target → Steps p.tables e below (T.setTop g) target := by
  obtain ⟨c, A, S, H⟩ := V
  obtain ⟨q, e'⟩ := own_idx hk hn S
  obtain ⟨T', h', X', e1, W, st⟩ := stI X hx hZ eT A q hg hs hd
  exact ⟨T', h', X', e1, W, own_A.set A S H W (by rw [e']; exact hn) (fun i _ => by rw [e']; show Value.int (if i = k then x else F i) = _; by_cases z : i = k <;> simp [z]), st⟩
theorem own_stB (X : Stand p l e R s m args below meth c T locs cells slots) (hx : p.tables.exec = Jvm.exec) (hZ : Z.Warmed39 s.vm) (eT : T.heap = h) {F : Nat → Int32} (V : own_AB Z h a n F) {j : Int32} {x : Int32} {k : Nat} (hk : j.toInt = k) (hn : k < n) {g : JFrame} (hg : g.method = m) {rest : List Value} (hs : g.stack = .int x :: .int j :: .ref a :: rest) (hd : decode c.code g.pc = .ok (.bastore, 1)) :
    ∃ T' h', Stand p l e R s m args below meth c T' (locs ++ [⟨a, j.toNatClampNeg⟩]) cells slots ∧ T'.heap = h' ∧ Wr h h' a j.toNatClampNeg (.int (nar .byte x)) ∧ own_AB Z h' a n (own_upd F k (nar .byte x)) ∧ ∀ target, Steps p.tables e below (T'.setTop { g with pc := g.pc + 1, stack := rest }) target → Steps p.tables e below (T.setTop g) target := by
  obtain ⟨c, A, S, H⟩ := V
  obtain ⟨q, e'⟩ := own_idx hk hn S
  obtain ⟨T', h', X', e1, W, st⟩ := stB X hx hZ eT A q hg hs hd
  exact ⟨T', h', X', e1, W, own_A.set A S H W (by rw [e']; exact hn) (fun i _ => by rw [e']; show Value.int (if i = k then nar .byte x else F i) = _; by_cases z : i = k <;> simp [z]), st⟩
theorem own_newA {cA : ClassId} {z : Int32} {N : Nat} (A : Arr Z h a (newA cA ty z) ty) (hz : z.toInt = N) : own_A Z h a ty N (fun _ => defaultValue ty) := by
  have e : z.toNatClampNeg = N := by show z.toInt.toNat = N; rw [hz]; rfl
  refine ⟨_, A, by rw [sz_new]; exact e, fun k hk => ?_⟩
  show (Array.replicate z.toNatClampNeg (defaultValue ty))[k]? = _
  rw [e]; simp [hk]
theorem own_neg {z : Int32} {N : Nat} (hz : z.toInt = N) : ¬ z < 0 ∧ z.toNatClampNeg = N := by
  refine ⟨fun q => ?_, by show z.toInt.toNat = N; rw [hz]; rfl⟩
  rw [Int32.lt_iff_toInt_lt] at q; have : (0 : Int32).toInt = 0 := by decide
  omega
theorem own_newJ (X : Stand p l e R s m args below meth c T locs cells slots) (hx : p.tables.exec = Jvm.exec) (hZ : Z.Warmed39 s.vm) (w : (Cond.arrayClass .long).before a0 Z = true) (eT : T.heap = h) {g : JFrame} (hg : g.method = m) (hd : decode c.code g.pc = .ok (.newarray .long, 2)) {z : Int32} {rest : List Value} (hs : g.stack = .int z :: rest)
    {N : Nat} (hz : z.toInt = N) {cap : Nat} (hcap : N ≤ cap) (hb : cap * 8 ≤ 536870912) (hc : cells + 1 ≤ R.cells) (hl : slots + cap ≤ R.slots) :
    ∃ T' h', Stand p l e R s m args below meth c T' locs (cells + 1) (slots + cap) ∧ T'.heap = h' ∧ Ext h h' ∧ own_AJ Z h' h.size N (fun _ => 0) ∧ ∀ target, Steps p.tables e below (T'.setTop { g with pc := g.pc + 2, stack := .ref h.size :: rest }) target → Steps p.tables e below (T.setTop g) target := by
  obtain ⟨q1, q2⟩ := own_neg hz
  obtain ⟨T', h', cA, X', e1, E, A, st⟩ := newP X hx hZ (aty := .long) w eT hg hd hs q1 (cap := cap) (by rw [q2]; exact hcap) hb hc hl
  exact ⟨T', h', X', e1, E, own_newA A hz, st⟩
theorem own_newI (X : Stand p l e R s m args below meth c T locs cells slots) (hx : p.tables.exec = Jvm.exec) (hZ : Z.Warmed39 s.vm) (w : (Cond.arrayClass .int).before a0 Z = true) (eT : T.heap = h) {g : JFrame} (hg : g.method = m) (hd : decode c.code g.pc = .ok (.newarray .int, 2)) {z : Int32} {rest : List Value} (hs : g.stack = .int z :: rest)
    {N : Nat} (hz : z.toInt = N) {cap : Nat} (hcap : N ≤ cap) (hb : cap * 8 ≤ 536870912) (hc : cells + 1 ≤ R.cells) (hl : slots + cap ≤ R.slots) :
    ∃ T' h', Stand p l e R s m args below meth c T' locs (cells + 1) (slots + cap) ∧ T'.heap = h' ∧ Ext h h' ∧ own_AI Z h' h.size N (fun _ => 0) ∧ ∀ target, Steps p.tables e below (T'.setTop { g with pc := g.pc + 2, stack := .ref h.size :: rest }) target → Steps p.tables e below (T.setTop g) target := by
  obtain ⟨q1, q2⟩ := own_neg hz
  obtain ⟨T', h', cA, X', e1, E, A, st⟩ := newP X hx hZ (aty := .int) w eT hg hd hs q1 (cap := cap) (by rw [q2]; exact hcap) hb hc hl
  exact ⟨T', h', X', e1, E, own_newA A hz, st⟩
theorem own_newB (X : Stand p l e R s m args below meth c T locs cells slots) (hx : p.tables.exec = Jvm.exec) (hZ : Z.Warmed39 s.vm) (w : (Cond.arrayClass .byte).before a0 Z = true) (eT : T.heap = h) {g : JFrame} (hg : g.method = m) (hd : decode c.code g.pc = .ok (.newarray .byte, 2)) {z : Int32} {rest : List Value} (hs : g.stack = .int z :: rest)
    {N : Nat} (hz : z.toInt = N) {cap : Nat} (hcap : N ≤ cap) (hb : cap * 8 ≤ 536870912) (hc : cells + 1 ≤ R.cells) (hl : slots + cap ≤ R.slots) :
    ∃ T' h', Stand p l e R s m args below meth c T' locs (cells + 1) (slots + cap) ∧ T'.heap = h' ∧ Ext h h' ∧ own_AB Z h' h.size N (fun _ => 0) ∧ ∀ target, Steps p.tables e below (T'.setTop { g with pc := g.pc + 2, stack := .ref h.size :: rest }) target → Steps p.tables e below (T.setTop g) target := by
  obtain ⟨q1, q2⟩ := own_neg hz
  obtain ⟨T', h', cA, X', e1, E, A, st⟩ := newP X hx hZ (aty := .byte) w eT hg hd hs q1 (cap := cap) (by rw [q2]; exact hcap) hb hc hl
  exact ⟨T', h', X', e1, E, own_newA A hz, st⟩
theorem own_len (X : Stand p l e R s m args below meth c T locs cells slots) (hx : p.tables.exec = Jvm.exec) (hZ : Z.Warmed39 s.vm) (eT : T.heap = h) (V : own_A Z h a ty n f) {z : Int32} (hz : z.toInt = n) {g : JFrame} (hg : g.method = m) {rest : List Value} (hs : g.stack = .ref a :: rest) (hd : decode c.code g.pc = .ok (.arraylength, 1)) :
    ∀ target, Steps p.tables e below (T.setTop { g with pc := g.pc + 1, stack := .int z :: rest }) target → Steps p.tables e below (T.setTop g) target := by
  obtain ⟨c, A, S, H⟩ := V
  obtain ⟨q1, q2⟩ := own_neg hz
  intro target hr
  exact X.arraylength hx (by rw [eT]; exact A.1) (State.isArrayOf_alike hZ.alike A.2.1) hg hs hd target (by rw [len_of (S.trans q2.symm) q1]; exact hr)
/-- own_G where a String constant may have been interned on the way -/
def own_GW (tb : Tables) (e : Env) (below : List Frame) (s : State) (Q : Option Value → Heap → List Loc → Prop) (C S : Nat) (A : State) : Prop :=
  ∃ s₂ o, Steps tb e below A s₂ ∧ s₂.status = .running ∧ Ended s₂ below o ∧ ∃ v L, o = .returned v ∧ Q v s₂.heap L ∧ ReturnedEndW s o s₂ L C S
theorem own_byW {tb : Tables} {Q : Option Value → Heap → List Loc → Prop} {C S : Nat} {A B : State} (st : ∀ t, Steps tb e below B t → Steps tb e below A t) (k : own_GW tb e below s Q C S B) : own_GW tb e below s Q C S A := by
  obtain ⟨s₂, o, h, r⟩ := k
  exact ⟨s₂, o, st _ h, r⟩
theorem own_toW {tb : Tables} {Q : Option Value → Heap → List Loc → Prop} {C S : Nat} {A : State} {vm1 : Vm} {k1 : Nat} (hS : s.Since vm1 k1) (k : own_G tb e below (s.setVm vm1) (fun v h L => Q v h L ∧ k1 ≤ h.size) C S A) : own_GW tb e below s Q C S A := by
  obtain ⟨s₂, o, h, h1, h2, v, L, h3, ⟨hQ, hk⟩, ⟨h4, h5, h6⟩⟩ := k
  obtain ⟨a, b, c'⟩ := hS.ended (U := s₂) h5 hk h6
  exact ⟨s₂, o, h, h1, h2, v, L, h3, hQ, h4, a, b, c'⟩
end New
end Jvm.RoadKit
namespace Jvm.Pilot.@@N@@
open Jvm Jvm.ClassFile Sem Op Lib Jvm.Free Jvm.Stand Jvm.LawKit Jvm.RoadKit Bundle Jvm.Pilot.@@N@@.Jvm.D
def own_ack (f : Int32) : Int32 := if (f &&& (16 : Int32)) = (0 : Int32) then 0 else 1
theorem own_all : ∀ k : Fin 256, own_ack (Int32.ofNat k.val) = if ((Int32.ofNat k.val / (16 : Int32)) % (2 : Int32)) = (1 : Int32) then 1 else 0 := by decide +kernel
theorem own_nat {x : Int32} {a : Nat} (h : x.toInt = a) : x = Int32.ofNat a := by
  have r := rng32 x
  rw [← Int32.toInt_inj, h, Int32.toInt_ofNat_of_lt (by omega)]
theorem own_f (x : Int32) : ∃ k : Nat, (x &&& (255 : Int32)).toInt = k ∧ k < 256 := by
  have h := c_mask x (255 : Int32) 8 (by decide) (by decide)
  exact ⟨(x &&& (255 : Int32)).toInt.toNat, by omega, by omega⟩
theorem own_s (x : Int64) : ¬ ((x &&& (4294967295 : Int64)) < (0 : Int64)) ∧ ¬ ((4294967295 : Int64) < (x &&& (4294967295 : Int64))) := by
  have h := c_maskL x (4294967295 : Int64) 32 (by decide) (by decide)
  rw [Int64.lt_iff_toInt_lt, Int64.lt_iff_toInt_lt, h, show (0 : Int64).toInt = 0 by decide, show (4294967295 : Int64).toInt = 4294967295 by decide]
  omega
theorem own_fin {f : Int32} {k : Nat} (h : f.toInt = k) (hk : k < 256) : own_ack f = if ((f / (16 : Int32)) % (2 : Int32)) = (1 : Int32) then 1 else 0 := by
  rw [own_nat h]; exact own_all ⟨k, hk⟩
theorem own_fr {f : Int32} {k : Nat} (h : f.toInt = k) (hk : k < 256) : ¬ (f < (0 : Int32)) ∧ ¬ ((255 : Int32) < f) := by
  rw [Int32.lt_iff_toInt_lt, Int32.lt_iff_toInt_lt, h, show (0 : Int32).toInt = 0 by decide, show (255 : Int32).toInt = 255 by decide]; omega
theorem own_d2_0 : decode jdk_30_method_1_code 0 = .ok (.aload_n 0, 1) := by decide +kernel
theorem own_d2_1 : decode jdk_30_method_1_code 1 = .ok (.invokespecial 1, 3) := by decide +kernel
theorem own_d2_4 : decode jdk_30_method_1_code 4 = .ok (.return_, 1) := by decide +kernel
theorem own_pn0 : plainName "java/lang/Record" = true := by first | (simp [plainName, overriddenIn]; done) | decide +kernel
theorem own_ef1 (m : MethodId) (x0 : Addr) : entryFrame m #[(.ref x0)] 1 = mkF m 0 #[.val (.ref x0)] [] := by first | (simp [entryFrame, mkF, argsToLocals, Value.category]; done) | rfl
def own_Q1 (Z : State) (a0 : Addr) (h0 : Heap) (n0 : Nat) (v : Option Value) (h : Heap) (L : List Loc) : Prop := v = none ∧ Fr n0 L ∧ h = h0
set_option maxRecDepth 65536 in
set_option maxHeartbeats 40000000 in
theorem rm1 (l : Launch) (Z : State) (aw : Array Value) (hw : ∀ d ∈ tables_1, d.before aw Z = true) (ws : List Jvm.Cond) (a0 : Addr) (h0 : Heap) (n0 : Nat) (Z0 : n0 ≤ h0.size) :
    MetFree l (⟨"java/lang/Record", "<init>", "()V"⟩ : MethodName) (head1 (Jvm.Cond.code (⟨"java/lang/Record", "<init>", "()V"⟩ : MethodName) jdk_30_method_1_code 1 none :: ws) ({ frames := 1, cells := 0, slots := 0, locals := 12 } : Room)) (fun a U => a = #[(.ref a0)] ∧ Z.Warmed39 U.vm ∧ U.heap = h0) (fun _ _ _ _ _ => True) (fun _ U o U' => ∃ v L, o = .returned v ∧ own_Q1 Z a0 h0 n0 v U'.heap L ∧ FrameEnd U o U' L ({ frames := 1, cells := 0, slots := 0, locals := 12 } : Room).cells ({ frames := 1, cells := 0, slots := 0, locals := 12 } : Room).slots) := by
  refine MetFree.of_bodySF (plainFor_of_name own_pn0) hisR ?_
  intro p e s m args below meth c s₁ Bd hml0 hP hK
  obtain ⟨rfl, hZ, hh⟩ := hP
  have hx := Bd.exec
  have hby := Bd.bytes
  have hml : c.maxLocals = 1 := hml0
  have hown : s.vm.findClass "java/lang/Record" = some m.cls := findClass_of_methodNamed Bd.named
  have hnm := (name_of_methodNamed Bd.named Bd.method).1
  have X0 : Stand p l e ({ frames := 1, cells := 0, slots := 0, locals := 12 } : Room) s m #[(.ref a0)] below meth c s₁ [] 0 0 := Stand.of_body Bd
  have e0 : s₁.heap = h0 := by rw [← hh, Bd.state]; rfl
  have N0 := Fr.nil n0
  show own_G p.tables e below s (own_Q1 Z a0 h0 n0) ({ frames := 1, cells := 0, slots := 0, locals := 12 } : Room).cells ({ frames := 1, cells := 0, slots := 0, locals := 12 } : Room).slots (s₁.setTop (entryFrame m #[(.ref a0)] 1))
  refine own_by (fun _ k => castTop (own_ef1 m a0) k) ?_
  show own_G _ _ _ _ _ _ _ (s₁.setTop (mkF m 0 #[.val (.ref a0)] []))
  refine own_by (fun _ k => XS.aloadN X0.here hx rfl (hb hby own_d2_0) rfl rfl k) ?_
  show own_G _ _ _ _ _ _ _ (s₁.setTop (mkF m 1 #[.val (.ref a0)] [(.ref a0)]))
  obtain ⟨T1, X1, e1, st1⟩ := initO X0 hx hZ hown (hw _ (List.mem_of_getElem? (i := 20) rfl)) (hw _ (List.mem_of_getElem? (i := 21) rfl)) (hw _ (List.mem_of_getElem? (i := 22) rfl)) e0 (g := (mkF m 1 #[.val (.ref a0)] [(.ref a0)])) rfl (by rw [hml]; rfl) rfl (hb hby own_d2_1) (by decide) (W := 0) (by show 2 * 0 + _ ≤ _; exact Nat.le_of_eq rfl) (by decide)
  refine own_by st1 ?_
  show own_G _ _ _ _ _ _ _ (T1.setTop (mkF m 4 #[.val (.ref a0)] []))
  exact own_end X1 (v := none) (fun _ => rfl) (BodyLoose.notSynchronized Bd) (fun fs hr => X1.returnOut hx Bd.returns (hb hby own_d2_4) hr) (by rw [e1]; exact ⟨rfl, N0, rfl⟩) (by decide) (by decide)
theorem own_d1_0 : decode prog_16_method_1_code 0 = .ok (.aload_n 0, 1) := by decide +kernel
theorem own_d1_1 : decode prog_16_method_1_code 1 = .ok (.invokespecial 1, 3) := by decide +kernel
theorem own_pd0 : parseMethodDescriptor "()V" = some ⟨[], none⟩ := by decide +kernel
theorem own_d1_4 : decode prog_16_method_1_code 4 = .ok (.aload_n 1, 1) := by decide +kernel
theorem own_d1_5 : decode prog_16_method_1_code 5 = .ok (.ifnonnull 13, 3) := by decide +kernel
theorem own_d1_18 : decode prog_16_method_1_code 18 = .ok (.iload_n 2, 1) := by decide +kernel
theorem own_d1_19 : decode prog_16_method_1_code 19 = .ok (.ifCond .lt 9, 3) := by decide +kernel
theorem own_d1_22 : decode prog_16_method_1_code 22 = .ok (.iload_n 2, 1) := by decide +kernel
theorem own_d1_23 : decode prog_16_method_1_code 23 = .ok (.ldc 14, 2) := by decide +kernel
theorem own_d1_25 : decode prog_16_method_1_code 25 = .ok (.if_icmp .le 17, 3) := by decide +kernel
theorem own_d1_42 : decode prog_16_method_1_code 42 = .ok (.aload_n 0, 1) := by decide +kernel
theorem own_d1_43 : decode prog_16_method_1_code 43 = .ok (.aload_n 1, 1) := by decide +kernel
theorem own_d1_44 : decode prog_16_method_1_code 44 = .ok (.putfield 22, 3) := by decide +kernel
theorem own_d1_47 : decode prog_16_method_1_code 47 = .ok (.aload_n 0, 1) := by decide +kernel
theorem own_d1_48 : decode prog_16_method_1_code 48 = .ok (.iload_n 2, 1) := by decide +kernel
theorem own_d1_49 : decode prog_16_method_1_code 49 = .ok (.putfield 28, 3) := by decide +kernel
theorem own_d1_52 : decode prog_16_method_1_code 52 = .ok (.return_, 1) := by decide +kernel
theorem own_pn1 : plainName "com/example/wirelore/wirelore/capture/Endpoint" = true := by first | (simp [plainName, overriddenIn]; done) | decide +kernel
theorem own_ef2 (m : MethodId) (x0 : Addr) (x1 : Addr) (x2 : Int32) : entryFrame m #[(.ref x0), (.ref x1), (.int x2)] 3 = mkF m 0 #[.val (.ref x0), .val (.ref x1), .val (.int x2)] [] := by first | (simp [entryFrame, mkF, argsToLocals, Value.category]; done) | rfl
def own_Q2 (Z : State) (a0 : Addr) (a1 : Addr) (p2 : Int32) (h0 : Heap) (n0 : Nat) (v : Option Value) (h : Heap) (L : List Loc) : Prop := v = none ∧ Fr n0 L ∧ Keep h0 h [a0] ∧ Exa Z h a0 "com/example/wirelore/wirelore/capture/Endpoint" ∧ Fld Z h a0 "com/example/wirelore/wirelore/capture/Endpoint" "address" "Ljava/lang/String;" (.ref a1) ∧ Fld Z h a0 "com/example/wirelore/wirelore/capture/Endpoint" "port" "I" (.int p2)
set_option maxRecDepth 65536 in
set_option maxHeartbeats 40000000 in
theorem rm2 (l : Launch) (Z : State) (aw : Array Value) (hw : ∀ d ∈ tables_1, d.before aw Z = true) (ws : List Jvm.Cond) (a0 : Addr) (a1 : Addr) (p2 : Int32) (h0 : Heap) (n0 : Nat) (Z0 : n0 ≤ h0.size) (E_a : Exa Z h0 a0 "com/example/wirelore/wirelore/capture/Endpoint") (F_address : Fld Z h0 a0 "com/example/wirelore/wirelore/capture/Endpoint" "address" "Ljava/lang/String;" .null) (F_port : Fld Z h0 a0 "com/example/wirelore/wirelore/capture/Endpoint" "port" "I" (.int (0 : Int32))) (g_a : n0 ≤ a0) (h1 : ¬ (p2 < (0 : Int32))) (h2 : ¬ ((65535 : Int32) < p2)) :
    MetFree l (⟨"com/example/wirelore/wirelore/capture/Endpoint", "<init>", "(Ljava/lang/String;I)V"⟩ : MethodName) (head1 (Jvm.Cond.code (⟨"com/example/wirelore/wirelore/capture/Endpoint", "<init>", "(Ljava/lang/String;I)V"⟩ : MethodName) prog_16_method_1_code 3 none :: ws) ({ frames := 2, cells := 0, slots := 0, locals := 24 } : Room)) (fun a U => a = #[(.ref a0), (.ref a1), (.int p2)] ∧ Z.Warmed39 U.vm ∧ U.heap = h0) (fun _ _ _ _ _ => True) (fun _ U o U' => ∃ v L, o = .returned v ∧ own_Q2 Z a0 a1 p2 h0 n0 v U'.heap L ∧ FrameEnd U o U' L ({ frames := 2, cells := 0, slots := 0, locals := 24 } : Room).cells ({ frames := 2, cells := 0, slots := 0, locals := 24 } : Room).slots) := by
  refine MetFree.of_bodySF (plainFor_of_name own_pn1) hisR ?_
  intro p e s m args below meth c s₁ Bd hml0 hP hK
  obtain ⟨rfl, hZ, hh⟩ := hP
  have hx := Bd.exec
  have hby := Bd.bytes
  have hml : c.maxLocals = 3 := hml0
  have hown : s.vm.findClass "com/example/wirelore/wirelore/capture/Endpoint" = some m.cls := findClass_of_methodNamed Bd.named
  have hnm := (name_of_methodNamed Bd.named Bd.method).1
  have X0 : Stand p l e ({ frames := 2, cells := 0, slots := 0, locals := 24 } : Room) s m #[(.ref a0), (.ref a1), (.int p2)] below meth c s₁ [] 0 0 := Stand.of_body Bd
  have e0 : s₁.heap = h0 := by rw [← hh, Bd.state]; rfl
  have N0 := Fr.nil n0
  show own_G p.tables e below s (own_Q2 Z a0 a1 p2 h0 n0) ({ frames := 2, cells := 0, slots := 0, locals := 24 } : Room).cells ({ frames := 2, cells := 0, slots := 0, locals := 24 } : Room).slots (s₁.setTop (entryFrame m #[(.ref a0), (.ref a1), (.int p2)] 3))
  refine own_by (fun _ k => castTop (own_ef2 m a0 a1 p2) k) ?_
  show own_G _ _ _ _ _ _ _ (s₁.setTop (mkF m 0 #[.val (.ref a0), .val (.ref a1), .val (.int p2)] []))
  refine own_by (fun _ k => XS.aloadN X0.here hx rfl (hb hby own_d1_0) rfl rfl k) ?_
  show own_G _ _ _ _ _ _ _ (s₁.setTop (mkF m 1 #[.val (.ref a0), .val (.ref a1), .val (.int p2)] [(.ref a0)]))
  obtain ⟨_, _, ⟨T2, L2, k2, n2⟩, -, X2, ⟨Lc2, hQ2, l2, y2, z2⟩, st2⟩ := X0.specialBack hx (y := (⟨"java/lang/Record", "<init>", "()V"⟩ : MethodName)) rfl hown (mvT hZ (hw _ (List.mem_of_getElem? (i := 15) rfl))) (mvT hZ (hw _ (List.mem_of_getElem? (i := 16) rfl))) (mvT hZ (hw _ (List.mem_of_getElem? (i := 19) rfl))) (by decide) (backOf (W := 0) (rm1 l Z aw hw [] a0 h0 n0 Z0 ) hZ (hw _ (List.mem_of_getElem? (i := 19) rfl)) (hw _ (List.mem_of_getElem? (i := 18) rfl)) (by decide) (by decide)) (g := (mkF m 1 #[.val (.ref a0), .val (.ref a1), .val (.int p2)] [(.ref a0)])) rfl (by rw [hml]; rfl) (Steps.refl _) (a := a0) (argsL := []) (rest := []) (lenOf own_pd0 rfl) rfl (by show 2 * 0 + _ ≤ _; exact Nat.le_of_eq rfl) (hb hby own_d1_1) (fun _ _ => ⟨rfl, e0, (by decide : 0 + 0 ≤ _), (by decide : 0 + 0 ≤ _)⟩)
  dsimp only [Pt.U, Pt.locs, Pt.cells, Pt.slots] at X2 l2 y2 z2 st2 hQ2
  subst l2 y2 z2
  obtain ⟨rfl, Nq2, e2⟩ := hQ2
  have N2 := Fr.app N0 Nq2
  refine own_by (fun _ k => st2.trans k) ?_
  show own_G _ _ _ _ _ _ _ (T2.setTop (mkF m 4 #[.val (.ref a0), .val (.ref a1), .val (.int p2)] []))
  refine own_by (fun _ k => XS.aloadN X2.here hx rfl (hb hby own_d1_4) rfl rfl k) ?_
  show own_G _ _ _ _ _ _ _ (T2.setTop (mkF m 5 #[.val (.ref a0), .val (.ref a1), .val (.int p2)] [(.ref a1)]))
  refine own_by (fun _ k => XT.ifnonnullYes X2.here hx rfl (pc0 := 5) (pc' := 18) rfl (hb hby own_d1_5) rfl (by decide) (by decide) k) ?_
  show own_G _ _ _ _ _ _ _ (T2.setTop (mkF m 18 #[.val (.ref a0), .val (.ref a1), .val (.int p2)] []))
  refine own_by (fun _ k => XS.iloadN X2.here hx rfl (hb hby own_d1_18) rfl  k) ?_
  show own_G _ _ _ _ _ _ _ (T2.setTop (mkF m 19 #[.val (.ref a0), .val (.ref a1), .val (.int p2)] [(.int p2)]))
  have hc19 : ¬ (p2 < (0 : Int32)) := h1
  refine own_by (fun _ k => XS.ifNo X2.here hx rfl (hb hby own_d1_19) rfl (XT.i0_lt_f hc19) k) ?_
  show own_G _ _ _ _ _ _ _ (T2.setTop (mkF m 22 #[.val (.ref a0), .val (.ref a1), .val (.int p2)] []))
  refine own_by (fun _ k => XS.iloadN X2.here hx rfl (hb hby own_d1_22) rfl  k) ?_
  show own_G _ _ _ _ _ _ _ (T2.setTop (mkF m 23 #[.val (.ref a0), .val (.ref a1), .val (.int p2)] [(.int p2)]))
  refine own_by (X2.ldcInt hx hown (mvT hZ (hw _ (List.mem_of_getElem? (i := 23) rfl))) (g := (mkF m 23 #[.val (.ref a0), .val (.ref a1), .val (.int p2)] [(.int p2)])) rfl (hb hby own_d1_23)) ?_
  show own_G _ _ _ _ _ _ _ (T2.setTop (mkF m 25 #[.val (.ref a0), .val (.ref a1), .val (.int p2)] [(.int (65535 : Int32)), (.int p2)]))
  have hc25 : ¬ ((65535 : Int32) < p2) := h2
  refine own_by (fun _ k => XS.icmpYes X2.here hx rfl (pc0 := 25) (pc' := 42) rfl (hb hby own_d1_25) rfl (XT.ii_le_t hc25) (by decide) (by decide) k) ?_
  show own_G _ _ _ _ _ _ _ (T2.setTop (mkF m 42 #[.val (.ref a0), .val (.ref a1), .val (.int p2)] []))
  refine own_by (fun _ k => XS.aloadN X2.here hx rfl (hb hby own_d1_42) rfl rfl k) ?_
  show own_G _ _ _ _ _ _ _ (T2.setTop (mkF m 43 #[.val (.ref a0), .val (.ref a1), .val (.int p2)] [(.ref a0)]))
  refine own_by (fun _ k => XS.aloadN X2.here hx rfl (hb hby own_d1_43) rfl rfl k) ?_
  show own_G _ _ _ _ _ _ _ (T2.setTop (mkF m 44 #[.val (.ref a0), .val (.ref a1), .val (.int p2)] [(.ref a1), (.ref a0)]))
  obtain ⟨T3, h3, X3, e3, W3, st3⟩ := putF X2 hx hZ hown (host := "") (Or.inl (hw _ (List.mem_of_getElem? (i := 24) rfl))) Via.refl e2 F_address E_a (Or.inr ⟨(hw _ (List.mem_of_getElem? (i := 25) rfl)), rfl, hnm⟩) (hw _ (List.mem_of_getElem? (i := 2) rfl)) (ty := (.object "java/lang/String")) (by decide) rfl rfl (g := (mkF m 44 #[.val (.ref a0), .val (.ref a1), .val (.int p2)] [(.ref a1), (.ref a0)])) rfl rfl (hb hby own_d1_44)
  refine own_by st3 ?_
  have F4_0 := E_a.wr W3
  have F4_1 := F_address.same W3
  have F4_2 := F_port.other W3 (Or.inr (slot_ne (Or.inr (hw _ (List.mem_of_getElem? (i := 27) rfl))) (Or.inr (hw _ (List.mem_of_getElem? (i := 25) rfl))) (by decide) (t := .int) (t' := (.object "java/lang/String")) (by decide) (by decide)))
  have N3 := Fr.snoc X3 N2 g_a
  have Z5 : n0 ≤ h3.size := Nat.le_trans Z0 (Nat.le_of_eq W3.size.symm)
  have K3 := (Keep.refl h0 [a0]).wr W3 (Or.inl (List.mem_of_getElem? (i := 0) rfl))
  show own_G _ _ _ _ _ _ _ (T3.setTop (mkF m 47 #[.val (.ref a0), .val (.ref a1), .val (.int p2)] []))
  refine own_by (fun _ k => XS.aloadN X3.here hx rfl (hb hby own_d1_47) rfl rfl k) ?_
  show own_G _ _ _ _ _ _ _ (T3.setTop (mkF m 48 #[.val (.ref a0), .val (.ref a1), .val (.int p2)] [(.ref a0)]))
  refine own_by (fun _ k => XS.iloadN X3.here hx rfl (hb hby own_d1_48) rfl  k) ?_
  show own_G _ _ _ _ _ _ _ (T3.setTop (mkF m 49 #[.val (.ref a0), .val (.ref a1), .val (.int p2)] [(.int p2), (.ref a0)]))
  obtain ⟨T6, h6, X6, e6, W6, st6⟩ := putF X3 hx hZ hown (host := "") (Or.inl (hw _ (List.mem_of_getElem? (i := 26) rfl))) Via.refl e3 F4_2 F4_0 (Or.inr ⟨(hw _ (List.mem_of_getElem? (i := 27) rfl)), rfl, hnm⟩) (hw _ (List.mem_of_getElem? (i := 2) rfl)) (ty := .int) (by decide) rfl rfl (g := (mkF m 49 #[.val (.ref a0), .val (.ref a1), .val (.int p2)] [(.int p2), (.ref a0)])) rfl rfl (hb hby own_d1_49)
  refine own_by st6 ?_
  have F7_0 := F4_0.wr W6
  have F7_1 := F4_1.other W6 (Or.inr (slot_ne (Or.inr (hw _ (List.mem_of_getElem? (i := 25) rfl))) (Or.inr (hw _ (List.mem_of_getElem? (i := 27) rfl))) (by decide) (t := (.object "java/lang/String")) (t' := .int) (by decide) (by decide)))
  have F7_2 := F4_2.same W6
  have N6 := Fr.snoc X6 N3 g_a
  have Z8 : n0 ≤ h6.size := Nat.le_trans Z5 (Nat.le_of_eq W6.size.symm)
  have K6 := K3.wr W6 (Or.inl (List.mem_of_getElem? (i := 0) rfl))
  show own_G _ _ _ _ _ _ _ (T6.setTop (mkF m 52 #[.val (.ref a0), .val (.ref a1), .val (.int p2)] []))
  exact own_end X6 (v := none) (fun _ => rfl) (BodyLoose.notSynchronized Bd) (fun fs hr => X6.returnOut hx Bd.returns (hb hby own_d1_52) hr) (by rw [e6]; exact ⟨rfl, N6, K6, F7_0, F7_1, F7_2⟩) (by decide) (by decide)
theorem own_d4_0 : decode prog_24_method_1_code 0 = .ok (.aload_n 0, 1) := by decide +kernel
theorem own_d4_1 : decode prog_24_method_1_code 1 = .ok (.invokespecial 1, 3) := by decide +kernel
theorem own_d4_4 : decode prog_24_method_1_code 4 = .ok (.aload_n 1, 1) := by decide +kernel
theorem own_d4_5 : decode prog_24_method_1_code 5 = .ok (.ifnull 7, 3) := by decide +kernel
theorem own_d4_8 : decode prog_24_method_1_code 8 = .ok (.aload_n 2, 1) := by decide +kernel
theorem own_d4_9 : decode prog_24_method_1_code 9 = .ok (.ifnonnull 13, 3) := by decide +kernel
theorem own_d4_22 : decode prog_24_method_1_code 22 = .ok (.aload 6, 2) := by decide +kernel
theorem own_d4_24 : decode prog_24_method_1_code 24 = .ok (.ifnonnull 13, 3) := by decide +kernel
theorem own_d4_37 : decode prog_24_method_1_code 37 = .ok (.lload_n 3, 1) := by decide +kernel
theorem own_d4_38 : decode prog_24_method_1_code 38 = .ok (.lconst 0, 1) := by decide +kernel
theorem own_d4_39 : decode prog_24_method_1_code 39 = .ok (.lcmp, 1) := by decide +kernel
theorem own_d4_40 : decode prog_24_method_1_code 40 = .ok (.ifCond .lt 11, 3) := by decide +kernel
theorem own_d4_43 : decode prog_24_method_1_code 43 = .ok (.lload_n 3, 1) := by decide +kernel
theorem own_d4_44 : decode prog_24_method_1_code 44 = .ok (.ldc2_w 16, 3) := by decide +kernel
theorem own_d4_47 : decode prog_24_method_1_code 47 = .ok (.lcmp, 1) := by decide +kernel
theorem own_d4_48 : decode prog_24_method_1_code 48 = .ok (.ifCond .le 17, 3) := by decide +kernel
theorem own_d4_65 : decode prog_24_method_1_code 65 = .ok (.iload 5, 2) := by decide +kernel
theorem own_d4_67 : decode prog_24_method_1_code 67 = .ok (.ifCond .lt 11, 3) := by decide +kernel
theorem own_d4_70 : decode prog_24_method_1_code 70 = .ok (.iload 5, 2) := by decide +kernel
theorem own_d4_72 : decode prog_24_method_1_code 72 = .ok (.sipush 255, 3) := by decide +kernel
theorem own_d4_75 : decode prog_24_method_1_code 75 = .ok (.if_icmp .le 18, 3) := by decide +kernel
theorem own_d4_93 : decode prog_24_method_1_code 93 = .ok (.aload_n 0, 1) := by decide +kernel
theorem own_d4_94 : decode prog_24_method_1_code 94 = .ok (.aload_n 1, 1) := by decide +kernel
theorem own_d4_95 : decode prog_24_method_1_code 95 = .ok (.putfield 28, 3) := by decide +kernel
theorem own_d4_98 : decode prog_24_method_1_code 98 = .ok (.aload_n 0, 1) := by decide +kernel
theorem own_d4_99 : decode prog_24_method_1_code 99 = .ok (.aload_n 2, 1) := by decide +kernel
theorem own_d4_100 : decode prog_24_method_1_code 100 = .ok (.putfield 34, 3) := by decide +kernel
theorem own_d4_103 : decode prog_24_method_1_code 103 = .ok (.aload_n 0, 1) := by decide +kernel
theorem own_d4_104 : decode prog_24_method_1_code 104 = .ok (.lload_n 3, 1) := by decide +kernel
theorem own_d4_105 : decode prog_24_method_1_code 105 = .ok (.putfield 37, 3) := by decide +kernel
theorem own_d4_108 : decode prog_24_method_1_code 108 = .ok (.aload_n 0, 1) := by decide +kernel
theorem own_d4_109 : decode prog_24_method_1_code 109 = .ok (.iload 5, 2) := by decide +kernel
theorem own_d4_111 : decode prog_24_method_1_code 111 = .ok (.putfield 41, 3) := by decide +kernel
theorem own_d4_114 : decode prog_24_method_1_code 114 = .ok (.aload_n 0, 1) := by decide +kernel
theorem own_d4_115 : decode prog_24_method_1_code 115 = .ok (.aload 6, 2) := by decide +kernel
theorem own_d4_117 : decode prog_24_method_1_code 117 = .ok (.putfield 45, 3) := by decide +kernel
theorem own_d4_120 : decode prog_24_method_1_code 120 = .ok (.return_, 1) := by decide +kernel
theorem own_pn2 : plainName "com/example/wirelore/wirelore/capture/Segment" = true := by first | (simp [plainName, overriddenIn]; done) | decide +kernel
theorem own_ef3 (m : MethodId) (x0 : Addr) (x1 : Addr) (x2 : Addr) (x3 : Int64) (x4 : Int32) (x5 : Addr) : entryFrame m #[(.ref x0), (.ref x1), (.ref x2), (.long x3), (.int x4), (.ref x5)] 7 = mkF m 0 #[.val (.ref x0), .val (.ref x1), .val (.ref x2), .val (.long x3), .second, .val (.int x4), .val (.ref x5)] [] := by first | (simp [entryFrame, mkF, argsToLocals, Value.category]; done) | rfl
def own_Q3 (Z : State) (a0 : Addr) (a1 : Addr) (a2 : Addr) (q3 : Int64) (p4 : Int32) (a5 : Addr) (h0 : Heap) (n0 : Nat) (v : Option Value) (h : Heap) (L : List Loc) : Prop := v = none ∧ Fr n0 L ∧ Keep h0 h [a0] ∧ Exa Z h a0 "com/example/wirelore/wirelore/capture/Segment" ∧ Fld Z h a0 "com/example/wirelore/wirelore/capture/Segment" "source" "Lcom/example/wirelore/wirelore/capture/Endpoint;" (.ref a1) ∧ Fld Z h a0 "com/example/wirelore/wirelore/capture/Segment" "destination" "Lcom/example/wirelore/wirelore/capture/Endpoint;" (.ref a2) ∧ Fld Z h a0 "com/example/wirelore/wirelore/capture/Segment" "sequence" "J" (.long q3) ∧ Fld Z h a0 "com/example/wirelore/wirelore/capture/Segment" "flags" "I" (.int p4) ∧ Fld Z h a0 "com/example/wirelore/wirelore/capture/Segment" "payload" "[B" (.ref a5)
set_option maxRecDepth 65536 in
set_option maxHeartbeats 40000000 in
theorem rm3 (l : Launch) (Z : State) (aw : Array Value) (hw : ∀ d ∈ tables_1, d.before aw Z = true) (ws : List Jvm.Cond) (a0 : Addr) (a1 : Addr) (a2 : Addr) (q3 : Int64) (p4 : Int32) (a5 : Addr) (h0 : Heap) (n0 : Nat) (Z0 : n0 ≤ h0.size) (E_a : Exa Z h0 a0 "com/example/wirelore/wirelore/capture/Segment") (F_source : Fld Z h0 a0 "com/example/wirelore/wirelore/capture/Segment" "source" "Lcom/example/wirelore/wirelore/capture/Endpoint;" .null) (F_destination : Fld Z h0 a0 "com/example/wirelore/wirelore/capture/Segment" "destination" "Lcom/example/wirelore/wirelore/capture/Endpoint;" .null) (F_sequence : Fld Z h0 a0 "com/example/wirelore/wirelore/capture/Segment" "sequence" "J" (.long (0 : Int64))) (F_flags : Fld Z h0 a0 "com/example/wirelore/wirelore/capture/Segment" "flags" "I" (.int (0 : Int32))) (F_payload : Fld Z h0 a0 "com/example/wirelore/wirelore/capture/Segment" "payload" "[B" .null) (g_a : n0 ≤ a0) (h1 : ¬ (q3 < (0 : Int64))) (h2 : ¬ ((4294967295 : Int64) < q3)) (h3 : ¬ (p4 < (0 : Int32))) (h4 : ¬ ((255 : Int32) < p4)) :
    MetFree l (⟨"com/example/wirelore/wirelore/capture/Segment", "<init>", "(Lcom/example/wirelore/wirelore/capture/Endpoint;Lcom/example/wirelore/wirelore/capture/Endpoint;JI[B)V"⟩ : MethodName) (head1 (Jvm.Cond.code (⟨"com/example/wirelore/wirelore/capture/Segment", "<init>", "(Lcom/example/wirelore/wirelore/capture/Endpoint;Lcom/example/wirelore/wirelore/capture/Endpoint;JI[B)V"⟩ : MethodName) prog_24_method_1_code 7 none :: ws) ({ frames := 2, cells := 0, slots := 0, locals := 24 } : Room)) (fun a U => a = #[(.ref a0), (.ref a1), (.ref a2), (.long q3), (.int p4), (.ref a5)] ∧ Z.Warmed39 U.vm ∧ U.heap = h0) (fun _ _ _ _ _ => True) (fun _ U o U' => ∃ v L, o = .returned v ∧ own_Q3 Z a0 a1 a2 q3 p4 a5 h0 n0 v U'.heap L ∧ FrameEnd U o U' L ({ frames := 2, cells := 0, slots := 0, locals := 24 } : Room).cells ({ frames := 2, cells := 0, slots := 0, locals := 24 } : Room).slots) := by
  refine MetFree.of_bodySF (plainFor_of_name own_pn2) hisR ?_
  intro p e s m args below meth c s₁ Bd hml0 hP hK
  obtain ⟨rfl, hZ, hh⟩ := hP
  have hx := Bd.exec
  have hby := Bd.bytes
  have hml : c.maxLocals = 7 := hml0
  have hown : s.vm.findClass "com/example/wirelore/wirelore/capture/Segment" = some m.cls := findClass_of_methodNamed Bd.named
  have hnm := (name_of_methodNamed Bd.named Bd.method).1
  have X0 : Stand p l e ({ frames := 2, cells := 0, slots := 0, locals := 24 } : Room) s m #[(.ref a0), (.ref a1), (.ref a2), (.long q3), (.int p4), (.ref a5)] below meth c s₁ [] 0 0 := Stand.of_body Bd
  have e0 : s₁.heap = h0 := by rw [← hh, Bd.state]; rfl
  have N0 := Fr.nil n0
  show own_G p.tables e below s (own_Q3 Z a0 a1 a2 q3 p4 a5 h0 n0) ({ frames := 2, cells := 0, slots := 0, locals := 24 } : Room).cells ({ frames := 2, cells := 0, slots := 0, locals := 24 } : Room).slots (s₁.setTop (entryFrame m #[(.ref a0), (.ref a1), (.ref a2), (.long q3), (.int p4), (.ref a5)] 7))
  refine own_by (fun _ k => castTop (own_ef3 m a0 a1 a2 q3 p4 a5) k) ?_
  show own_G _ _ _ _ _ _ _ (s₁.setTop (mkF m 0 #[.val (.ref a0), .val (.ref a1), .val (.ref a2), .val (.long q3), .second, .val (.int p4), .val (.ref a5)] []))
  refine own_by (fun _ k => XS.aloadN X0.here hx rfl (hb hby own_d4_0) rfl rfl k) ?_
  show own_G _ _ _ _ _ _ _ (s₁.setTop (mkF m 1 #[.val (.ref a0), .val (.ref a1), .val (.ref a2), .val (.long q3), .second, .val (.int p4), .val (.ref a5)] [(.ref a0)]))
  obtain ⟨_, _, ⟨T9, L9, k9, n9⟩, -, X9, ⟨Lc9, hQ9, l9, y9, z9⟩, st9⟩ := X0.specialBack hx (y := (⟨"java/lang/Record", "<init>", "()V"⟩ : MethodName)) rfl hown (mvT hZ (hw _ (List.mem_of_getElem? (i := 34) rfl))) (mvT hZ (hw _ (List.mem_of_getElem? (i := 16) rfl))) (mvT hZ (hw _ (List.mem_of_getElem? (i := 19) rfl))) (by decide) (backOf (W := 0) (rm1 l Z aw hw [] a0 h0 n0 Z0 ) hZ (hw _ (List.mem_of_getElem? (i := 19) rfl)) (hw _ (List.mem_of_getElem? (i := 18) rfl)) (by decide) (by decide)) (g := (mkF m 1 #[.val (.ref a0), .val (.ref a1), .val (.ref a2), .val (.long q3), .second, .val (.int p4), .val (.ref a5)] [(.ref a0)])) rfl (by rw [hml]; rfl) (Steps.refl _) (a := a0) (argsL := []) (rest := []) (lenOf own_pd0 rfl) rfl (by show 2 * 0 + _ ≤ _; exact Nat.le_of_eq rfl) (hb hby own_d4_1) (fun _ _ => ⟨rfl, e0, (by decide : 0 + 0 ≤ _), (by decide : 0 + 0 ≤ _)⟩)
  dsimp only [Pt.U, Pt.locs, Pt.cells, Pt.slots] at X9 l9 y9 z9 st9 hQ9
  subst l9 y9 z9
  obtain ⟨rfl, Nq9, e9⟩ := hQ9
  have N9 := Fr.app N0 Nq9
  refine own_by (fun _ k => st9.trans k) ?_
  show own_G _ _ _ _ _ _ _ (T9.setTop (mkF m 4 #[.val (.ref a0), .val (.ref a1), .val (.ref a2), .val (.long q3), .second, .val (.int p4), .val (.ref a5)] []))
  refine own_by (fun _ k => XS.aloadN X9.here hx rfl (hb hby own_d4_4) rfl rfl k) ?_
  show own_G _ _ _ _ _ _ _ (T9.setTop (mkF m 5 #[.val (.ref a0), .val (.ref a1), .val (.ref a2), .val (.long q3), .second, .val (.int p4), .val (.ref a5)] [(.ref a1)]))
  refine own_by (fun _ k => XS.ifnullNo X9.here hx rfl (hb hby own_d4_5) rfl k) ?_
  show own_G _ _ _ _ _ _ _ (T9.setTop (mkF m 8 #[.val (.ref a0), .val (.ref a1), .val (.ref a2), .val (.long q3), .second, .val (.int p4), .val (.ref a5)] []))
  refine own_by (fun _ k => XS.aloadN X9.here hx rfl (hb hby own_d4_8) rfl rfl k) ?_
  show own_G _ _ _ _ _ _ _ (T9.setTop (mkF m 9 #[.val (.ref a0), .val (.ref a1), .val (.ref a2), .val (.long q3), .second, .val (.int p4), .val (.ref a5)] [(.ref a2)]))
  refine own_by (fun _ k => XT.ifnonnullYes X9.here hx rfl (pc0 := 9) (pc' := 22) rfl (hb hby own_d4_9) rfl (by decide) (by decide) k) ?_
  show own_G _ _ _ _ _ _ _ (T9.setTop (mkF m 22 #[.val (.ref a0), .val (.ref a1), .val (.ref a2), .val (.long q3), .second, .val (.int p4), .val (.ref a5)] []))
  refine own_by (fun _ k => XS.aload X9.here hx rfl (hb hby own_d4_22) rfl rfl k) ?_
  show own_G _ _ _ _ _ _ _ (T9.setTop (mkF m 24 #[.val (.ref a0), .val (.ref a1), .val (.ref a2), .val (.long q3), .second, .val (.int p4), .val (.ref a5)] [(.ref a5)]))
  refine own_by (fun _ k => XT.ifnonnullYes X9.here hx rfl (pc0 := 24) (pc' := 37) rfl (hb hby own_d4_24) rfl (by decide) (by decide) k) ?_
  show own_G _ _ _ _ _ _ _ (T9.setTop (mkF m 37 #[.val (.ref a0), .val (.ref a1), .val (.ref a2), .val (.long q3), .second, .val (.int p4), .val (.ref a5)] []))
  refine own_by (fun _ k => XT.lloadN X9.here hx rfl (hb hby own_d4_37) rfl  k) ?_
  show own_G _ _ _ _ _ _ _ (T9.setTop (mkF m 38 #[.val (.ref a0), .val (.ref a1), .val (.ref a2), .val (.long q3), .second, .val (.int p4), .val (.ref a5)] [(.long q3)]))
  refine own_by (fun _ k => XT.lconst X9.here hx rfl (hb hby own_d4_38) k) ?_
  show own_G _ _ _ _ _ _ _ (T9.setTop (mkF m 39 #[.val (.ref a0), .val (.ref a1), .val (.ref a2), .val (.long q3), .second, .val (.int p4), .val (.ref a5)] [(.long (0 : Int64)), (.long q3)]))
  refine own_by (fun _ k => XT.lcmp X9.here hx rfl (hb hby own_d4_39) rfl k) ?_
  show own_G _ _ _ _ _ _ _ (T9.setTop (mkF m 40 #[.val (.ref a0), .val (.ref a1), .val (.ref a2), .val (.long q3), .second, .val (.int p4), .val (.ref a5)] [(.int (XT.cmpL q3 (0 : Int64)))]))
  have hc40 : ¬ (q3 < (0 : Int64)) := h1
  refine own_by (fun _ k => XS.ifNo X9.here hx rfl (hb hby own_d4_40) rfl (XT.ll_lt_f hc40) k) ?_
  show own_G _ _ _ _ _ _ _ (T9.setTop (mkF m 43 #[.val (.ref a0), .val (.ref a1), .val (.ref a2), .val (.long q3), .second, .val (.int p4), .val (.ref a5)] []))
  refine own_by (fun _ k => XT.lloadN X9.here hx rfl (hb hby own_d4_43) rfl  k) ?_
  show own_G _ _ _ _ _ _ _ (T9.setTop (mkF m 44 #[.val (.ref a0), .val (.ref a1), .val (.ref a2), .val (.long q3), .second, .val (.int p4), .val (.ref a5)] [(.long q3)]))
  refine own_by (X9.ldc2Long hx hown (mvT hZ (hw _ (List.mem_of_getElem? (i := 35) rfl))) (g := (mkF m 44 #[.val (.ref a0), .val (.ref a1), .val (.ref a2), .val (.long q3), .second, .val (.int p4), .val (.ref a5)] [(.long q3)])) rfl (hb hby own_d4_44)) ?_
  show own_G _ _ _ _ _ _ _ (T9.setTop (mkF m 47 #[.val (.ref a0), .val (.ref a1), .val (.ref a2), .val (.long q3), .second, .val (.int p4), .val (.ref a5)] [(.long (4294967295 : Int64)), (.long q3)]))
  refine own_by (fun _ k => XT.lcmp X9.here hx rfl (hb hby own_d4_47) rfl k) ?_
  show own_G _ _ _ _ _ _ _ (T9.setTop (mkF m 48 #[.val (.ref a0), .val (.ref a1), .val (.ref a2), .val (.long q3), .second, .val (.int p4), .val (.ref a5)] [(.int (XT.cmpL q3 (4294967295 : Int64)))]))
  have hc48 : ¬ ((4294967295 : Int64) < q3) := h2
  refine own_by (fun _ k => XS.ifYes X9.here hx rfl (pc0 := 48) (pc' := 65) rfl (hb hby own_d4_48) rfl (XT.ll_le_t hc48) (by decide) (by decide) k) ?_
  show own_G _ _ _ _ _ _ _ (T9.setTop (mkF m 65 #[.val (.ref a0), .val (.ref a1), .val (.ref a2), .val (.long q3), .second, .val (.int p4), .val (.ref a5)] []))
  refine own_by (fun _ k => XS.iload X9.here hx rfl (hb hby own_d4_65) rfl  k) ?_
  show own_G _ _ _ _ _ _ _ (T9.setTop (mkF m 67 #[.val (.ref a0), .val (.ref a1), .val (.ref a2), .val (.long q3), .second, .val (.int p4), .val (.ref a5)] [(.int p4)]))
  have hc67 : ¬ (p4 < (0 : Int32)) := h3
  refine own_by (fun _ k => XS.ifNo X9.here hx rfl (hb hby own_d4_67) rfl (XT.i0_lt_f hc67) k) ?_
  show own_G _ _ _ _ _ _ _ (T9.setTop (mkF m 70 #[.val (.ref a0), .val (.ref a1), .val (.ref a2), .val (.long q3), .second, .val (.int p4), .val (.ref a5)] []))
  refine own_by (fun _ k => XS.iload X9.here hx rfl (hb hby own_d4_70) rfl  k) ?_
  show own_G _ _ _ _ _ _ _ (T9.setTop (mkF m 72 #[.val (.ref a0), .val (.ref a1), .val (.ref a2), .val (.long q3), .second, .val (.int p4), .val (.ref a5)] [(.int p4)]))
  refine own_by (fun _ k => XS.sipush X9.here hx rfl (hb hby own_d4_72) k) ?_
  show own_G _ _ _ _ _ _ _ (T9.setTop (mkF m 75 #[.val (.ref a0), .val (.ref a1), .val (.ref a2), .val (.long q3), .second, .val (.int p4), .val (.ref a5)] [(.int (255 : Int32)), (.int p4)]))
  have hc75 : ¬ ((255 : Int32) < p4) := h4
  refine own_by (fun _ k => XS.icmpYes X9.here hx rfl (pc0 := 75) (pc' := 93) rfl (hb hby own_d4_75) rfl (XT.ii_le_t hc75) (by decide) (by decide) k) ?_
  show own_G _ _ _ _ _ _ _ (T9.setTop (mkF m 93 #[.val (.ref a0), .val (.ref a1), .val (.ref a2), .val (.long q3), .second, .val (.int p4), .val (.ref a5)] []))
  refine own_by (fun _ k => XS.aloadN X9.here hx rfl (hb hby own_d4_93) rfl rfl k) ?_
  show own_G _ _ _ _ _ _ _ (T9.setTop (mkF m 94 #[.val (.ref a0), .val (.ref a1), .val (.ref a2), .val (.long q3), .second, .val (.int p4), .val (.ref a5)] [(.ref a0)]))
  refine own_by (fun _ k => XS.aloadN X9.here hx rfl (hb hby own_d4_94) rfl rfl k) ?_
  show own_G _ _ _ _ _ _ _ (T9.setTop (mkF m 95 #[.val (.ref a0), .val (.ref a1), .val (.ref a2), .val (.long q3), .second, .val (.int p4), .val (.ref a5)] [(.ref a1), (.ref a0)]))
  obtain ⟨T10, h10, X10, e10, W10, st10⟩ := putF X9 hx hZ hown (host := "") (Or.inl (hw _ (List.mem_of_getElem? (i := 36) rfl))) Via.refl e9 F_source E_a (Or.inr ⟨(hw _ (List.mem_of_getElem? (i := 37) rfl)), rfl, hnm⟩) (hw _ (List.mem_of_getElem? (i := 29) rfl)) (ty := (.object "com/example/wirelore/wirelore/capture/Endpoint")) (by decide) rfl rfl (g := (mkF m 95 #[.val (.ref a0), .val (.ref a1), .val (.ref a2), .val (.long q3), .second, .val (.int p4), .val (.ref a5)] [(.ref a1), (.ref a0)])) rfl rfl (hb hby own_d4_95)
  refine own_by st10 ?_
  have F11_0 := E_a.wr W10
  have F11_1 := F_source.same W10
  have F11_2 := F_destination.other W10 (Or.inr (slot_ne (Or.inr (hw _ (List.mem_of_getElem? (i := 39) rfl))) (Or.inr (hw _ (List.mem_of_getElem? (i := 37) rfl))) (by decide) (t := (.object "com/example/wirelore/wirelore/capture/Endpoint")) (t' := (.object "com/example/wirelore/wirelore/capture/Endpoint")) (by decide) (by decide)))
  have F11_3 := F_sequence.other W10 (Or.inr (slot_ne (Or.inr (hw _ (List.mem_of_getElem? (i := 41) rfl))) (Or.inr (hw _ (List.mem_of_getElem? (i := 37) rfl))) (by decide) (t := .long) (t' := (.object "com/example/wirelore/wirelore/capture/Endpoint")) (by decide) (by decide)))
  have F11_4 := F_flags.other W10 (Or.inr (slot_ne (Or.inr (hw _ (List.mem_of_getElem? (i := 43) rfl))) (Or.inr (hw _ (List.mem_of_getElem? (i := 37) rfl))) (by decide) (t := .int) (t' := (.object "com/example/wirelore/wirelore/capture/Endpoint")) (by decide) (by decide)))
  have F11_5 := F_payload.other W10 (Or.inr (slot_ne (Or.inr (hw _ (List.mem_of_getElem? (i := 45) rfl))) (Or.inr (hw _ (List.mem_of_getElem? (i := 37) rfl))) (by decide) (t := (.array .byte)) (t' := (.object "com/example/wirelore/wirelore/capture/Endpoint")) (by decide) (by decide)))
  have N10 := Fr.snoc X10 N9 g_a
  have Z12 : n0 ≤ h10.size := Nat.le_trans Z0 (Nat.le_of_eq W10.size.symm)
  have K10 := (Keep.refl h0 [a0]).wr W10 (Or.inl (List.mem_of_getElem? (i := 0) rfl))
  show own_G _ _ _ _ _ _ _ (T10.setTop (mkF m 98 #[.val (.ref a0), .val (.ref a1), .val (.ref a2), .val (.long q3), .second, .val (.int p4), .val (.ref a5)] []))
  refine own_by (fun _ k => XS.aloadN X10.here hx rfl (hb hby own_d4_98) rfl rfl k) ?_
  show own_G _ _ _ _ _ _ _ (T10.setTop (mkF m 99 #[.val (.ref a0), .val (.ref a1), .val (.ref a2), .val (.long q3), .second, .val (.int p4), .val (.ref a5)] [(.ref a0)]))
  refine own_by (fun _ k => XS.aloadN X10.here hx rfl (hb hby own_d4_99) rfl rfl k) ?_
  show own_G _ _ _ _ _ _ _ (T10.setTop (mkF m 100 #[.val (.ref a0), .val (.ref a1), .val (.ref a2), .val (.long q3), .second, .val (.int p4), .val (.ref a5)] [(.ref a2), (.ref a0)]))
  obtain ⟨T13, h13, X13, e13, W13, st13⟩ := putF X10 hx hZ hown (host := "") (Or.inl (hw _ (List.mem_of_getElem? (i := 38) rfl))) Via.refl e10 F11_2 F11_0 (Or.inr ⟨(hw _ (List.mem_of_getElem? (i := 39) rfl)), rfl, hnm⟩) (hw _ (List.mem_of_getElem? (i := 29) rfl)) (ty := (.object "com/example/wirelore/wirelore/capture/Endpoint")) (by decide) rfl rfl (g := (mkF m 100 #[.val (.ref a0), .val (.ref a1), .val (.ref a2), .val (.long q3), .second, .val (.int p4), .val (.ref a5)] [(.ref a2), (.ref a0)])) rfl rfl (hb hby own_d4_100)
  refine own_by st13 ?_
  have F14_0 := F11_0.wr W13
  have F14_1 := F11_1.other W13 (Or.inr (slot_ne (Or.inr (hw _ (List.mem_of_getElem? (i := 37) rfl))) (Or.inr (hw _ (List.mem_of_getElem? (i := 39) rfl))) (by decide) (t := (.object "com/example/wirelore/wirelore/capture/Endpoint")) (t' := (.object "com/example/wirelore/wirelore/capture/Endpoint")) (by decide) (by decide)))
  have F14_2 := F11_2.same W13
  have F14_3 := F11_3.other W13 (Or.inr (slot_ne (Or.inr (hw _ (List.mem_of_getElem? (i := 41) rfl))) (Or.inr (hw _ (List.mem_of_getElem? (i := 39) rfl))) (by decide) (t := .long) (t' := (.object "com/example/wirelore/wirelore/capture/Endpoint")) (by decide) (by decide)))
  have F14_4 := F11_4.other W13 (Or.inr (slot_ne (Or.inr (hw _ (List.mem_of_getElem? (i := 43) rfl))) (Or.inr (hw _ (List.mem_of_getElem? (i := 39) rfl))) (by decide) (t := .int) (t' := (.object "com/example/wirelore/wirelore/capture/Endpoint")) (by decide) (by decide)))
  have F14_5 := F11_5.other W13 (Or.inr (slot_ne (Or.inr (hw _ (List.mem_of_getElem? (i := 45) rfl))) (Or.inr (hw _ (List.mem_of_getElem? (i := 39) rfl))) (by decide) (t := (.array .byte)) (t' := (.object "com/example/wirelore/wirelore/capture/Endpoint")) (by decide) (by decide)))
  have N13 := Fr.snoc X13 N10 g_a
  have Z15 : n0 ≤ h13.size := Nat.le_trans Z12 (Nat.le_of_eq W13.size.symm)
  have K13 := K10.wr W13 (Or.inl (List.mem_of_getElem? (i := 0) rfl))
  show own_G _ _ _ _ _ _ _ (T13.setTop (mkF m 103 #[.val (.ref a0), .val (.ref a1), .val (.ref a2), .val (.long q3), .second, .val (.int p4), .val (.ref a5)] []))
  refine own_by (fun _ k => XS.aloadN X13.here hx rfl (hb hby own_d4_103) rfl rfl k) ?_
  show own_G _ _ _ _ _ _ _ (T13.setTop (mkF m 104 #[.val (.ref a0), .val (.ref a1), .val (.ref a2), .val (.long q3), .second, .val (.int p4), .val (.ref a5)] [(.ref a0)]))
  refine own_by (fun _ k => XT.lloadN X13.here hx rfl (hb hby own_d4_104) rfl  k) ?_
  show own_G _ _ _ _ _ _ _ (T13.setTop (mkF m 105 #[.val (.ref a0), .val (.ref a1), .val (.ref a2), .val (.long q3), .second, .val (.int p4), .val (.ref a5)] [(.long q3), (.ref a0)]))
  obtain ⟨T16, h16, X16, e16, W16, st16⟩ := putF X13 hx hZ hown (host := "") (Or.inl (hw _ (List.mem_of_getElem? (i := 40) rfl))) Via.refl e13 F14_3 F14_0 (Or.inr ⟨(hw _ (List.mem_of_getElem? (i := 41) rfl)), rfl, hnm⟩) (hw _ (List.mem_of_getElem? (i := 29) rfl)) (ty := .long) (by decide) rfl rfl (g := (mkF m 105 #[.val (.ref a0), .val (.ref a1), .val (.ref a2), .val (.long q3), .second, .val (.int p4), .val (.ref a5)] [(.long q3), (.ref a0)])) rfl rfl (hb hby own_d4_105)
  refine own_by st16 ?_
  have F17_0 := F14_0.wr W16
  have F17_1 := F14_1.other W16 (Or.inr (slot_ne (Or.inr (hw _ (List.mem_of_getElem? (i := 37) rfl))) (Or.inr (hw _ (List.mem_of_getElem? (i := 41) rfl))) (by decide) (t := (.object "com/example/wirelore/wirelore/capture/Endpoint")) (t' := .long) (by decide) (by decide)))
  have F17_2 := F14_2.other W16 (Or.inr (slot_ne (Or.inr (hw _ (List.mem_of_getElem? (i := 39) rfl))) (Or.inr (hw _ (List.mem_of_getElem? (i := 41) rfl))) (by decide) (t := (.object "com/example/wirelore/wirelore/capture/Endpoint")) (t' := .long) (by decide) (by decide)))
  have F17_3 := F14_3.same W16
  have F17_4 := F14_4.other W16 (Or.inr (slot_ne (Or.inr (hw _ (List.mem_of_getElem? (i := 43) rfl))) (Or.inr (hw _ (List.mem_of_getElem? (i := 41) rfl))) (by decide) (t := .int) (t' := .long) (by decide) (by decide)))
  have F17_5 := F14_5.other W16 (Or.inr (slot_ne (Or.inr (hw _ (List.mem_of_getElem? (i := 45) rfl))) (Or.inr (hw _ (List.mem_of_getElem? (i := 41) rfl))) (by decide) (t := (.array .byte)) (t' := .long) (by decide) (by decide)))
  have N16 := Fr.snoc X16 N13 g_a
  have Z18 : n0 ≤ h16.size := Nat.le_trans Z15 (Nat.le_of_eq W16.size.symm)
  have K16 := K13.wr W16 (Or.inl (List.mem_of_getElem? (i := 0) rfl))
  show own_G _ _ _ _ _ _ _ (T16.setTop (mkF m 108 #[.val (.ref a0), .val (.ref a1), .val (.ref a2), .val (.long q3), .second, .val (.int p4), .val (.ref a5)] []))
  refine own_by (fun _ k => XS.aloadN X16.here hx rfl (hb hby own_d4_108) rfl rfl k) ?_
  show own_G _ _ _ _ _ _ _ (T16.setTop (mkF m 109 #[.val (.ref a0), .val (.ref a1), .val (.ref a2), .val (.long q3), .second, .val (.int p4), .val (.ref a5)] [(.ref a0)]))
  refine own_by (fun _ k => XS.iload X16.here hx rfl (hb hby own_d4_109) rfl  k) ?_
  show own_G _ _ _ _ _ _ _ (T16.setTop (mkF m 111 #[.val (.ref a0), .val (.ref a1), .val (.ref a2), .val (.long q3), .second, .val (.int p4), .val (.ref a5)] [(.int p4), (.ref a0)]))
  obtain ⟨T19, h19, X19, e19, W19, st19⟩ := putF X16 hx hZ hown (host := "") (Or.inl (hw _ (List.mem_of_getElem? (i := 42) rfl))) Via.refl e16 F17_4 F17_0 (Or.inr ⟨(hw _ (List.mem_of_getElem? (i := 43) rfl)), rfl, hnm⟩) (hw _ (List.mem_of_getElem? (i := 29) rfl)) (ty := .int) (by decide) rfl rfl (g := (mkF m 111 #[.val (.ref a0), .val (.ref a1), .val (.ref a2), .val (.long q3), .second, .val (.int p4), .val (.ref a5)] [(.int p4), (.ref a0)])) rfl rfl (hb hby own_d4_111)
  refine own_by st19 ?_
  have F20_0 := F17_0.wr W19
  have F20_1 := F17_1.other W19 (Or.inr (slot_ne (Or.inr (hw _ (List.mem_of_getElem? (i := 37) rfl))) (Or.inr (hw _ (List.mem_of_getElem? (i := 43) rfl))) (by decide) (t := (.object "com/example/wirelore/wirelore/capture/Endpoint")) (t' := .int) (by decide) (by decide)))
  have F20_2 := F17_2.other W19 (Or.inr (slot_ne (Or.inr (hw _ (List.mem_of_getElem? (i := 39) rfl))) (Or.inr (hw _ (List.mem_of_getElem? (i := 43) rfl))) (by decide) (t := (.object "com/example/wirelore/wirelore/capture/Endpoint")) (t' := .int) (by decide) (by decide)))
  have F20_3 := F17_3.other W19 (Or.inr (slot_ne (Or.inr (hw _ (List.mem_of_getElem? (i := 41) rfl))) (Or.inr (hw _ (List.mem_of_getElem? (i := 43) rfl))) (by decide) (t := .long) (t' := .int) (by decide) (by decide)))
  have F20_4 := F17_4.same W19
  have F20_5 := F17_5.other W19 (Or.inr (slot_ne (Or.inr (hw _ (List.mem_of_getElem? (i := 45) rfl))) (Or.inr (hw _ (List.mem_of_getElem? (i := 43) rfl))) (by decide) (t := (.array .byte)) (t' := .int) (by decide) (by decide)))
  have N19 := Fr.snoc X19 N16 g_a
  have Z21 : n0 ≤ h19.size := Nat.le_trans Z18 (Nat.le_of_eq W19.size.symm)
  have K19 := K16.wr W19 (Or.inl (List.mem_of_getElem? (i := 0) rfl))
  show own_G _ _ _ _ _ _ _ (T19.setTop (mkF m 114 #[.val (.ref a0), .val (.ref a1), .val (.ref a2), .val (.long q3), .second, .val (.int p4), .val (.ref a5)] []))
  refine own_by (fun _ k => XS.aloadN X19.here hx rfl (hb hby own_d4_114) rfl rfl k) ?_
  show own_G _ _ _ _ _ _ _ (T19.setTop (mkF m 115 #[.val (.ref a0), .val (.ref a1), .val (.ref a2), .val (.long q3), .second, .val (.int p4), .val (.ref a5)] [(.ref a0)]))
  refine own_by (fun _ k => XS.aload X19.here hx rfl (hb hby own_d4_115) rfl rfl k) ?_
  show own_G _ _ _ _ _ _ _ (T19.setTop (mkF m 117 #[.val (.ref a0), .val (.ref a1), .val (.ref a2), .val (.long q3), .second, .val (.int p4), .val (.ref a5)] [(.ref a5), (.ref a0)]))
  obtain ⟨T22, h22, X22, e22, W22, st22⟩ := putF X19 hx hZ hown (host := "") (Or.inl (hw _ (List.mem_of_getElem? (i := 44) rfl))) Via.refl e19 F20_5 F20_0 (Or.inr ⟨(hw _ (List.mem_of_getElem? (i := 45) rfl)), rfl, hnm⟩) (hw _ (List.mem_of_getElem? (i := 29) rfl)) (ty := (.array .byte)) (by decide) rfl rfl (g := (mkF m 117 #[.val (.ref a0), .val (.ref a1), .val (.ref a2), .val (.long q3), .second, .val (.int p4), .val (.ref a5)] [(.ref a5), (.ref a0)])) rfl rfl (hb hby own_d4_117)
  refine own_by st22 ?_
  have F23_0 := F20_0.wr W22
  have F23_1 := F20_1.other W22 (Or.inr (slot_ne (Or.inr (hw _ (List.mem_of_getElem? (i := 37) rfl))) (Or.inr (hw _ (List.mem_of_getElem? (i := 45) rfl))) (by decide) (t := (.object "com/example/wirelore/wirelore/capture/Endpoint")) (t' := (.array .byte)) (by decide) (by decide)))
  have F23_2 := F20_2.other W22 (Or.inr (slot_ne (Or.inr (hw _ (List.mem_of_getElem? (i := 39) rfl))) (Or.inr (hw _ (List.mem_of_getElem? (i := 45) rfl))) (by decide) (t := (.object "com/example/wirelore/wirelore/capture/Endpoint")) (t' := (.array .byte)) (by decide) (by decide)))
  have F23_3 := F20_3.other W22 (Or.inr (slot_ne (Or.inr (hw _ (List.mem_of_getElem? (i := 41) rfl))) (Or.inr (hw _ (List.mem_of_getElem? (i := 45) rfl))) (by decide) (t := .long) (t' := (.array .byte)) (by decide) (by decide)))
  have F23_4 := F20_4.other W22 (Or.inr (slot_ne (Or.inr (hw _ (List.mem_of_getElem? (i := 43) rfl))) (Or.inr (hw _ (List.mem_of_getElem? (i := 45) rfl))) (by decide) (t := .int) (t' := (.array .byte)) (by decide) (by decide)))
  have F23_5 := F20_5.same W22
  have N22 := Fr.snoc X22 N19 g_a
  have Z24 : n0 ≤ h22.size := Nat.le_trans Z21 (Nat.le_of_eq W22.size.symm)
  have K22 := K19.wr W22 (Or.inl (List.mem_of_getElem? (i := 0) rfl))
  show own_G _ _ _ _ _ _ _ (T22.setTop (mkF m 120 #[.val (.ref a0), .val (.ref a1), .val (.ref a2), .val (.long q3), .second, .val (.int p4), .val (.ref a5)] []))
  exact own_end X22 (v := none) (fun _ => rfl) (BodyLoose.notSynchronized Bd) (fun fs hr => X22.returnOut hx Bd.returns (hb hby own_d4_120) hr) (by rw [e22]; exact ⟨rfl, N22, K22, F23_0, F23_1, F23_2, F23_3, F23_4, F23_5⟩) (by decide) (by decide)
theorem own_d5_0 : decode prog_24_method_3_code 0 = .ok (.aload_n 0, 1) := by decide +kernel
theorem own_d5_1 : decode prog_24_method_3_code 1 = .ok (.getfield 41, 3) := by decide +kernel
theorem own_d5_4 : decode prog_24_method_3_code 4 = .ok (.bipush 16, 2) := by decide +kernel
theorem own_d5_6 : decode prog_24_method_3_code 6 = .ok (.iand, 1) := by decide +kernel
theorem own_d5_7 : decode prog_24_method_3_code 7 = .ok (.ifCond .eq 7, 3) := by decide +kernel
theorem own_d5_14 : decode prog_24_method_3_code 14 = .ok (.iconst 0, 1) := by decide +kernel
theorem own_d5_15 : decode prog_24_method_3_code 15 = .ok (.ireturn, 1) := by decide +kernel
theorem own_d5_10 : decode prog_24_method_3_code 10 = .ok (.iconst 1, 1) := by decide +kernel
theorem own_d5_11 : decode prog_24_method_3_code 11 = .ok (.goto 4, 3) := by decide +kernel
theorem own_ef4 (m : MethodId) (x0 : Addr) : entryFrame m #[(.ref x0)] 1 = mkF m 0 #[.val (.ref x0)] [] := by first | (simp [entryFrame, mkF, argsToLocals, Value.category]; done) | rfl
def own_Q4 (Z : State) (a0 : Addr) (x0 : Int32) (h0 : Heap) (n0 : Nat) (v : Option Value) (h : Heap) (L : List Loc) : Prop := v = some (.int (own_ack x0)) ∧ Fr n0 L ∧ h = h0
set_option maxRecDepth 65536 in
set_option maxHeartbeats 40000000 in
theorem rm4 (l : Launch) (Z : State) (aw : Array Value) (hw : ∀ d ∈ tables_1, d.before aw Z = true) (ws : List Jvm.Cond) (a0 : Addr) (x0 : Int32) (h0 : Heap) (n0 : Nat) (Z0 : n0 ≤ h0.size) (F_a0_flags : Fld Z h0 a0 "com/example/wirelore/wirelore/capture/Segment" "flags" "I" (.int x0)) :
    MetFree l (⟨"com/example/wirelore/wirelore/capture/Segment", "ack", "()Z"⟩ : MethodName) (head1 (Jvm.Cond.code (⟨"com/example/wirelore/wirelore/capture/Segment", "ack", "()Z"⟩ : MethodName) prog_24_method_3_code 1 (some .boolean) :: ws) ({ frames := 0, cells := 0, slots := 0, locals := 0 } : Room)) (fun a U => a = #[(.ref a0)] ∧ Z.Warmed39 U.vm ∧ U.heap = h0) (fun _ _ _ _ _ => True) (fun _ U o U' => ∃ v L, o = .returned v ∧ own_Q4 Z a0 x0 h0 n0 v U'.heap L ∧ FrameEnd U o U' L ({ frames := 0, cells := 0, slots := 0, locals := 0 } : Room).cells ({ frames := 0, cells := 0, slots := 0, locals := 0 } : Room).slots) := by
  refine MetFree.of_bodySF (plainFor_of_name own_pn2) hisR ?_
  intro p e s m args below meth c s₁ Bd hml0 hP hK
  obtain ⟨rfl, hZ, hh⟩ := hP
  have hx := Bd.exec
  have hby := Bd.bytes
  have hml : c.maxLocals = 1 := hml0
  have hown : s.vm.findClass "com/example/wirelore/wirelore/capture/Segment" = some m.cls := findClass_of_methodNamed Bd.named
  have hnm := (name_of_methodNamed Bd.named Bd.method).1
  have X0 : Stand p l e ({ frames := 0, cells := 0, slots := 0, locals := 0 } : Room) s m #[(.ref a0)] below meth c s₁ [] 0 0 := Stand.of_body Bd
  have e0 : s₁.heap = h0 := by rw [← hh, Bd.state]; rfl
  have N0 := Fr.nil n0
  show own_G p.tables e below s (own_Q4 Z a0 x0 h0 n0) ({ frames := 0, cells := 0, slots := 0, locals := 0 } : Room).cells ({ frames := 0, cells := 0, slots := 0, locals := 0 } : Room).slots (s₁.setTop (entryFrame m #[(.ref a0)] 1))
  refine own_by (fun _ k => castTop (own_ef4 m a0) k) ?_
  show own_G _ _ _ _ _ _ _ (s₁.setTop (mkF m 0 #[.val (.ref a0)] []))
  refine own_by (fun _ k => XS.aloadN X0.here hx rfl (hb hby own_d5_0) rfl rfl k) ?_
  show own_G _ _ _ _ _ _ _ (s₁.setTop (mkF m 1 #[.val (.ref a0)] [(.ref a0)]))
  obtain ⟨T25, X25, e25, st25⟩ := getF X0 hx hZ hown (host := "") (Or.inl (hw _ (List.mem_of_getElem? (i := 42) rfl))) Via.refl e0 F_a0_flags (g := (mkF m 1 #[.val (.ref a0)] [(.ref a0)])) rfl rfl (hb hby own_d5_1)
  refine own_by st25 ?_
  show own_G _ _ _ _ _ _ _ (T25.setTop (mkF m 4 #[.val (.ref a0)] [(.int x0)]))
  refine own_by (fun _ k => XS.bipush X25.here hx rfl (hb hby own_d5_4) k) ?_
  show own_G _ _ _ _ _ _ _ (T25.setTop (mkF m 6 #[.val (.ref a0)] [(.int (16 : Int32)), (.int x0)]))
  refine own_by (fun _ k => XS.iand X25.here hx rfl (hb hby own_d5_6) rfl k) ?_
  show own_G _ _ _ _ _ _ _ (T25.setTop (mkF m 7 #[.val (.ref a0)] [(.int (x0 &&& (16 : Int32)))]))
  by_cases hc7 : (x0 &&& (16 : Int32)) = (0 : Int32)
  · refine own_by (fun _ k => XS.ifYes X25.here hx rfl (pc0 := 7) (pc' := 14) rfl (hb hby own_d5_7) rfl (XT.i0_eq_t hc7) (by decide) (by decide) k) ?_
    show own_G _ _ _ _ _ _ _ (T25.setTop (mkF m 14 #[.val (.ref a0)] []))
    refine own_by (fun _ k => XS.iconst X25.here hx rfl (hb hby own_d5_14) k) ?_
    show own_G _ _ _ _ _ _ _ (T25.setTop (mkF m 15 #[.val (.ref a0)] [(.int (0 : Int32))]))
    exact own_end X25 (v := some (.int (nar .boolean (0 : Int32)))) (fun h => by rw [Bd.returns] at h; cases h) (BodyLoose.notSynchronized Bd) (fun fs hr => retN X25 hx (t := .boolean) Bd.returns (by simp) (hb hby own_d5_15) hr) (by rw [e25]; exact ⟨(by simp only [own_ack, if_pos hc7]; first | done | rfl), N0, rfl⟩) (by decide) (by decide)
  · refine own_by (fun _ k => XS.ifNo X25.here hx rfl (hb hby own_d5_7) rfl (XT.i0_eq_f hc7) k) ?_
    show own_G _ _ _ _ _ _ _ (T25.setTop (mkF m 10 #[.val (.ref a0)] []))
    refine own_by (fun _ k => XS.iconst X25.here hx rfl (hb hby own_d5_10) k) ?_
    show own_G _ _ _ _ _ _ _ (T25.setTop (mkF m 11 #[.val (.ref a0)] [(.int (1 : Int32))]))
    refine own_by (fun _ k => XS.goto X25.here hx rfl (pc0 := 11) (pc' := 15) rfl (hb hby own_d5_11) (by decide) (by decide) k) ?_
    show own_G _ _ _ _ _ _ _ (T25.setTop (mkF m 15 #[.val (.ref a0)] [(.int (1 : Int32))]))
    exact own_end X25 (v := some (.int (nar .boolean (1 : Int32)))) (fun h => by rw [Bd.returns] at h; cases h) (BodyLoose.notSynchronized Bd) (fun fs hr => retN X25 hx (t := .boolean) Bd.returns (by simp) (hb hby own_d5_15) hr) (by rw [e25]; exact ⟨(by simp only [own_ack, if_neg hc7]; first | done | rfl), N0, rfl⟩) (by decide) (by decide)
theorem own_pd1 : parseMethodDescriptor "(Ljava/lang/String;I)V" = some ⟨[(.object "java/lang/String"), .int], none⟩ := by decide +kernel
theorem own_pd2 : parseMethodDescriptor "(Lcom/example/wirelore/wirelore/capture/Endpoint;Lcom/example/wirelore/wirelore/capture/Endpoint;JI[B)V" = some ⟨[(.object "com/example/wirelore/wirelore/capture/Endpoint"), (.object "com/example/wirelore/wirelore/capture/Endpoint"), .long, .int, (.array .byte)], none⟩ := by decide +kernel
theorem own_pd3 : parseMethodDescriptor "()Z" = some ⟨[], some .boolean⟩ := by decide +kernel
theorem own_pn3 : plainName "com/example/wirelore/wirelore/capture/SegmentAckPinLaw" = true := by first | (simp [plainName, overriddenIn]; done) | decide +kernel
theorem own_ef0 (m : MethodId) (x0 : Int32) (x1 : Int64) : entryFrame m #[(.int x0), (.long x1)] maxLocals = mkF m 0 #[.val (.int x0), .val (.long x1), .second, .unset, .unset, .unset, .unset, .unset, .unset] [] := by first | (simp [entryFrame, mkF, argsToLocals, Value.category, maxLocals]; done) | rfl
def own_Q0 (Z : State) (p0 : Int32) (q1 : Int64) (h0 : Heap) (n0 : Nat) (v : Option Value) (h : Heap) (L : List Loc) : Prop := v = some (.int 1) ∧ Fr n0 L
set_option maxRecDepth 65536 in
set_option maxHeartbeats 40000000 in
theorem rm0 (l : Launch) (Z : State) (aw : Array Value) (hw : ∀ d ∈ tables_1, d.before aw Z = true) (ws : List Jvm.Cond) (p0 : Int32) (q1 : Int64) (h0 : Heap) (n0 : Nat) (Z0 : n0 ≤ h0.size) :
    MetFree l x (head1 (Jvm.Cond.code x code maxLocals ret :: ws) room_1) (fun a U => a = #[(.int p0), (.long q1)] ∧ Z.Warmed39 U.vm ∧ U.heap = h0) (fun _ _ _ _ _ => True) (fun _ U o U' => ∃ v L, o = .returned v ∧ own_Q0 Z p0 q1 h0 n0 v U'.heap L ∧ ReturnedEndW U o U' L room_1.cells room_1.slots) := by
  refine MetFree.of_bodySF (plainFor_of_name own_pn3) hisR ?_
  intro p e s m args below meth c s₁ Bd hml0 hP hK
  obtain ⟨rfl, hZ, hh⟩ := hP
  have hx := Bd.exec
  have hby := Bd.bytes
  have hml : c.maxLocals = 9 := hml0
  have hown : s.vm.findClass "com/example/wirelore/wirelore/capture/SegmentAckPinLaw" = some m.cls := findClass_of_methodNamed Bd.named
  have hnm := (name_of_methodNamed Bd.named Bd.method).1
  have X0 : Stand p l e room_1 s m #[(.int p0), (.long q1)] below meth c s₁ [] 0 0 := Stand.of_body Bd
  have e0 : s₁.heap = h0 := by rw [← hh, Bd.state]; rfl
  have N0 := Fr.nil n0
  show own_GW p.tables e below s (own_Q0 Z p0 q1 h0 n0) room_1.cells room_1.slots (s₁.setTop (entryFrame m #[(.int p0), (.long q1)] maxLocals))
  refine own_byW (fun _ k => castTop (own_ef0 m p0 q1) k) ?_
  show own_GW _ _ _ _ _ _ _ (s₁.setTop (mkF m 0 #[.val (.int p0), .val (.long q1), .second, .unset, .unset, .unset, .unset, .unset, .unset] []))
  refine own_byW (fun _ k => XS.iloadN X0.here hx rfl (hb hby at_0) rfl  k) ?_
  show own_GW _ _ _ _ _ _ _ (s₁.setTop (mkF m 1 #[.val (.int p0), .val (.long q1), .second, .unset, .unset, .unset, .unset, .unset, .unset] [(.int p0)]))
  refine own_byW (fun _ k => XS.sipush X0.here hx rfl (hb hby at_1) k) ?_
  show own_GW _ _ _ _ _ _ _ (s₁.setTop (mkF m 4 #[.val (.int p0), .val (.long q1), .second, .unset, .unset, .unset, .unset, .unset, .unset] [(.int (255 : Int32)), (.int p0)]))
  refine own_byW (fun _ k => XS.iand X0.here hx rfl (hb hby at_4) rfl k) ?_
  show own_GW _ _ _ _ _ _ _ (s₁.setTop (mkF m 5 #[.val (.int p0), .val (.long q1), .second, .unset, .unset, .unset, .unset, .unset, .unset] [(.int (p0 &&& (255 : Int32)))]))
  refine own_byW (fun _ k => XS.istoreN X0.here hx rfl (hb hby at_5) rfl (l' := #[.val (.int p0), .val (.long q1), .second, .val (.int (p0 &&& (255 : Int32))), .unset, .unset, .unset, .unset, .unset]) rfl k) ?_
  show own_GW _ _ _ _ _ _ _ (s₁.setTop (mkF m 6 #[.val (.int p0), .val (.long q1), .second, .val (.int (p0 &&& (255 : Int32))), .unset, .unset, .unset, .unset, .unset] []))
  generalize hnff : (p0 &&& (255 : Int32)) = ff
  show own_GW _ _ _ _ _ _ _ (s₁.setTop (mkF m 6 #[.val (.int p0), .val (.long q1), .second, .val (.int ff), .unset, .unset, .unset, .unset, .unset] []))
  obtain ⟨k, hff, hk⟩ : ∃ k : Nat, ff.toInt = k ∧ k < 256 := by rw [← hnff]; exact own_f _
  refine own_byW (fun _ k => XT.lloadN X0.here hx rfl (hb hby at_6) rfl  k) ?_
  show own_GW _ _ _ _ _ _ _ (s₁.setTop (mkF m 7 #[.val (.int p0), .val (.long q1), .second, .val (.int ff), .unset, .unset, .unset, .unset, .unset] [(.long q1)]))
  refine own_byW (X0.ldc2Long hx hown (mvT hZ (hw _ (List.mem_of_getElem? (i := 0) rfl))) (g := (mkF m 7 #[.val (.int p0), .val (.long q1), .second, .val (.int ff), .unset, .unset, .unset, .unset, .unset] [(.long q1)])) rfl (hb hby at_7)) ?_
  show own_GW _ _ _ _ _ _ _ (s₁.setTop (mkF m 10 #[.val (.int p0), .val (.long q1), .second, .val (.int ff), .unset, .unset, .unset, .unset, .unset] [(.long (4294967295 : Int64)), (.long q1)]))
  refine own_byW (fun _ k => XT.land X0.here hx rfl (hb hby at_10) rfl k) ?_
  show own_GW _ _ _ _ _ _ _ (s₁.setTop (mkF m 11 #[.val (.int p0), .val (.long q1), .second, .val (.int ff), .unset, .unset, .unset, .unset, .unset] [(.long (q1 &&& (4294967295 : Int64)))]))
  refine own_byW (fun _ k => XT.lstore X0.here hx rfl (hb hby at_11) rfl (l' := #[.val (.int p0), .val (.long q1), .second, .val (.int ff), .val (.long (q1 &&& (4294967295 : Int64))), .second, .unset, .unset, .unset]) rfl k) ?_
  show own_GW _ _ _ _ _ _ _ (s₁.setTop (mkF m 13 #[.val (.int p0), .val (.long q1), .second, .val (.int ff), .val (.long (q1 &&& (4294967295 : Int64))), .second, .unset, .unset, .unset] []))
  generalize hnsq : (q1 &&& (4294967295 : Int64)) = sq
  show own_GW _ _ _ _ _ _ _ (s₁.setTop (mkF m 13 #[.val (.int p0), .val (.long q1), .second, .val (.int ff), .val (.long sq), .second, .unset, .unset, .unset] []))
  have hsq : ¬ (sq < (0 : Int64)) ∧ ¬ ((4294967295 : Int64) < sq) := by rw [← hnsq]; exact own_s _
  obtain ⟨T26, h26, X26, e26, E26, A26, D26, -, st26⟩ := newO X0 hx hZ hown (hw _ (List.mem_of_getElem? (i := 1) rfl)) (hw _ (List.mem_of_getElem? (i := 2) rfl)) (hw _ (List.mem_of_getElem? (i := 3) rfl)) e0 (g := (mkF m 13 #[.val (.int p0), .val (.long q1), .second, .val (.int ff), .val (.long sq), .second, .unset, .unset, .unset] [])) rfl (hb hby at_13) (by decide) (by decide)
  obtain ⟨b26, g26⟩ : ∃ z, z = h0.size := ⟨_, rfl⟩
  rw [← g26] at A26 D26 st26
  have g_b26 : n0 ≤ b26 := Nat.le_trans Z0 (Nat.le_of_eq g26.symm)
  refine own_byW st26 ?_
  have Z28 : n0 ≤ h26.size := Nat.le_trans Z0 E26.1
  have F26_address : Fld Z h26 b26 "com/example/wirelore/wirelore/capture/Endpoint" "address" "Ljava/lang/String;" .null := D26 (Or.inr (hw _ (List.mem_of_getElem? (i := 25) rfl))) (ty := (.object "java/lang/String")) (by decide)
  have F26_port : Fld Z h26 b26 "com/example/wirelore/wirelore/capture/Endpoint" "port" "I" (.int (0 : Int32)) := D26 (Or.inr (hw _ (List.mem_of_getElem? (i := 27) rfl))) (ty := .int) (by decide)
  show own_GW _ _ _ _ _ _ _ (T26.setTop (mkF m 16 #[.val (.int p0), .val (.long q1), .second, .val (.int ff), .val (.long sq), .second, .unset, .unset, .unset] [(.ref b26)]))
  refine own_byW (fun _ k => XS.dup X26.here hx rfl (hb hby at_16) rfl rfl k) ?_
  show own_GW _ _ _ _ _ _ _ (T26.setTop (mkF m 17 #[.val (.int p0), .val (.long q1), .second, .val (.int ff), .val (.long sq), .second, .unset, .unset, .unset] [(.ref b26), (.ref b26)]))
  have wS : ∀ a ∈ Bundle.stringAtoms, a.before aw Z = true := fun a ha => by
    rw [show Bundle.stringAtoms = [(Jvm.Cond.initialized "java/lang/String"), (Jvm.Cond.instantiable "java/lang/String" (4 : Nat)), (Jvm.Cond.arrayClass Jvm.ClassFile.FieldType.byte), (Jvm.Cond.laysFinal "java/lang/String" "java/lang/String" "value" "[B"), (Jvm.Cond.laysFinal "java/lang/String" "java/lang/String" "coder" "B"), (Jvm.Cond.soleField "java/lang/String" "value"), (Jvm.Cond.soleField "java/lang/String" "coder")] from rfl] at ha
    simp only [List.mem_cons, List.not_mem_nil, or_false] at ha
    rcases ha with rfl | rfl | rfl | rfl | rfl | rfl | rfl
    · exact (hw _ (List.mem_of_getElem? (i := 5) rfl))
    · exact (hw _ (List.mem_of_getElem? (i := 6) rfl))
    · exact (hw _ (List.mem_of_getElem? (i := 7) rfl))
    · exact (hw _ (List.mem_of_getElem? (i := 8) rfl))
    · exact (hw _ (List.mem_of_getElem? (i := 9) rfl))
    · exact (hw _ (List.mem_of_getElem? (i := 10) rfl))
    · exact (hw _ (List.mem_of_getElem? (i := 11) rfl))
  obtain ⟨as, T29, h29, k1, X29, e29, E29, hS, hk1, hZ', hown', st29⟩ := ldcS (s := s) (vm0 := s.vm) X26 hx hZ hown (hw _ (List.mem_of_getElem? (i := 4) rfl)) wS e26 ((State.WarmedH.refl s).since 0) (Nat.zero_le _) (g := (mkF m 17 #[.val (.int p0), .val (.long q1), .second, .val (.int ff), .val (.long sq), .second, .unset, .unset, .unset] [(.ref b26), (.ref b26)])) rfl (hb hby at_17) (n := 4) (by decide) (by decide) (by decide) (by decide)
  refine own_byW st29 ?_
  refine own_toW hS ?_
  obtain ⟨s', hs'⟩ : ∃ s', s' = s.setVm T29.vm := ⟨_, rfl⟩
  rw [← hs'] at X29 hZ' hown'
  rw [← hs']
  have hZ := hZ'
  have hown := hown'
  have F30_0 := A26.ext E29
  have F30_1 := F26_address.ext E29
  have F30_2 := F26_port.ext E29
  have Z31 : n0 ≤ h29.size := Nat.le_trans Z28 E29.1
  show own_G _ _ _ _ _ _ _ (T29.setTop (mkF m 19 #[.val (.int p0), .val (.long q1), .second, .val (.int ff), .val (.long sq), .second, .unset, .unset, .unset] [(.ref as), (.ref b26), (.ref b26)]))
  refine own_by (fun _ k => XS.iconst X29.here hx rfl (hb hby at_19) k) ?_
  show own_G _ _ _ _ _ _ _ (T29.setTop (mkF m 20 #[.val (.int p0), .val (.long q1), .second, .val (.int ff), .val (.long sq), .second, .unset, .unset, .unset] [(.int (1 : Int32)), (.ref as), (.ref b26), (.ref b26)]))
  obtain ⟨_, _, ⟨T32, L32, k32, n32⟩, -, X32, ⟨Lc32, hQ32, l32, y32, z32⟩, st32⟩ := X29.specialBack hx (y := (⟨"com/example/wirelore/wirelore/capture/Endpoint", "<init>", "(Ljava/lang/String;I)V"⟩ : MethodName)) rfl hown (mvT hZ (hw _ (List.mem_of_getElem? (i := 12) rfl))) (mvT hZ (hw _ (List.mem_of_getElem? (i := 13) rfl))) (mvT hZ (hw _ (List.mem_of_getElem? (i := 14) rfl))) (by decide) (backOf (W := 1) (rm2 l Z aw hw [] b26 as (1 : Int32) h29 n0 Z31 F30_0 F30_1 F30_2 g_b26 (by decide) (by decide)) hZ (hw _ (List.mem_of_getElem? (i := 14) rfl)) (hw _ (List.mem_of_getElem? (i := 3) rfl)) (by decide) (by decide)) (g := (mkF m 20 #[.val (.int p0), .val (.long q1), .second, .val (.int ff), .val (.long sq), .second, .unset, .unset, .unset] [(.int (1 : Int32)), (.ref as), (.ref b26), (.ref b26)])) rfl (by rw [hml]; rfl) (Steps.refl _) (a := b26) (argsL := [(.ref as), (.int (1 : Int32))]) (rest := [(.ref b26)]) (lenOf own_pd1 rfl) rfl (by show 2 * 0 + _ ≤ _; exact Nat.le_of_eq rfl) (hb hby at_20) (fun _ _ => ⟨rfl, e29, (by decide : 3 + 0 ≤ _), (by decide : 10 + 0 ≤ _)⟩)
  dsimp only [Pt.U, Pt.locs, Pt.cells, Pt.slots] at X32 l32 y32 z32 st32 hQ32
  subst l32 y32 z32
  obtain ⟨h32, e32⟩ : ∃ h, T32.heap = h := ⟨_, rfl⟩
  rw [e32] at hQ32
  obtain ⟨rfl, Nq32, K32, E32, G32_0, G32_1⟩ := hQ32
  have N32 := Fr.app N0 Nq32
  have F33_0 := F30_0.keep K32
  have Z34 : n0 ≤ h32.size := Nat.le_trans Z31 K32.1
  have Z34' : k1 ≤ h32.size := Nat.le_trans hk1 K32.1
  refine own_by (fun _ k => st32.trans k) ?_
  show own_G _ _ _ _ _ _ _ (T32.setTop (mkF m 23 #[.val (.int p0), .val (.long q1), .second, .val (.int ff), .val (.long sq), .second, .unset, .unset, .unset] [(.ref b26)]))
  refine own_by (fun _ k => XS.astore X32.here hx rfl (hb hby at_23) rfl rfl (l' := #[.val (.int p0), .val (.long q1), .second, .val (.int ff), .val (.long sq), .second, .val (.ref b26), .unset, .unset]) rfl k) ?_
  show own_G _ _ _ _ _ _ _ (T32.setTop (mkF m 25 #[.val (.int p0), .val (.long q1), .second, .val (.int ff), .val (.long sq), .second, .val (.ref b26), .unset, .unset] []))
  obtain ⟨T35, h35, X35, e35, E35, A35, D35, -, st35⟩ := newO X32 hx hZ hown (hw _ (List.mem_of_getElem? (i := 28) rfl)) (hw _ (List.mem_of_getElem? (i := 29) rfl)) (hw _ (List.mem_of_getElem? (i := 30) rfl)) e32 (g := (mkF m 25 #[.val (.int p0), .val (.long q1), .second, .val (.int ff), .val (.long sq), .second, .val (.ref b26), .unset, .unset] [])) rfl (hb hby at_25) (by decide) (by decide)
  obtain ⟨b35, g35⟩ : ∃ z, z = h32.size := ⟨_, rfl⟩
  rw [← g35] at A35 D35 st35
  have ne_b26_b35 : b26 ≠ b35 := Nat.ne_of_lt (Nat.lt_of_lt_of_le E32.lt (Nat.le_of_eq g35.symm))
  have g_b35 : n0 ≤ b35 := Nat.le_trans Z34 (Nat.le_of_eq g35.symm)
  refine own_by st35 ?_
  have F36_0 := E32.ext E35
  have F36_1 := G32_0.ext E35
  have F36_2 := G32_1.ext E35
  have Z37 : n0 ≤ h35.size := Nat.le_trans Z34 E35.1
  have Z37' : k1 ≤ h35.size := Nat.le_trans Z34' E35.1
  have F35_source : Fld Z h35 b35 "com/example/wirelore/wirelore/capture/Segment" "source" "Lcom/example/wirelore/wirelore/capture/Endpoint;" .null := D35 (Or.inr (hw _ (List.mem_of_getElem? (i := 37) rfl))) (ty := (.object "com/example/wirelore/wirelore/capture/Endpoint")) (by decide)
  have F35_destination : Fld Z h35 b35 "com/example/wirelore/wirelore/capture/Segment" "destination" "Lcom/example/wirelore/wirelore/capture/Endpoint;" .null := D35 (Or.inr (hw _ (List.mem_of_getElem? (i := 39) rfl))) (ty := (.object "com/example/wirelore/wirelore/capture/Endpoint")) (by decide)
  have F35_sequence : Fld Z h35 b35 "com/example/wirelore/wirelore/capture/Segment" "sequence" "J" (.long (0 : Int64)) := D35 (Or.inr (hw _ (List.mem_of_getElem? (i := 41) rfl))) (ty := .long) (by decide)
  have F35_flags : Fld Z h35 b35 "com/example/wirelore/wirelore/capture/Segment" "flags" "I" (.int (0 : Int32)) := D35 (Or.inr (hw _ (List.mem_of_getElem? (i := 43) rfl))) (ty := .int) (by decide)
  have F35_payload : Fld Z h35 b35 "com/example/wirelore/wirelore/capture/Segment" "payload" "[B" .null := D35 (Or.inr (hw _ (List.mem_of_getElem? (i := 45) rfl))) (ty := (.array .byte)) (by decide)
  show own_G _ _ _ _ _ _ _ (T35.setTop (mkF m 28 #[.val (.int p0), .val (.long q1), .second, .val (.int ff), .val (.long sq), .second, .val (.ref b26), .unset, .unset] [(.ref b35)]))
  refine own_by (fun _ k => XS.dup X35.here hx rfl (hb hby at_28) rfl rfl k) ?_
  show own_G _ _ _ _ _ _ _ (T35.setTop (mkF m 29 #[.val (.int p0), .val (.long q1), .second, .val (.int ff), .val (.long sq), .second, .val (.ref b26), .unset, .unset] [(.ref b35), (.ref b35)]))
  refine own_by (fun _ k => XS.aload X35.here hx rfl (hb hby at_29) rfl rfl k) ?_
  show own_G _ _ _ _ _ _ _ (T35.setTop (mkF m 31 #[.val (.int p0), .val (.long q1), .second, .val (.int ff), .val (.long sq), .second, .val (.ref b26), .unset, .unset] [(.ref b26), (.ref b35), (.ref b35)]))
  refine own_by (fun _ k => XS.aload X35.here hx rfl (hb hby at_31) rfl rfl k) ?_
  show own_G _ _ _ _ _ _ _ (T35.setTop (mkF m 33 #[.val (.int p0), .val (.long q1), .second, .val (.int ff), .val (.long sq), .second, .val (.ref b26), .unset, .unset] [(.ref b26), (.ref b26), (.ref b35), (.ref b35)]))
  refine own_by (fun _ k => XT.lload X35.here hx rfl (hb hby at_33) rfl  k) ?_
  show own_G _ _ _ _ _ _ _ (T35.setTop (mkF m 35 #[.val (.int p0), .val (.long q1), .second, .val (.int ff), .val (.long sq), .second, .val (.ref b26), .unset, .unset] [(.long sq), (.ref b26), (.ref b26), (.ref b35), (.ref b35)]))
  refine own_by (fun _ k => XS.iloadN X35.here hx rfl (hb hby at_35) rfl  k) ?_
  show own_G _ _ _ _ _ _ _ (T35.setTop (mkF m 36 #[.val (.int p0), .val (.long q1), .second, .val (.int ff), .val (.long sq), .second, .val (.ref b26), .unset, .unset] [(.int ff), (.long sq), (.ref b26), (.ref b26), (.ref b35), (.ref b35)]))
  refine own_by (fun _ k => XS.iconst X35.here hx rfl (hb hby at_36) k) ?_
  show own_G _ _ _ _ _ _ _ (T35.setTop (mkF m 37 #[.val (.int p0), .val (.long q1), .second, .val (.int ff), .val (.long sq), .second, .val (.ref b26), .unset, .unset] [(.int (0 : Int32)), (.int ff), (.long sq), (.ref b26), (.ref b26), (.ref b35), (.ref b35)]))
  obtain ⟨T38, h38, X38, e38, E38, A38, st38⟩ := own_newB X35 hx hZ (hw _ (List.mem_of_getElem? (i := 7) rfl)) e35 (g := (mkF m 37 #[.val (.int p0), .val (.long q1), .second, .val (.int ff), .val (.long sq), .second, .val (.ref b26), .unset, .unset] [(.int (0 : Int32)), (.int ff), (.long sq), (.ref b26), (.ref b26), (.ref b35), (.ref b35)])) rfl (hb hby at_37) rfl (N := 0) (by decide) (cap := 0) (Nat.le_refl _) (by decide) (by decide) (by decide)
  obtain ⟨b38, g38⟩ : ∃ z, z = h35.size := ⟨_, rfl⟩
  rw [← g38] at A38 st38
  have ne_b26_b38 : b26 ≠ b38 := Nat.ne_of_lt (Nat.lt_of_lt_of_le F36_0.lt (Nat.le_of_eq g38.symm))
  have ne_b35_b38 : b35 ≠ b38 := Nat.ne_of_lt (Nat.lt_of_lt_of_le A35.lt (Nat.le_of_eq g38.symm))
  have g_b38 : n0 ≤ b38 := Nat.le_trans Z37 (Nat.le_of_eq g38.symm)
  refine own_by st38 ?_
  have F39_0 := F36_0.ext E38
  have F39_1 := F36_1.ext E38
  have F39_2 := F36_2.ext E38
  have F39_3 := A35.ext E38
  have F39_4 := F35_source.ext E38
  have F39_5 := F35_destination.ext E38
  have F39_6 := F35_sequence.ext E38
  have F39_7 := F35_flags.ext E38
  have F39_8 := F35_payload.ext E38
  have Z40 : n0 ≤ h38.size := Nat.le_trans Z37 E38.1
  have Z40' : k1 ≤ h38.size := Nat.le_trans Z37' E38.1
  show own_G _ _ _ _ _ _ _ (T38.setTop (mkF m 39 #[.val (.int p0), .val (.long q1), .second, .val (.int ff), .val (.long sq), .second, .val (.ref b26), .unset, .unset] [(.ref b38), (.int ff), (.long sq), (.ref b26), (.ref b26), (.ref b35), (.ref b35)]))
  obtain ⟨_, _, ⟨T41, L41, k41, n41⟩, -, X41, ⟨Lc41, hQ41, l41, y41, z41⟩, st41⟩ := X38.specialBack hx (y := (⟨"com/example/wirelore/wirelore/capture/Segment", "<init>", "(Lcom/example/wirelore/wirelore/capture/Endpoint;Lcom/example/wirelore/wirelore/capture/Endpoint;JI[B)V"⟩ : MethodName)) rfl hown (mvT hZ (hw _ (List.mem_of_getElem? (i := 31) rfl))) (mvT hZ (hw _ (List.mem_of_getElem? (i := 32) rfl))) (mvT hZ (hw _ (List.mem_of_getElem? (i := 33) rfl))) (by decide) (backOf (W := 1) (rm3 l Z aw hw [] b35 b26 b26 sq ff b38 h38 n0 Z40 F39_3 F39_4 F39_5 F39_6 F39_7 F39_8 g_b35 hsq.1 hsq.2 (own_fr hff hk).1 (own_fr hff hk).2) hZ (hw _ (List.mem_of_getElem? (i := 33) rfl)) (hw _ (List.mem_of_getElem? (i := 30) rfl)) (by decide) (by decide)) (g := (mkF m 39 #[.val (.int p0), .val (.long q1), .second, .val (.int ff), .val (.long sq), .second, .val (.ref b26), .unset, .unset] [(.ref b38), (.int ff), (.long sq), (.ref b26), (.ref b26), (.ref b35), (.ref b35)])) rfl (by rw [hml]; rfl) (Steps.refl _) (a := b35) (argsL := [(.ref b26), (.ref b26), (.long sq), (.int ff), (.ref b38)]) (rest := [(.ref b35)]) (lenOf own_pd2 rfl) rfl (by show 2 * 0 + _ ≤ _; exact Nat.le_of_eq rfl) (hb hby at_39) (fun _ _ => ⟨rfl, e38, (by decide : 5 + 0 ≤ _), (by decide : 15 + 0 ≤ _)⟩)
  dsimp only [Pt.U, Pt.locs, Pt.cells, Pt.slots] at X41 l41 y41 z41 st41 hQ41
  subst l41 y41 z41
  obtain ⟨h41, e41⟩ : ∃ h, T41.heap = h := ⟨_, rfl⟩
  rw [e41] at hQ41
  obtain ⟨rfl, Nq41, K41, E41, G41_0, G41_1, G41_2, G41_3, G41_4⟩ := hQ41
  have N41 := Fr.app N32 Nq41
  have F42_0 := F39_0.keep K41
  have F42_1 := F39_1.keep K41 (ninS ne_b26_b35 nin0)
  have F42_2 := F39_2.keep K41 (ninS ne_b26_b35 nin0)
  have F42_3 := F39_3.keep K41
  have F42_9 := A38.keep K41 (ninS (Ne.symm ne_b35_b38) nin0)
  have Z43 : n0 ≤ h41.size := Nat.le_trans Z40 K41.1
  have Z43' : k1 ≤ h41.size := Nat.le_trans Z40' K41.1
  refine own_by (fun _ k => st41.trans k) ?_
  show own_G _ _ _ _ _ _ _ (T41.setTop (mkF m 42 #[.val (.int p0), .val (.long q1), .second, .val (.int ff), .val (.long sq), .second, .val (.ref b26), .unset, .unset] [(.ref b35)]))
  refine own_by (fun _ k => XS.astore X41.here hx rfl (hb hby at_42) rfl rfl (l' := #[.val (.int p0), .val (.long q1), .second, .val (.int ff), .val (.long sq), .second, .val (.ref b26), .val (.ref b35), .unset]) rfl k) ?_
  show own_G _ _ _ _ _ _ _ (T41.setTop (mkF m 44 #[.val (.int p0), .val (.long q1), .second, .val (.int ff), .val (.long sq), .second, .val (.ref b26), .val (.ref b35), .unset] []))
  refine own_by (fun _ k => XS.iloadN X41.here hx rfl (hb hby at_44) rfl  k) ?_
  show own_G _ _ _ _ _ _ _ (T41.setTop (mkF m 45 #[.val (.int p0), .val (.long q1), .second, .val (.int ff), .val (.long sq), .second, .val (.ref b26), .val (.ref b35), .unset] [(.int ff)]))
  refine own_by (fun _ k => XS.bipush X41.here hx rfl (hb hby at_45) k) ?_
  show own_G _ _ _ _ _ _ _ (T41.setTop (mkF m 47 #[.val (.int p0), .val (.long q1), .second, .val (.int ff), .val (.long sq), .second, .val (.ref b26), .val (.ref b35), .unset] [(.int (16 : Int32)), (.int ff)]))
  refine own_by (fun _ k => XS.idiv X41.here hx rfl (hb hby at_47) rfl (by decide) k) ?_
  show own_G _ _ _ _ _ _ _ (T41.setTop (mkF m 48 #[.val (.int p0), .val (.long q1), .second, .val (.int ff), .val (.long sq), .second, .val (.ref b26), .val (.ref b35), .unset] [(.int (ff / (16 : Int32)))]))
  refine own_by (fun _ k => XS.iconst X41.here hx rfl (hb hby at_48) k) ?_
  show own_G _ _ _ _ _ _ _ (T41.setTop (mkF m 49 #[.val (.int p0), .val (.long q1), .second, .val (.int ff), .val (.long sq), .second, .val (.ref b26), .val (.ref b35), .unset] [(.int (2 : Int32)), (.int (ff / (16 : Int32)))]))
  refine own_by (fun _ k => iremM (g := (mkF m 49 #[.val (.int p0), .val (.long q1), .second, .val (.int ff), .val (.long sq), .second, .val (.ref b26), .val (.ref b35), .unset] [(.int (2 : Int32)), (.int (ff / (16 : Int32)))])) X41 hx rfl (hb hby at_49) rfl (by decide) k) ?_
  show own_G _ _ _ _ _ _ _ (T41.setTop (mkF m 50 #[.val (.int p0), .val (.long q1), .second, .val (.int ff), .val (.long sq), .second, .val (.ref b26), .val (.ref b35), .unset] [(.int ((ff / (16 : Int32)) % (2 : Int32)))]))
  refine own_by (fun _ k => XS.iconst X41.here hx rfl (hb hby at_50) k) ?_
  show own_G _ _ _ _ _ _ _ (T41.setTop (mkF m 51 #[.val (.int p0), .val (.long q1), .second, .val (.int ff), .val (.long sq), .second, .val (.ref b26), .val (.ref b35), .unset] [(.int (1 : Int32)), (.int ((ff / (16 : Int32)) % (2 : Int32)))]))
  by_cases hc51 : ((ff / (16 : Int32)) % (2 : Int32)) = (1 : Int32)
  · refine own_by (fun _ k => XS.icmpNo X41.here hx rfl (hb hby at_51) rfl (XT.ii_ne_f hc51) k) ?_
    show own_G _ _ _ _ _ _ _ (T41.setTop (mkF m 54 #[.val (.int p0), .val (.long q1), .second, .val (.int ff), .val (.long sq), .second, .val (.ref b26), .val (.ref b35), .unset] []))
    refine own_by (fun _ k => XS.iconst X41.here hx rfl (hb hby at_54) k) ?_
    show own_G _ _ _ _ _ _ _ (T41.setTop (mkF m 55 #[.val (.int p0), .val (.long q1), .second, .val (.int ff), .val (.long sq), .second, .val (.ref b26), .val (.ref b35), .unset] [(.int (1 : Int32))]))
    refine own_by (fun _ k => XS.goto X41.here hx rfl (pc0 := 55) (pc' := 59) rfl (hb hby at_55) (by decide) (by decide) k) ?_
    show own_G _ _ _ _ _ _ _ (T41.setTop (mkF m 59 #[.val (.int p0), .val (.long q1), .second, .val (.int ff), .val (.long sq), .second, .val (.ref b26), .val (.ref b35), .unset] [(.int (1 : Int32))]))
    refine own_by (fun _ k => XS.istore X41.here hx rfl (hb hby at_59) rfl (l' := #[.val (.int p0), .val (.long q1), .second, .val (.int ff), .val (.long sq), .second, .val (.ref b26), .val (.ref b35), .val (.int (1 : Int32))]) rfl k) ?_
    show own_G _ _ _ _ _ _ _ (T41.setTop (mkF m 61 #[.val (.int p0), .val (.long q1), .second, .val (.int ff), .val (.long sq), .second, .val (.ref b26), .val (.ref b35), .val (.int (1 : Int32))] []))
    refine own_by (fun _ k => XS.aload X41.here hx rfl (hb hby at_61) rfl rfl k) ?_
    show own_G _ _ _ _ _ _ _ (T41.setTop (mkF m 63 #[.val (.int p0), .val (.long q1), .second, .val (.int ff), .val (.long sq), .second, .val (.ref b26), .val (.ref b35), .val (.int (1 : Int32))] [(.ref b35)]))
    obtain ⟨cq44, kq44, q44a, q44b, q44c⟩ := isOf hZ e41 E41
    obtain ⟨_, _, ⟨T44, L44, k44, n44⟩, -, X44, ⟨Lc44, hQ44, l44, y44, z44⟩, st44⟩ := X41.virtualBack hx (y := (⟨"com/example/wirelore/wirelore/capture/Segment", "ack", "()Z"⟩ : MethodName)) (z := (⟨"com/example/wirelore/wirelore/capture/Segment", "ack", "()Z"⟩ : MethodName)) hown (mvT hZ (hw _ (List.mem_of_getElem? (i := 46) rfl))) (mvT hZ (hw _ (List.mem_of_getElem? (i := 47) rfl))) (notFace_of_selects (args := #[]) (mvT hZ (hw _ (List.mem_of_getElem? (i := 49) rfl)))) (mvT hZ (hw _ (List.mem_of_getElem? (i := 49) rfl))) (mvT hZ (hw _ (List.mem_of_getElem? (i := 48) rfl))) (by decide) (backOf (W := 0) (rm4 l Z aw hw [] b35 ff h41 n0 Z43 G41_3) hZ (hw _ (List.mem_of_getElem? (i := 50) rfl)) (hw _ (List.mem_of_getElem? (i := 30) rfl)) (by decide) (by decide)) q44a q44c (g := (mkF m 63 #[.val (.int p0), .val (.long q1), .second, .val (.int ff), .val (.long sq), .second, .val (.ref b26), .val (.ref b35), .val (.int (1 : Int32))] [(.ref b35)])) rfl (by rw [hml]; rfl) (Steps.refl _) (argsL := []) (rest := []) (lenOf own_pd3 rfl) rfl (by show 2 * 0 + _ ≤ _; exact Nat.le_of_eq rfl) (hb hby at_63) (fun _ _ => ⟨rfl, e41, (by decide : 5 + 0 ≤ _), (by decide : 15 + 0 ≤ _)⟩)
    dsimp only [Pt.U, Pt.locs, Pt.cells, Pt.slots] at X44 l44 y44 z44 st44 hQ44
    subst l44 y44 z44
    obtain ⟨rfl, Nq44, e44⟩ := hQ44
    have N44 := Fr.app N41 Nq44
    refine own_by (fun _ k => st44.trans k) ?_
    show own_G _ _ _ _ _ _ _ (T44.setTop (mkF m 66 #[.val (.int p0), .val (.long q1), .second, .val (.int ff), .val (.long sq), .second, .val (.ref b26), .val (.ref b35), .val (.int (1 : Int32))] [(.int (own_ack ff))]))
    refine own_by (fun _ k => XS.iload X44.here hx rfl (hb hby at_66) rfl  k) ?_
    show own_G _ _ _ _ _ _ _ (T44.setTop (mkF m 68 #[.val (.int p0), .val (.long q1), .second, .val (.int ff), .val (.long sq), .second, .val (.ref b26), .val (.ref b35), .val (.int (1 : Int32))] [(.int (1 : Int32)), (.int (own_ack ff))]))
    have hc68 : (own_ack ff) = (1 : Int32) := (by rw [own_fin hff hk]; simp only [if_pos hc51])
    refine own_by (fun _ k => XS.icmpNo X44.here hx rfl (hb hby at_68) rfl (XT.ii_ne_f hc68) k) ?_
    show own_G _ _ _ _ _ _ _ (T44.setTop (mkF m 71 #[.val (.int p0), .val (.long q1), .second, .val (.int ff), .val (.long sq), .second, .val (.ref b26), .val (.ref b35), .val (.int (1 : Int32))] []))
    refine own_by (fun _ k => XS.iconst X44.here hx rfl (hb hby at_71) k) ?_
    show own_G _ _ _ _ _ _ _ (T44.setTop (mkF m 72 #[.val (.int p0), .val (.long q1), .second, .val (.int ff), .val (.long sq), .second, .val (.ref b26), .val (.ref b35), .val (.int (1 : Int32))] [(.int (1 : Int32))]))
    refine own_by (fun _ k => XS.goto X44.here hx rfl (pc0 := 72) (pc' := 76) rfl (hb hby at_72) (by decide) (by decide) k) ?_
    show own_G _ _ _ _ _ _ _ (T44.setTop (mkF m 76 #[.val (.int p0), .val (.long q1), .second, .val (.int ff), .val (.long sq), .second, .val (.ref b26), .val (.ref b35), .val (.int (1 : Int32))] [(.int (1 : Int32))]))
    exact own_end X44 (v := some (.int (nar .boolean (1 : Int32)))) (fun h => by rw [Bd.returns] at h; cases h) (BodyLoose.notSynchronized Bd) (fun fs hr => retN X44 hx (t := .boolean) Bd.returns (by simp) (hb hby at_76) hr) (by rw [e44]; exact ⟨⟨rfl, N44⟩, Z43'⟩) (by decide) (by decide)
  · refine own_by (fun _ k => XS.icmpYes X41.here hx rfl (pc0 := 51) (pc' := 58) rfl (hb hby at_51) rfl (XT.ii_ne_t hc51) (by decide) (by decide) k) ?_
    show own_G _ _ _ _ _ _ _ (T41.setTop (mkF m 58 #[.val (.int p0), .val (.long q1), .second, .val (.int ff), .val (.long sq), .second, .val (.ref b26), .val (.ref b35), .unset] []))
    refine own_by (fun _ k => XS.iconst X41.here hx rfl (hb hby at_58) k) ?_
    show own_G _ _ _ _ _ _ _ (T41.setTop (mkF m 59 #[.val (.int p0), .val (.long q1), .second, .val (.int ff), .val (.long sq), .second, .val (.ref b26), .val (.ref b35), .unset] [(.int (0 : Int32))]))
    refine own_by (fun _ k => XS.istore X41.here hx rfl (hb hby at_59) rfl (l' := #[.val (.int p0), .val (.long q1), .second, .val (.int ff), .val (.long sq), .second, .val (.ref b26), .val (.ref b35), .val (.int (0 : Int32))]) rfl k) ?_
    show own_G _ _ _ _ _ _ _ (T41.setTop (mkF m 61 #[.val (.int p0), .val (.long q1), .second, .val (.int ff), .val (.long sq), .second, .val (.ref b26), .val (.ref b35), .val (.int (0 : Int32))] []))
    refine own_by (fun _ k => XS.aload X41.here hx rfl (hb hby at_61) rfl rfl k) ?_
    show own_G _ _ _ _ _ _ _ (T41.setTop (mkF m 63 #[.val (.int p0), .val (.long q1), .second, .val (.int ff), .val (.long sq), .second, .val (.ref b26), .val (.ref b35), .val (.int (0 : Int32))] [(.ref b35)]))
    obtain ⟨cq45, kq45, q45a, q45b, q45c⟩ := isOf hZ e41 E41
    obtain ⟨_, _, ⟨T45, L45, k45, n45⟩, -, X45, ⟨Lc45, hQ45, l45, y45, z45⟩, st45⟩ := X41.virtualBack hx (y := (⟨"com/example/wirelore/wirelore/capture/Segment", "ack", "()Z"⟩ : MethodName)) (z := (⟨"com/example/wirelore/wirelore/capture/Segment", "ack", "()Z"⟩ : MethodName)) hown (mvT hZ (hw _ (List.mem_of_getElem? (i := 46) rfl))) (mvT hZ (hw _ (List.mem_of_getElem? (i := 47) rfl))) (notFace_of_selects (args := #[]) (mvT hZ (hw _ (List.mem_of_getElem? (i := 49) rfl)))) (mvT hZ (hw _ (List.mem_of_getElem? (i := 49) rfl))) (mvT hZ (hw _ (List.mem_of_getElem? (i := 48) rfl))) (by decide) (backOf (W := 0) (rm4 l Z aw hw [] b35 ff h41 n0 Z43 G41_3) hZ (hw _ (List.mem_of_getElem? (i := 50) rfl)) (hw _ (List.mem_of_getElem? (i := 30) rfl)) (by decide) (by decide)) q45a q45c (g := (mkF m 63 #[.val (.int p0), .val (.long q1), .second, .val (.int ff), .val (.long sq), .second, .val (.ref b26), .val (.ref b35), .val (.int (0 : Int32))] [(.ref b35)])) rfl (by rw [hml]; rfl) (Steps.refl _) (argsL := []) (rest := []) (lenOf own_pd3 rfl) rfl (by show 2 * 0 + _ ≤ _; exact Nat.le_of_eq rfl) (hb hby at_63) (fun _ _ => ⟨rfl, e41, (by decide : 5 + 0 ≤ _), (by decide : 15 + 0 ≤ _)⟩)
    dsimp only [Pt.U, Pt.locs, Pt.cells, Pt.slots] at X45 l45 y45 z45 st45 hQ45
    subst l45 y45 z45
    obtain ⟨rfl, Nq45, e45⟩ := hQ45
    have N45 := Fr.app N41 Nq45
    refine own_by (fun _ k => st45.trans k) ?_
    show own_G _ _ _ _ _ _ _ (T45.setTop (mkF m 66 #[.val (.int p0), .val (.long q1), .second, .val (.int ff), .val (.long sq), .second, .val (.ref b26), .val (.ref b35), .val (.int (0 : Int32))] [(.int (own_ack ff))]))
    refine own_by (fun _ k => XS.iload X45.here hx rfl (hb hby at_66) rfl  k) ?_
    show own_G _ _ _ _ _ _ _ (T45.setTop (mkF m 68 #[.val (.int p0), .val (.long q1), .second, .val (.int ff), .val (.long sq), .second, .val (.ref b26), .val (.ref b35), .val (.int (0 : Int32))] [(.int (0 : Int32)), (.int (own_ack ff))]))
    have hc68 : (own_ack ff) = (0 : Int32) := (by rw [own_fin hff hk]; simp only [if_neg hc51])
    refine own_by (fun _ k => XS.icmpNo X45.here hx rfl (hb hby at_68) rfl (XT.ii_ne_f hc68) k) ?_
    show own_G _ _ _ _ _ _ _ (T45.setTop (mkF m 71 #[.val (.int p0), .val (.long q1), .second, .val (.int ff), .val (.long sq), .second, .val (.ref b26), .val (.ref b35), .val (.int (0 : Int32))] []))
    refine own_by (fun _ k => XS.iconst X45.here hx rfl (hb hby at_71) k) ?_
    show own_G _ _ _ _ _ _ _ (T45.setTop (mkF m 72 #[.val (.int p0), .val (.long q1), .second, .val (.int ff), .val (.long sq), .second, .val (.ref b26), .val (.ref b35), .val (.int (0 : Int32))] [(.int (1 : Int32))]))
    refine own_by (fun _ k => XS.goto X45.here hx rfl (pc0 := 72) (pc' := 76) rfl (hb hby at_72) (by decide) (by decide) k) ?_
    show own_G _ _ _ _ _ _ _ (T45.setTop (mkF m 76 #[.val (.int p0), .val (.long q1), .second, .val (.int ff), .val (.long sq), .second, .val (.ref b26), .val (.ref b35), .val (.int (0 : Int32))] [(.int (1 : Int32))]))
    exact own_end X45 (v := some (.int (nar .boolean (1 : Int32)))) (fun h => by rw [Bd.returns] at h; cases h) (BodyLoose.notSynchronized Bd) (fun fs hr => retN X45 hx (t := .boolean) Bd.returns (by simp) (hb hby at_76) hr) (by rw [e45]; exact ⟨⟨rfl, N45⟩, Z43'⟩) (by decide) (by decide)
set_option maxRecDepth 65536 in
set_option maxHeartbeats 40000000 in
theorem comes_1 {Post : Tables → Env → Array Value → State → Outcome → State → Prop} (hpost : ∀ tb e args s v u, (limb_1_1.after args s (.returned v) u = true ∧ limb_1_2.after args s (.returned v) u = true ∧ True) → ReturnedEndW s (.returned v) u (Jvm.fieldLocs frame_1_writes args s ++ Jvm.arrayLocs frame_1_arrays args s ++ Jvm.staticLocs frame_1_statics s) 16 1152 → Post tb e args s (.returned v) u) :
    ArmFor flags0 classFile x code maxLocals ret World_1 tables_1 room_1 Calls_1 rest_1 Pre_1 Post := by
  intro l hfl _ _ p e ha hc hk s m args below hf hA hF happ hP
  obtain ⟨hcalls, hrest, hpre⟩ := hP
  obtain ⟨-, -, -, hnamed, -, -, -, hat⟩ := (Spec.applies_iff hf).mp happ
  obtain ⟨hg, hn⟩ := and_e (Cond.before_iff.mp (show (Jvm.Cond.and given_1 narrow_1).before args s = true from hpre))
  obtain ⟨gc, hg⟩ := and_e hg
  obtain ⟨g0, hg⟩ := and_e hg
  have g1 := hg
  obtain ⟨w0, w1, rfl⟩ : ∃ w0 w1 : Value, args = #[w0, w1] := by
    have hs : args.size = 2 := by simpa [Cond.value, given_1] using gc
    obtain ⟨L⟩ := args
    match L, hs with
    | [w0, w1], _ => exact ⟨w0, w1, rfl⟩
  have hw := fun d (hd : d ∈ tables_1) => atoms_spec (ws := Jvm.Cond.code x code maxLocals ret :: tables_1) hat d (List.mem_cons_of_mem _ hd)
  obtain ⟨i0, ei0⟩ := is_v g0
  obtain rfl : w0 = (.int i0) := Option.some.inj ei0
  obtain ⟨i1, ei1⟩ := isL_v g1
  obtain rfl : w1 = (.long i1) := Option.some.inj ei1
  obtain ⟨n, o, h1, h2, h3, _, L, rfl, ⟨rfl, N⟩, hq⟩ := rm0 l s _ hw tables_1 i0 i1  s.heap s.heap.size (Nat.le_refl _)  p e ha hc hk s m _ below hf ((Spec.applies_iff_loose hf).mp happ).1 ⟨rfl, State.Warmed39.refl s, rfl⟩ trivial
  refine ⟨n, _, h1, h2, h3, hpost _ _ _ _ _ _ ⟨Cond.after_iff.mpr rfl, Cond.after_iff.mpr (eq_i res_at (Term.int_eval (1)) rfl), trivial⟩ ⟨hq.1, hq.2.1, hq.2.2.1, (hq.2.2.2.sift fun y hy => Or.inr (N y hy)).mono (by decide) (by decide)⟩⟩
theorem main_1_1 : Claimed_1_1 := comes_1 fun _ _ _ _ _ _ h hF => ⟨h.1, hF⟩
theorem main_1_2 : Claimed_1_2 := comes_1 fun _ _ _ _ _ _ h hF => ⟨h.2.1, hF⟩
end Jvm.Pilot.@@N@@
namespace Jvm.Pilot.@@N@@
open Jvm Jvm.ClassFile Sem Op Lib Jvm.Free Jvm.Stand Jvm.Pilot.@@N@@.Jvm.D
/-! MADE BY PROGRAM (witnessworld.py) out of the Statement's table words and the real class files: 17 classes; the members and pool entries that the words name. The judged class is class 1, her method 1. -/
namespace start1
open Jvm.ClassFile
def u (s : String) : CpInfo := .utf8 (stringToUtf16 s)
/-- a pool by its gaps: so many unusable entries, then the entry; so many at the end -/
def gap : Nat → List CpInfo → List CpInfo
  | 0, r => r
  | n + 1, r => .unusable :: gap n r
def poolList (es : List (Nat × CpInfo)) (last : Nat) : List CpInfo := es.foldr (fun e r => gap e.1 (e.2 :: r)) (gap last [])
def pool (es : List (Nat × CpInfo)) (last : Nat) : Array CpInfo := ⟨poolList es last⟩
def fileOf (pool : Array CpInfo) (this : Nat) (attrs : Array Attribute := #[]) (ms : Array MethodInfo := #[]) (fl : Nat := 33) (sup : Nat := 0) (ifs : Array Nat := #[]) (fds : Array FieldInfo := #[]) : ClassFile where
  minorVersion := 0
  majorVersion := 65
  constantPool := pool
  accessFlags := fl
  thisClass := this
  superClass := sup
  interfaces := ifs
  fields := fds
  methods := ms
  attributes := attrs
def plain (name : String) (sup : Option ClassId) : Class where
  name := name
  kind := .ordinary
  loader := none
  accessFlags := 33
  super := sup
  interfaces := #[]
  cf := none
  fields := #[]
  methods := #[]
  instanceTypes := #[]
  staticTypes := #[]
  resolved := #[]
  callSites := []
  init := .initialized
  statics := none
  mirror := none

def pool0 : Array CpInfo := pool [(5, u "<init>"), (0, u "()V"), (1, .class_ 10), (1, u "java/lang/Object")] 113

def k0c0 : Code := { maxStack := 0, maxLocals := 1, code := object_method_1_code, exceptionTable := #[], attributes := #[] }
def k0m0 : Method := { name := "<init>", desc := "()V", sig := { parameters := [], returnType := none }, accessFlags := 1, code := some k0c0 }
/-- java/lang/Object -/
def k0 : Class := { plain "java/lang/Object" none with
  accessFlags := 33
  interfaces := #[]
  cf := some (fileOf pool0 8 #[] #[{ accessFlags := 1, nameIndex := 5, descriptorIndex := 6, attributes := #[] }] 33 0 #[] #[])
  fields := #[]
  methods := #[k0m0]
  instanceTypes := #[]
  staticTypes := #[]
  resolved := Array.replicate 124 none
  statics := none }

def pool1 : Array CpInfo := pool [(2, .class_ 4), (1, u "java/lang/Object"), (0, u "<init>"), (0, u "()V"), (0, .long 4294967295), (1, .class_ 10), (0, u "com/example/wirelore/wirelore/capture/Endpoint"), (0, .string 12), (0, u "a"), (0, .methodref 9 14), (0, .nameAndType 5 15), (0, u "(Ljava/lang/String;I)V"), (0, .class_ 17), (0, u "com/example/wirelore/wirelore/capture/Segment"), (0, .methodref 16 19), (0, .nameAndType 5 20), (0, u "(Lcom/example/wirelore/wirelore/capture/Endpoint;Lcom/example/wirelore/wirelore/capture/Endpoint;JI[B)V"), (0, .methodref 16 22), (0, .nameAndType 23 24), (0, u "ack"), (0, u "()Z"), (0, .class_ 26), (0, u "com/example/wirelore/wirelore/capture/SegmentAckPinLaw"), (2, u "law"), (0, u "(IJ)Z")] 3

def k1m0 : Method := { name := "<init>", desc := "()V", sig := { parameters := [], returnType := none }, accessFlags := 1, code := none }
def k1c1 : Code := { maxStack := 8, maxLocals := 9, code := code, exceptionTable := #[], attributes := #[] }
def k1m1 : Method := { name := "law", desc := "(IJ)Z", sig := { parameters := [.int, .long], returnType := some .boolean }, accessFlags := 9, code := some k1c1 }
/-- com/example/wirelore/wirelore/capture/SegmentAckPinLaw -/
def k1 : Class := { plain "com/example/wirelore/wirelore/capture/SegmentAckPinLaw" (some 0) with
  accessFlags := 49
  interfaces := #[]
  cf := some (fileOf pool1 25 #[] #[{ accessFlags := 1, nameIndex := 5, descriptorIndex := 6, attributes := #[] }, { accessFlags := 9, nameIndex := 29, descriptorIndex := 30, attributes := #[] }] 49 2 #[] #[])
  fields := #[]
  methods := #[k1m0, k1m1]
  instanceTypes := #[]
  staticTypes := #[]
  resolved := Array.replicate 34 none
  statics := none }

def pool2 : Array CpInfo := pool [(1, .methodref 2 3), (0, .class_ 4), (0, .nameAndType 5 6), (0, u "java/lang/Object"), (0, u "<init>"), (0, u "()V"), (0, .class_ 8), (0, u "java/lang/Record")] 13

def k2c0 : Code := { maxStack := 1, maxLocals := 1, code := jdk_30_method_1_code, exceptionTable := #[], attributes := #[] }
def k2m0 : Method := { name := "<init>", desc := "()V", sig := { parameters := [], returnType := none }, accessFlags := 4, code := some k2c0 }
/-- java/lang/Record -/
def k2 : Class := { plain "java/lang/Record" (some 0) with
  accessFlags := 1057
  interfaces := #[]
  cf := some (fileOf pool2 7 #[] #[{ accessFlags := 4, nameIndex := 5, descriptorIndex := 6, attributes := #[] }] 1057 2 #[] #[])
  fields := #[]
  methods := #[k2m0]
  instanceTypes := #[]
  staticTypes := #[]
  resolved := Array.replicate 22 none
  statics := none }

def pool3 : Array CpInfo := pool [(1, .methodref 2 3), (0, .class_ 4), (0, .nameAndType 5 6), (0, u "java/lang/Record"), (0, u "<init>"), (0, u "()V"), (7, .integer 65535), (7, .fieldref 23 24), (0, .class_ 25), (0, .nameAndType 26 27), (0, u "com/example/wirelore/wirelore/capture/Endpoint"), (0, u "address"), (0, u "Ljava/lang/String;"), (0, .fieldref 23 29), (0, .nameAndType 30 31), (0, u "port"), (0, u "I"), (17, u "(Ljava/lang/String;I)V"), (67, u "IPV4_LENGTH"), (2, u "IPV6_GROUPS")] 44

def k3c0 : Code := { maxStack := 3, maxLocals := 3, code := prog_16_method_1_code, exceptionTable := #[], attributes := #[] }
def k3m0 : Method := { name := "<init>", desc := "(Ljava/lang/String;I)V", sig := { parameters := [(.object "java/lang/String"), .int], returnType := none }, accessFlags := 1, code := some k3c0 }
/-- com/example/wirelore/wirelore/capture/Endpoint -/
def k3 : Class := { plain "com/example/wirelore/wirelore/capture/Endpoint" (some 2) with
  accessFlags := 49
  interfaces := #[]
  cf := some (fileOf pool3 23 #[] #[{ accessFlags := 1, nameIndex := 5, descriptorIndex := 49, attributes := #[] }] 49 2 #[] #[{ accessFlags := 18, nameIndex := 26, descriptorIndex := 27, attributes := #[] }, { accessFlags := 18, nameIndex := 30, descriptorIndex := 31, attributes := #[] }, { accessFlags := 26, nameIndex := 117, descriptorIndex := 31, attributes := #[] }, { accessFlags := 26, nameIndex := 120, descriptorIndex := 31, attributes := #[] }])
  fields := #[{ name := "address", type := (.object "java/lang/String"), accessFlags := 18, slot := 0, constantValue := 0 }, { name := "port", type := .int, accessFlags := 18, slot := 1, constantValue := 0 }, { name := "IPV4_LENGTH", type := .int, accessFlags := 26, slot := 0, constantValue := 0 }, { name := "IPV6_GROUPS", type := .int, accessFlags := 26, slot := 1, constantValue := 0 }]
  methods := #[k3m0]
  instanceTypes := #[(.object "java/lang/String"), .int]
  staticTypes := #[.int, .int]
  resolved := Array.replicate 165 none
  statics := none }

def pool4 : Array CpInfo := pool [(1, .class_ 2), (0, u "java/io/Serializable"), (0, .class_ 4), (0, u "java/lang/Object")] 2

/-- java/io/Serializable -/
def k4 : Class := { plain "java/io/Serializable" (some 0) with
  accessFlags := 1537
  interfaces := #[]
  cf := some (fileOf pool4 1 #[] #[] 1537 3 #[] #[])
  fields := #[]
  methods := #[]
  instanceTypes := #[]
  staticTypes := #[]
  resolved := Array.replicate 7 none
  statics := none }

def pool5 : Array CpInfo := pool [(1, .class_ 2), (0, u "java/lang/Comparable"), (0, .class_ 4), (0, u "java/lang/Object")] 7

/-- java/lang/Comparable -/
def k5 : Class := { plain "java/lang/Comparable" (some 0) with
  accessFlags := 1537
  interfaces := #[]
  cf := some (fileOf pool5 1 #[] #[] 1537 3 #[] #[])
  fields := #[]
  methods := #[]
  instanceTypes := #[]
  staticTypes := #[]
  resolved := Array.replicate 12 none
  statics := none }

def pool6 : Array CpInfo := pool [(2, .class_ 4), (1, u "java/lang/CharSequence"), (42, .class_ 48), (0, u "java/lang/CharSequence$1CodePointIterator"), (10, .class_ 60), (0, u "java/lang/CharSequence$1CharIterator"), (5, .class_ 67), (0, u "java/lang/Object")] 63

/-- java/lang/CharSequence -/
def k6 : Class := { plain "java/lang/CharSequence" (some 0) with
  accessFlags := 1537
  interfaces := #[]
  cf := some (fileOf pool6 2 #[.nestMembers #[47, 59]] #[] 1537 66 #[] #[])
  fields := #[]
  methods := #[]
  instanceTypes := #[]
  staticTypes := #[]
  resolved := Array.replicate 131 none
  statics := none }

def pool7 : Array CpInfo := pool [(1, .class_ 2), (0, u "java/lang/constant/Constable"), (0, .class_ 4), (0, u "java/lang/Object")] 6

/-- java/lang/constant/Constable -/
def k7 : Class := { plain "java/lang/constant/Constable" (some 0) with
  accessFlags := 1537
  interfaces := #[]
  cf := some (fileOf pool7 1 #[] #[] 1537 3 #[] #[])
  fields := #[]
  methods := #[]
  instanceTypes := #[]
  staticTypes := #[]
  resolved := Array.replicate 11 none
  statics := none }

def pool8 : Array CpInfo := pool [(1, .class_ 2), (0, u "java/lang/constant/ConstantDesc"), (0, .class_ 4), (0, u "java/lang/Object")] 32

/-- java/lang/constant/ConstantDesc -/
def k8 : Class := { plain "java/lang/constant/ConstantDesc" (some 0) with
  accessFlags := 1537
  interfaces := #[]
  cf := some (fileOf pool8 1 #[] #[] 1537 3 #[] #[])
  fields := #[]
  methods := #[]
  instanceTypes := #[]
  staticTypes := #[]
  resolved := Array.replicate 37 none
  statics := none }

def pool9 : Array CpInfo := pool [(2, .class_ 4), (1, u "java/lang/Object"), (0, u "<init>"), (0, u "()V"), (3, .class_ 12), (1, u "java/lang/String"), (0, u "value"), (0, u "[B"), (2, u "coder"), (0, u "B"), (2, u "hash"), (0, u "I"), (2, u "hashIsZero"), (0, u "Z"), (13, u "COMPACT_STRINGS"), (534, .class_ 576), (0, u "java/lang/CharSequence"), (22, u "CASE_INSENSITIVE_ORDER"), (0, u "Ljava/util/Comparator;"), (500, u "serialPersistentFields"), (0, u "[Ljava/io/ObjectStreamField;"), (0, .class_ 1104), (0, u "java/lang/String$CaseInsensitiveComparator"), (1, .class_ 1107), (0, u "java/io/Serializable"), (0, .class_ 1109), (0, u "java/lang/Comparable"), (0, .class_ 1111), (0, u "java/lang/constant/Constable"), (0, .class_ 1113), (0, u "java/lang/constant/ConstantDesc"), (2, u "serialVersionUID"), (0, u "J"), (3, u "REPL"), (0, u "C"), (2, u "LATIN1"), (1, u "UTF16")] 323

def k9m0 : Method := { name := "<init>", desc := "()V", sig := { parameters := [], returnType := none }, accessFlags := 1, code := none }
/-- java/lang/String -/
def k9 : Class := { plain "java/lang/String" (some 0) with
  accessFlags := 49
  interfaces := #[4, 5, 6, 7, 8]
  cf := some (fileOf pool9 10 #[.nestMembers #[1103]] #[{ accessFlags := 1, nameIndex := 5, descriptorIndex := 6, attributes := #[] }] 49 2 #[1106, 1108, 575, 1110, 1112] #[{ accessFlags := 18, nameIndex := 13, descriptorIndex := 14, attributes := #[] }, { accessFlags := 18, nameIndex := 17, descriptorIndex := 18, attributes := #[] }, { accessFlags := 2, nameIndex := 21, descriptorIndex := 22, attributes := #[] }, { accessFlags := 2, nameIndex := 25, descriptorIndex := 26, attributes := #[] }, { accessFlags := 26, nameIndex := 1116, descriptorIndex := 1117, attributes := #[] }, { accessFlags := 24, nameIndex := 40, descriptorIndex := 26, attributes := #[] }, { accessFlags := 26, nameIndex := 1101, descriptorIndex := 1102, attributes := #[] }, { accessFlags := 26, nameIndex := 1121, descriptorIndex := 1122, attributes := #[] }, { accessFlags := 25, nameIndex := 599, descriptorIndex := 600, attributes := #[] }, { accessFlags := 24, nameIndex := 1125, descriptorIndex := 18, attributes := #[] }, { accessFlags := 24, nameIndex := 1127, descriptorIndex := 18, attributes := #[] }])
  fields := #[{ name := "value", type := (.array .byte), accessFlags := 18, slot := 0, constantValue := 0 }, { name := "coder", type := .byte, accessFlags := 18, slot := 1, constantValue := 0 }, { name := "hash", type := .int, accessFlags := 2, slot := 2, constantValue := 0 }, { name := "hashIsZero", type := .boolean, accessFlags := 2, slot := 3, constantValue := 0 }, { name := "serialVersionUID", type := .long, accessFlags := 26, slot := 0, constantValue := 0 }, { name := "COMPACT_STRINGS", type := .boolean, accessFlags := 24, slot := 1, constantValue := 0 }, { name := "serialPersistentFields", type := (.array (.object "java/io/ObjectStreamField")), accessFlags := 26, slot := 2, constantValue := 0 }, { name := "REPL", type := .char, accessFlags := 26, slot := 3, constantValue := 0 }, { name := "CASE_INSENSITIVE_ORDER", type := (.object "java/util/Comparator"), accessFlags := 25, slot := 4, constantValue := 0 }, { name := "LATIN1", type := .byte, accessFlags := 24, slot := 5, constantValue := 0 }, { name := "UTF16", type := .byte, accessFlags := 24, slot := 6, constantValue := 0 }]
  methods := #[k9m0]
  instanceTypes := #[(.array .byte), .byte, .int, .boolean]
  staticTypes := #[.long, .boolean, (.array (.object "java/io/ObjectStreamField")), .char, (.object "java/util/Comparator"), .byte, .byte]
  resolved := Array.replicate 1451 none
  statics := none }

def pool10 : Array CpInfo := pool [(1, .class_ 2), (0, u "com/example/wirelore/wirelore/capture/Transport"), (0, .class_ 4), (0, u "java/lang/Object")] 12

/-- com/example/wirelore/wirelore/capture/Transport -/
def k10 : Class := { plain "com/example/wirelore/wirelore/capture/Transport" (some 0) with
  accessFlags := 1537
  interfaces := #[]
  cf := some (fileOf pool10 1 #[] #[] 1537 3 #[] #[])
  fields := #[]
  methods := #[]
  instanceTypes := #[]
  staticTypes := #[]
  resolved := Array.replicate 17 none
  statics := none }

def pool11 : Array CpInfo := pool [(1, .methodref 2 3), (0, .class_ 4), (0, .nameAndType 5 6), (0, u "java/lang/Record"), (0, u "<init>"), (0, u "()V"), (9, .long 4294967295), (11, .fieldref 29 30), (0, .class_ 31), (0, .nameAndType 32 33), (0, u "com/example/wirelore/wirelore/capture/Segment"), (0, u "source"), (0, u "Lcom/example/wirelore/wirelore/capture/Endpoint;"), (0, .fieldref 29 35), (0, .nameAndType 36 33), (0, u "destination"), (0, .fieldref 29 38), (0, .nameAndType 39 40), (0, u "sequence"), (0, u "J"), (0, .fieldref 29 42), (0, .nameAndType 43 44), (0, u "flags"), (0, u "I"), (0, .fieldref 29 46), (0, .nameAndType 47 48), (0, u "payload"), (0, u "[B"), (12, .class_ 62), (0, u "com/example/wirelore/wirelore/capture/Transport"), (0, u "FIN"), (2, u "SYN"), (1, u "RST"), (1, u "ACK"), (1, u "(Lcom/example/wirelore/wirelore/capture/Endpoint;Lcom/example/wirelore/wirelore/capture/Endpoint;JI[B)V"), (8, u "()Z"), (0, u "ack")] 42

def k11c0 : Code := { maxStack := 4, maxLocals := 7, code := prog_24_method_1_code, exceptionTable := #[], attributes := #[] }
def k11m0 : Method := { name := "<init>", desc := "(Lcom/example/wirelore/wirelore/capture/Endpoint;Lcom/example/wirelore/wirelore/capture/Endpoint;JI[B)V", sig := { parameters := [(.object "com/example/wirelore/wirelore/capture/Endpoint"), (.object "com/example/wirelore/wirelore/capture/Endpoint"), .long, .int, (.array .byte)], returnType := none }, accessFlags := 1, code := some k11c0 }
def k11c1 : Code := { maxStack := 2, maxLocals := 1, code := prog_24_method_3_code, exceptionTable := #[], attributes := #[] }
def k11m1 : Method := { name := "ack", desc := "()Z", sig := { parameters := [], returnType := some .boolean }, accessFlags := 1, code := some k11c1 }
/-- com/example/wirelore/wirelore/capture/Segment -/
def k11 : Class := { plain "com/example/wirelore/wirelore/capture/Segment" (some 2) with
  accessFlags := 49
  interfaces := #[10]
  cf := some (fileOf pool11 29 #[] #[{ accessFlags := 1, nameIndex := 5, descriptorIndex := 72, attributes := #[] }, { accessFlags := 1, nameIndex := 82, descriptorIndex := 81, attributes := #[] }] 49 2 #[61] #[{ accessFlags := 18, nameIndex := 32, descriptorIndex := 33, attributes := #[] }, { accessFlags := 18, nameIndex := 36, descriptorIndex := 33, attributes := #[] }, { accessFlags := 18, nameIndex := 39, descriptorIndex := 40, attributes := #[] }, { accessFlags := 18, nameIndex := 43, descriptorIndex := 44, attributes := #[] }, { accessFlags := 18, nameIndex := 47, descriptorIndex := 48, attributes := #[] }, { accessFlags := 26, nameIndex := 63, descriptorIndex := 44, attributes := #[] }, { accessFlags := 26, nameIndex := 66, descriptorIndex := 44, attributes := #[] }, { accessFlags := 26, nameIndex := 68, descriptorIndex := 44, attributes := #[] }, { accessFlags := 26, nameIndex := 70, descriptorIndex := 44, attributes := #[] }])
  fields := #[{ name := "source", type := (.object "com/example/wirelore/wirelore/capture/Endpoint"), accessFlags := 18, slot := 0, constantValue := 0 }, { name := "destination", type := (.object "com/example/wirelore/wirelore/capture/Endpoint"), accessFlags := 18, slot := 1, constantValue := 0 }, { name := "sequence", type := .long, accessFlags := 18, slot := 2, constantValue := 0 }, { name := "flags", type := .int, accessFlags := 18, slot := 3, constantValue := 0 }, { name := "payload", type := (.array .byte), accessFlags := 18, slot := 4, constantValue := 0 }, { name := "FIN", type := .int, accessFlags := 26, slot := 0, constantValue := 0 }, { name := "SYN", type := .int, accessFlags := 26, slot := 1, constantValue := 0 }, { name := "RST", type := .int, accessFlags := 26, slot := 2, constantValue := 0 }, { name := "ACK", type := .int, accessFlags := 26, slot := 3, constantValue := 0 }]
  methods := #[k11m0, k11m1]
  instanceTypes := #[(.object "com/example/wirelore/wirelore/capture/Endpoint"), (.object "com/example/wirelore/wirelore/capture/Endpoint"), .long, .int, (.array .byte)]
  staticTypes := #[.int, .int, .int, .int]
  resolved := Array.replicate 125 none
  statics := none }

def pool12 : Array CpInfo := pool [(1, u "java/lang/Cloneable"), (0, .class_ 1), (0, u "java/lang/Object"), (0, .class_ 3)] 3

/-- java/lang/Cloneable -/
def k12 : Class := { plain "java/lang/Cloneable" (some 0) with
  accessFlags := 1537
  interfaces := #[]
  cf := some (fileOf pool12 2 #[] #[] 1537 4 #[] #[])
  fields := #[]
  methods := #[]
  instanceTypes := #[]
  staticTypes := #[]
  resolved := Array.replicate 8 none
  statics := none }

/-- the primitive byte -/
def k13 : Class := { plain "byte" none with kind := .primitive 'B', accessFlags := 0x411 }
/-- [B -/
def k14 : Class := { plain "[B" (some 0) with kind := .array 13 .byte, interfaces := #[12, 4], accessFlags := 1041 }

/-- the primitive int -/
def k15 : Class := { plain "int" none with kind := .primitive 'I', accessFlags := 0x411 }
/-- [I -/
def k16 : Class := { plain "[I" (some 0) with kind := .array 15 .int, interfaces := #[12, 4], accessFlags := 1041 }

def heap : Heap := #[]
def classes : Array Class := #[k0, k1, k2, k3, k4, k5, k6, k7, k8, k9, k10, k11, k12, k13, k14, k15, k16]
def interned : List (Array UInt16 × Addr) := []
def slotsUsed : Nat := 0
def theMethod : MethodId := ⟨1, 1⟩
def args0 : Array Value := #[.int 5, .long 5]
def aboutOver (below : List Frame) : State where
  vm := { classes := classes, interned := interned.toArray }
  heap := heap
  slotsUsed := slotsUsed
  threads := #[{ frames := .invoking theMethod args0 :: below }]
def below0 : List Frame := [.native { method := ⟨0, 0⟩, args := #[] }]
def about1 : State := aboutOver below0
def p0 : Program := .bare "" "" ""
def e0 : Env := launch0.env 0 0 0
theorem w_frames : about1.frames = Frame.invoking theMethod args0 :: below0 := rfl
set_option maxRecDepth 65536 in
theorem w_args : argsFit about1.vm theMethod args0 = true := by decide +kernel
set_option maxRecDepth 65536 in
theorem w_heap : heapFits about1 = true := by decide +kernel
set_option maxRecDepth 65536 in
theorem w_runnable : about1.curStatus? = some .runnable := by decide +kernel
set_option maxRecDepth 65536 in
theorem w_alone : about1.alone = true := by decide +kernel
set_option maxRecDepth 65536 in
theorem w_named : about1.methodNamed? x = some theMethod := by decide +kernel
set_option maxRecDepth 65536 in
theorem w_hears : about1.hears theMethod below0 = true := by decide +kernel
set_option maxRecDepth 65536 in
theorem w_ripe : about1.ripe theMethod args0 below0 = true := by decide +kernel
theorem w_running : about1.status = .running := rfl
set_option maxRecDepth 65536 in
theorem w_room : about1.hasRoom e0.platform room_1 = true :=
  launch0.hasRoom_least _ room_1 (by decide +kernel) (by decide +kernel) (by decide +kernel) (by decide +kernel) (by decide +kernel) (by decide +kernel)
theorem allAtoms_all (ts : List Jvm.Cond) (a : Array Jvm.Value) (st : Jvm.State) : (allAtoms ts).before a st = ts.all (fun c => c.before a st) := by
  induction ts with
  | nil => rfl
  | cons c t ih =>
    show (Jvm.Cond.and c (allAtoms t)).before a st = _
    rw [Jvm.Cond.before_and, ih, List.all_cons]
def words1 : List Jvm.Cond := Jvm.Cond.code x code maxLocals ret :: tables_1
/-- a 'code' word, met by the world's own term for the bytes: nothing is compared byte by byte -/
theorem code_word {y : MethodName} {bytes : ByteArray} {mx : Nat} {rt : Option FieldType} {a : Array Value} {s : State} {m : MethodId} {meth : Method} {c : Code} (h1 : s.methodNamed? y = some m) (h2 : s.vm.method? m = some meth) (h3 : meth.code = some c) (h4 : c.code = bytes)
    (h5 : (c.maxLocals == mx && c.exceptionTable.isEmpty && decide (c.maxStack ≤ mostOperands) && decide (meth.sig.returnType = rt) && !meth.locks && decide (parseMethodDescriptor y.desc = some meth.sig)) = true) : (Jvm.Cond.code y bytes mx rt).before a s = true := by
  simp only [Bool.and_eq_true, beq_iff_eq, Bool.not_eq_true', decide_eq_true_eq] at h5
  obtain ⟨⟨⟨⟨⟨g1, g2⟩, g3⟩, g4⟩, g5⟩, g6⟩ := h5
  simp [Cond.before, Cond.holds, Cond.value, h1, h2, h3, h4, g1, g2, g3, g4, g5, g6]
def isCode : Jvm.Cond → Bool
  | .code _ _ _ _ => true
  | _ => false
theorem all_split {L : List Jvm.Cond} {P : Jvm.Cond → Bool} (h1 : L.all (fun c => isCode c || P c) = true) (h2 : ∀ c ∈ L.filter isCode, P c = true) : L.all P = true := by
  refine List.all_eq_true.mpr fun c hc => ?_
  have h := List.all_eq_true.mp h1 c hc
  rcases Bool.eq_false_or_eq_true (isCode c) with hi | hi
  · exact h2 c (List.mem_filter.mpr ⟨hc, hi⟩)
  · simpa [hi] using h
set_option maxRecDepth 65536 in
theorem w_c0 : (Jvm.Cond.code x code maxLocals ret).before args0 about1 = true := code_word (m := ⟨1, 1⟩) (meth := k1m1) (c := k1c1) (by decide +kernel) rfl rfl rfl (by decide +kernel)
set_option maxRecDepth 65536 in
theorem w_c1 : (Jvm.Cond.code ({ cls := "com/example/wirelore/wirelore/capture/Endpoint", name := "<init>", desc := "(Ljava/lang/String;I)V" } : Jvm.MethodName) prog_16_method_1_code (3 : Nat) (Option.none : Option Jvm.ClassFile.FieldType)).before args0 about1 = true := code_word (m := ⟨3, 0⟩) (meth := k3m0) (c := k3c0) (by decide +kernel) rfl rfl rfl (by decide +kernel)
set_option maxRecDepth 65536 in
theorem w_c2 : (Jvm.Cond.code ({ cls := "java/lang/Record", name := "<init>", desc := "()V" } : Jvm.MethodName) jdk_30_method_1_code (1 : Nat) (Option.none : Option Jvm.ClassFile.FieldType)).before args0 about1 = true := code_word (m := ⟨2, 0⟩) (meth := k2m0) (c := k2c0) (by decide +kernel) rfl rfl rfl (by decide +kernel)
set_option maxRecDepth 65536 in
theorem w_c3 : (Jvm.Cond.code ({ cls := "java/lang/Object", name := "<init>", desc := "()V" } : Jvm.MethodName) object_method_1_code (1 : Nat) (Option.none : Option Jvm.ClassFile.FieldType)).before args0 about1 = true := code_word (m := ⟨0, 0⟩) (meth := k0m0) (c := k0c0) (by decide +kernel) rfl rfl rfl (by decide +kernel)
set_option maxRecDepth 65536 in
theorem w_c4 : (Jvm.Cond.code ({ cls := "com/example/wirelore/wirelore/capture/Segment", name := "<init>", desc := "(Lcom/example/wirelore/wirelore/capture/Endpoint;Lcom/example/wirelore/wirelore/capture/Endpoint;JI[B)V" } : Jvm.MethodName) prog_24_method_1_code (7 : Nat) (Option.none : Option Jvm.ClassFile.FieldType)).before args0 about1 = true := code_word (m := ⟨11, 0⟩) (meth := k11m0) (c := k11c0) (by decide +kernel) rfl rfl rfl (by decide +kernel)
set_option maxRecDepth 65536 in
theorem w_c5 : (Jvm.Cond.code ({ cls := "com/example/wirelore/wirelore/capture/Segment", name := "ack", desc := "()Z" } : Jvm.MethodName) prog_24_method_3_code (1 : Nat) (Option.some Jvm.ClassFile.FieldType.boolean)).before args0 about1 = true := code_word (m := ⟨11, 1⟩) (meth := k11m1) (c := k11c1) (by decide +kernel) rfl rfl rfl (by decide +kernel)
def codes1 : List Jvm.Cond := [Jvm.Cond.code x code maxLocals ret, Jvm.Cond.code ({ cls := "com/example/wirelore/wirelore/capture/Endpoint", name := "<init>", desc := "(Ljava/lang/String;I)V" } : Jvm.MethodName) prog_16_method_1_code (3 : Nat) (Option.none : Option Jvm.ClassFile.FieldType), Jvm.Cond.code ({ cls := "java/lang/Record", name := "<init>", desc := "()V" } : Jvm.MethodName) jdk_30_method_1_code (1 : Nat) (Option.none : Option Jvm.ClassFile.FieldType), Jvm.Cond.code ({ cls := "java/lang/Object", name := "<init>", desc := "()V" } : Jvm.MethodName) object_method_1_code (1 : Nat) (Option.none : Option Jvm.ClassFile.FieldType), Jvm.Cond.code ({ cls := "com/example/wirelore/wirelore/capture/Segment", name := "<init>", desc := "(Lcom/example/wirelore/wirelore/capture/Endpoint;Lcom/example/wirelore/wirelore/capture/Endpoint;JI[B)V" } : Jvm.MethodName) prog_24_method_1_code (7 : Nat) (Option.none : Option Jvm.ClassFile.FieldType), Jvm.Cond.code ({ cls := "com/example/wirelore/wirelore/capture/Segment", name := "ack", desc := "()Z" } : Jvm.MethodName) prog_24_method_3_code (1 : Nat) (Option.some Jvm.ClassFile.FieldType.boolean)]
set_option maxRecDepth 65536 in
theorem codes_eq : words1.filter isCode = codes1 := rfl
theorem w_codes : ∀ c ∈ words1.filter isCode, c.before args0 about1 = true := by
  rw [codes_eq]
  intro c hc
  simp only [codes1, List.mem_cons, List.not_mem_nil, or_false] at hc
  rcases hc with rfl | rfl | rfl | rfl | rfl | rfl
  · exact w_c0
  · exact w_c1
  · exact w_c2
  · exact w_c3
  · exact w_c4
  · exact w_c5
set_option maxRecDepth 65536 in
theorem w_t1 : (words1.take 24).all (fun c => isCode c || c.before args0 about1) = true := by decide +kernel
set_option maxRecDepth 65536 in
theorem w_t2 : ((words1.drop 24).take 24).all (fun c => isCode c || c.before args0 about1) = true := by decide +kernel
set_option maxRecDepth 65536 in
theorem w_t3 : ((words1.drop 24).drop 24).all (fun c => isCode c || c.before args0 about1) = true := by decide +kernel
theorem w_tables : (allAtoms (Jvm.Cond.code x code maxLocals ret :: tables_1)).before args0 about1 = true := by
  rw [allAtoms_all]
  show words1.all (fun c => c.before args0 about1) = true
  refine all_split ?_ w_codes
  rw [← List.take_append_drop 24 words1, List.all_append, w_t1, ← List.take_append_drop 24 (words1.drop 24), List.all_append, w_t2, w_t3]
  rfl
set_option maxRecDepth 65536 in
theorem w_case : (Jvm.Cond.and given_1 narrow_1).before args0 about1 = true := by decide +kernel
theorem w_applies : (headSpec (Jvm.Cond.code x code maxLocals ret :: tables_1) room_1).applies x e0.platform about1 = true :=
  (Spec.applies_iff w_frames).mpr ⟨w_running, w_runnable, w_alone, w_named, w_hears, w_ripe, w_room, w_tables⟩
theorem atStart : AtStart classFile x code maxLocals ret World_1 tables_1 room_1 Calls_1 rest_1 Pre_1 launch0 p0 e0 about1 theMethod args0 below0 :=
  ⟨lists_1, trivial, launch0.admits_env _ _ _, launch0.least_env, fairChoices_fair.cas, fairChoices_fair.clock, w_frames, w_args, w_heap, w_applies, trivial, trivial, w_case⟩
end start1
theorem witness_1 : WitnessClaimed_1 := ⟨start1.p0, start1.e0, start1.about1, start1.theMethod, start1.args0, start1.below0, start1.atStart⟩
end Jvm.Pilot.@@N@@
