import JvmDerived
import JvmDerived.Pilot.@@N@@Statement
import JvmDerived.Pilot.@@N@@Code
set_option linter.unusedVariables false
set_option linter.unusedSimpArgs false
namespace Jvm.RoadKit
open Sem ClassFile Op Lib Jvm.Stand Jvm.Free Jvm.LawKit
section New
variable {p : Program} {l : Launch} {e : Env} {R : Room} {s : State} {m : MethodId} {args : Array Value} {below : List Frame} {meth : Method} {c : Code} {T : State} {locs : List Loc} {cells slots : Nat}
theorem retI (X : Stand p l e R s m args below meth c T locs cells slots) (hx : p.tables.exec = Jvm.exec) {pc : Nat} {Ls : Array Slot} {z : Int32} {rest : List Value} (hret : meth.sig.returnType = some .int) (hd : decode c.code pc = .ok (.ireturn, 1)) {fs : List Frame}
    (hl : ∀ (f : JFrame) (acts : List Action), f.method = m → f.locked = none → f.entered = [] → (doReturn e (T.setTop f) acts (some (.int z))).1 = T.setFrames fs) : Steps p.tables e below (T.setTop (mkF m pc Ls (.int z :: rest))) (T.setFrames fs) := by
  have hm' : T.vm.method? m = some meth := X.method'
  have hn : narrow .int (.int z) = .int z := rfl
  show Steps p.tables e below (T.setTop { method := m, pc := pc, locals := Ls, stack := _ :: rest, locked := none }) _
  jvm_step X.here [X.here.top, hx, hd, hm', hret, hn]
  first | (intro acts; rw [hl _ acts rfl rfl rfl]) | rw [hl _ _ rfl rfl rfl]
  exact Steps.refl _
/-- the run from A comes to its end, and there Q holds -/
def own_G (tb : Tables) (e : Env) (below : List Frame) (s : State) (Q : Option Value → Heap → List Loc → Prop) (C S : Nat) (A : State) : Prop :=
  ∃ s₂ o, Steps tb e below A s₂ ∧ s₂.status = .running ∧ Ended s₂ below o ∧ ∃ v L, o = .returned v ∧ Q v s₂.heap L ∧ FrameEnd s o s₂ L C S
theorem own_by {tb : Tables} {Q : Option Value → Heap → List Loc → Prop} {C S : Nat} {A B : State} (st : ∀ t, Steps tb e below B t → Steps tb e below A t) (k : own_G tb e below s Q C S B) : own_G tb e below s Q C S A := by
  obtain ⟨s₂, o, h, r⟩ := k
  exact ⟨s₂, o, st _ h, r⟩
theorem own_end (X : Stand p l e R s m args below meth c T locs cells slots) {v : Option Value} (hv : meth.sig.returnType = none → v = none) (hlk : meth.locks = false) {Q : Option Value → Heap → List Loc → Prop} {C S : Nat} {A : State}
    (st : ∀ fs, (∀ (f : JFrame) (acts : List Action), f.method = m → f.locked = none → f.entered = [] → (doReturn e (T.setTop f) acts v).1 = T.setFrames fs) → Steps p.tables e below A (T.setFrames fs))
    (hQ : Q v T.heap locs) (hc : cells ≤ C) (hs : slots ≤ S) : own_G p.tables e below s Q C S A := by
  obtain ⟨fs, hr, hrun, hended, hW, hsame⟩ := X.leave hv hlk
  exact ⟨_, _, st fs hr, hrun, hended, _, _, rfl, hQ, ⟨_, rfl⟩, hW, hsame.mono hc hs⟩
theorem own_lremM {tb : Tables} [Ours tb] {target : State} {g : JFrame} (h : At T m c below) (hx : tb.exec = Jvm.exec) (hg : g.method = m) {x y : Int64} {rest : List Value} (hd : decode c.code g.pc = .ok (.lrem, 1)) (hs : g.stack = .long y :: .long x :: rest) (hy : y ≠ 0)
    (hr : Steps tb e below (T.setTop { g with pc := g.pc + 1, stack := .long (x % y) :: rest }) target) : Steps tb e below (T.setTop g) target := by
  have q : x - x / y * y = x % y := lrem_mod x y
  exact XT.lrem h hx hg hd hs hy (by rw [q]; exact hr)
variable {Z : State} {a0 : Array Value} {h h' : Heap} {a b : Addr} {ty : FieldType} {n : Nat} {f : Nat → Value} {sl : Nat} {v : Value} {ws : List Addr}
/-- the array at a has n places, place k holds f k -/
def own_A (Z : State) (h : Heap) (a : Addr) (ty : FieldType) (n : Nat) (f : Nat → Value) : Prop := ∃ c : Cell, Arr Z h a c ty ∧ c.slots.size = n ∧ ∀ k, k < n → c.slots[k]? = some (f k)
abbrev own_AJ (Z : State) (h : Heap) (a : Addr) (n : Nat) (F : Nat → Int64) : Prop := own_A Z h a .long n (fun k => .long (F k))
abbrev own_AI (Z : State) (h : Heap) (a : Addr) (n : Nat) (F : Nat → Int32) : Prop := own_A Z h a .int n (fun k => .int (F k))
abbrev own_AB (Z : State) (h : Heap) (a : Addr) (n : Nat) (F : Nat → Int32) : Prop := own_A Z h a .byte n (fun k => .int (F k))
def own_upd {α : Type} (f : Nat → α) (k : Nat) (x : α) : Nat → α := fun i => if i = k then x else f i
theorem own_A.lt (F : own_A Z h a ty n f) : a < h.size := by obtain ⟨c, A, -⟩ := F; exact A.lt
theorem own_A.ext (F : own_A Z h a ty n f) (E : Ext h h') : own_A Z h' a ty n f := by obtain ⟨c, A, r⟩ := F; exact ⟨c, A.ext E, r⟩
theorem own_A.other (F : own_A Z h b ty n f) (W : Wr h h' a sl v) (q : b ≠ a) : own_A Z h' b ty n f := by obtain ⟨c, A, r⟩ := F; exact ⟨c, A.other W q, r⟩
theorem own_A.keep (F : own_A Z h a ty n f) (K : Keep h h' ws) (q : a ∉ ws) : own_A Z h' a ty n f := by obtain ⟨c, A, r⟩ := F; exact ⟨c, ⟨K.2.1 a c A.1 q, A.2⟩, r⟩
theorem own_A.cast {f' : Nat → Value} (F : own_A Z h a ty n f) (q : ∀ k, k < n → f k = f' k) : own_A Z h a ty n f' := by obtain ⟨c, A, S, H⟩ := F; exact ⟨c, A, S, fun k hk => by rw [H k hk, q k hk]⟩
theorem own_idx {j : Int32} {k n : Nat} (hk : j.toInt = k) (hn : k < n) {c : Cell} (S : c.slots.size = n) : ¬ (j < 0 ∨ c.slots.size ≤ j.toNatClampNeg) ∧ j.toNatClampNeg = k := by
  have e : j.toNatClampNeg = k := by show j.toInt.toNat = k; rw [hk]; rfl
  refine ⟨?_, e⟩
  rw [e, S]
  rintro (q | q)
  · rw [Int32.lt_iff_toInt_lt] at q; have : (0 : Int32).toInt = 0 := by decide
    omega
  · omega
theorem own_A.set {c : Cell} (A : Arr Z h a c ty) (S : c.slots.size = n) (H : ∀ k, k < n → c.slots[k]? = some (f k)) {j : Nat} (W : Wr h h' a j v) (hj : j < n) {f' : Nat → Value} (q : ∀ k, k < n → f' k = if k = j then v else f k) : own_A Z h' a ty n f' := by
  refine ⟨c.setSlot j v, A.same W, by rw [sz_set]; exact S, fun i hi => ?_⟩
  rw [q i hi]
  by_cases e : i = j
  · subst e; simp [Cell.setSlot, S, hi]
  · rw [if_neg e, ← H i hi]; show (c.slots.setIfInBounds j v)[i]? = _; exact Array.getElem?_setIfInBounds_ne (Ne.symm e)
theorem own_ldJ (X : Stand p l e R s m args below meth c T locs cells slots) (hx : p.tables.exec = Jvm.exec) (hZ : Z.Warmed39 s.vm) (eT : T.heap = h) {F : Nat → Int64} (V : own_AJ Z h a n F) {j : Int32} {k : Nat} (hk : j.toInt = k) (hn : k < n) {g : JFrame} (hg : g.method = m) {rest : List Value} (hs : g.stack = .int j :: .ref a :: rest) (hd : decode c.code g.pc = .ok (.laload, 1)) :
    ∀ target, Steps p.tables e below (T.setTop { g with pc := g.pc + 1, stack := .long (F k) :: rest }) target → Steps p.tables e below (T.setTop g) target := by
  obtain ⟨c, A, S, H⟩ := V
  obtain ⟨q, e'⟩ := own_idx hk hn S
  intro target hr
  exact X.laload hx (by rw [eT]; exact A.1) (State.isArrayOf_alike hZ.alike A.2.1) A.2.2 q (v := .long (F k)) (by rw [e']; exact H k hn) hg hs hd target hr
theorem own_ldI (X : Stand p l e R s m args below meth c T locs cells slots) (hx : p.tables.exec = Jvm.exec) (hZ : Z.Warmed39 s.vm) (eT : T.heap = h) {F : Nat → Int32} (V : own_AI Z h a n F) {j : Int32} {k : Nat} (hk : j.toInt = k) (hn : k < n) {g : JFrame} (hg : g.method = m) {rest : List Value} (hs : g.stack = .int j :: .ref a :: rest) (hd : decode c.code g.pc = .ok (.iaload, 1)) :
    ∀ target, Steps p.tables e below (T.setTop { g with pc := g.pc + 1, stack := .int (F k) :: rest }) target → Steps p.tables e below (T.setTop g) target := by
  obtain ⟨c, A, S, H⟩ := V
  obtain ⟨q, e'⟩ := own_idx hk hn S
  intro target hr
  exact X.iaload hx (by rw [eT]; exact A.1) (State.isArrayOf_alike hZ.alike A.2.1) A.2.2 q (v := .int (F k)) (by rw [e']; exact H k hn) hg hs hd target hr
theorem own_ldB (X : Stand p l e R s m args below meth c T locs cells slots) (hx : p.tables.exec = Jvm.exec) (hZ : Z.Warmed39 s.vm) (eT : T.heap = h) {F : Nat → Int32} (V : own_AB Z h a n F) {j : Int32} {k : Nat} (hk : j.toInt = k) (hn : k < n) {g : JFrame} (hg : g.method = m) {rest : List Value} (hs : g.stack = .int j :: .ref a :: rest) (hd : decode c.code g.pc = .ok (.baload, 1)) :
    ∀ target, Steps p.tables e below (T.setTop { g with pc := g.pc + 1, stack := .int (F k) :: rest }) target → Steps p.tables e below (T.setTop g) target := by
  obtain ⟨c, A, S, H⟩ := V
  obtain ⟨q, e'⟩ := own_idx hk hn S
  intro target hr
  exact X.baloadBytes hx (by rw [eT]; exact A.1) (State.isArrayOf_alike hZ.alike A.2.1) A.2.2 q (v := .int (F k)) (by rw [e']; exact H k hn) hg hs hd target hr
theorem own_stJ (X : Stand p l e R s m args below meth c T locs cells slots) (hx : p.tables.exec = Jvm.exec) (hZ : Z.Warmed39 s.vm) (eT : T.heap = h) {F : Nat → Int64} (V : own_AJ Z h a n F) {j : Int32} {x : Int64} {k : Nat} (hk : j.toInt = k) (hn : k < n) {g : JFrame} (hg : g.method = m) {rest : List Value} (hs : g.stack = .long x :: .int j :: .ref a :: rest) (hd : decode c.code g.pc = .ok (.lastore, 1)) :
    ∃ T' h', Stand p l e R s m args below meth c T' (locs ++ [⟨a, j.toNatClampNeg⟩]) cells slots ∧ T'.heap = h' ∧ Wr h h' a j.toNatClampNeg (.long x) ∧ own_AJ Z h' a n (own_upd F k x) ∧ ∀ target, Steps p.tables e below (T'.setTop { g with pc := g.pc + 1, stack := rest }) target → Steps p.tables e below (T.setTop g) target := by
  obtain ⟨c, A, S, H⟩ := V
  obtain ⟨q, e'⟩ := own_idx hk hn S
  obtain ⟨T', h', X', e1, W, st⟩ := stJ X hx hZ eT A q hg hs hd
  exact ⟨T', h', X', e1, W, own_A.set A S H W (by rw [e']; exact hn) (fun i _ => by rw [e']; show Value.long (if i = k then x else F i) = _; by_cases z : i = k <;> simp [z]), st⟩
theorem own_stI (X : Stand p l e R s m args below meth c T locs cells slots) (hx : p.tables.exec = Jvm.exec) (hZ : Z.Warmed39 s.vm) (eT : T.heap = h) {F : Nat → Int32} (V : own_AI Z h a n F) {j : Int32} {x : Int32} {k : Nat} (hk : j.toInt = k) (hn : k < n) {g : JFrame} (hg : g.method = m) {rest : List Value} (hs : g.stack = .int x :: .int j :: .ref a :: rest) (hd : decode c.code g.pc = .ok (.iastore, 1)) :
    ∃ T' h', Stand p l e R s m args below meth c T' (locs ++ [⟨a, j.toNatClampNeg⟩]) cells slots ∧ T'.heap = h' ∧ Wr h h' a j.toNatClampNeg (.int x) ∧ own_AI Z h' a n (own_upd F k x) ∧ ∀ target, Steps p.tables e below (T'.setTop { g with pc := g.pc + 1, stack := rest }) target → Steps p.tables e below (T.setTop g) target := by
  obtain ⟨c, A, S, H⟩ := V
  obtain ⟨q, e'⟩ := own_idx hk hn S
  obtain ⟨T', h', X', e1, W, st⟩ := stI X hx hZ eT A q hg hs hd
  exact ⟨T', h', X', e1, W, own_A.set A S H W (by rw [e']; exact hn) (fun i _ => by rw [e']; show Value.int (if i = k then x else F i) = _; by_cases z : i = k <;> simp [z]), st⟩
theorem own_stB (X : Stand p l e R s m args below meth c T locs cells slots) (hx : p.tables.exec = Jvm.exec) (hZ : Z.Warmed39 s.vm) (eT : T.heap = h) {F : Nat → Int32} (V : own_AB Z h a n F) {j : Int32} {x : Int32} {k : Nat} (hk : j.toInt = k) (hn : k < n) {g : JFrame} (hg : g.method = m) {rest : List Value} (hs : g.stack = .int x :: .int j :: .ref a :: rest) (hd : decode c.code g.pc = .ok (.bastore, 1)) :
    ∃ T' h', Stand p l e R s m args below meth c T' (locs ++ [⟨a, j.toNatClampNeg⟩]) cells slots ∧ T'.heap = h' ∧ Wr h h' a j.toNatClampNeg (.int (nar .byte x)) ∧ own_AB Z h' a n (own_upd F k (nar .byte x)) ∧ ∀ target, Steps p.tables e below (T'.setTop { g with pc := g.pc + 1, stack := rest }) target → Steps p.tables e below (T.setTop g) target := by
  obtain ⟨c, A, S, H⟩ := V
  obtain ⟨q, e'⟩ := own_idx hk hn S
  obtain ⟨T', h', X', e1, W, st⟩ := stB X hx hZ eT A q hg hs hd
  exact ⟨T', h', X', e1, W, own_A.set A S H W (by rw [e']; exact hn) (fun i _ => by rw [e']; show Value.int (if i = k then nar .byte x else F i) = _; by_cases z : i = k <;> simp [z]), st⟩
theorem own_newA {cA : ClassId} {z : Int32} {N : Nat} (A : Arr Z h a (newA cA ty z) ty) (hz : z.toInt = N) : own_A Z h a ty N (fun _ => defaultValue ty) := by
  have e : z.toNatClampNeg = N := by show z.toInt.toNat = N; rw [hz]; rfl
  refine ⟨_, A, by rw [sz_new]; exact e, fun k hk => ?_⟩
  show (Array.replicate z.toNatClampNeg (defaultValue ty))[k]? = _
  rw [e]; simp [hk]
theorem own_neg {z : Int32} {N : Nat} (hz : z.toInt = N) : ¬ z < 0 ∧ z.toNatClampNeg = N := by
  refine ⟨fun q => ?_, by show z.toInt.toNat = N; rw [hz]; rfl⟩
  rw [Int32.lt_iff_toInt_lt] at q; have : (0 : Int32).toInt = 0 := by decide
  omega
theorem own_newJ (X : Stand p l e R s m args below meth c T locs cells slots) (hx : p.tables.exec = Jvm.exec) (hZ : Z.Warmed39 s.vm) (w : (Cond.arrayClass .long).before a0 Z = true) (eT : T.heap = h) {g : JFrame} (hg : g.method = m) (hd : decode c.code g.pc = .ok (.newarray .long, 2)) {z : Int32} {rest : List Value} (hs : g.stack = .int z :: rest)
    {N : Nat} (hz : z.toInt = N) {cap : Nat} (hcap : N ≤ cap) (hb : cap * 8 ≤ 536870912) (hc : cells + 1 ≤ R.cells) (hl : slots + cap ≤ R.slots) :
    ∃ T' h', Stand p l e R s m args below meth c T' locs (cells + 1) (slots + cap) ∧ T'.heap = h' ∧ Ext h h' ∧ own_AJ Z h' h.size N (fun _ => 0) ∧ ∀ target, Steps p.tables e below (T'.setTop { g with pc := g.pc + 2, stack := .ref h.size :: rest }) target → Steps p.tables e below (T.setTop g) target := by
  obtain ⟨q1, q2⟩ := own_neg hz
  obtain ⟨T', h', cA, X', e1, E, A, st⟩ := newP X hx hZ (aty := .long) w eT hg hd hs q1 (cap := cap) (by rw [q2]; exact hcap) hb hc hl
  exact ⟨T', h', X', e1, E, own_newA A hz, st⟩
theorem own_newI (X : Stand p l e R s m args below meth c T locs cells slots) (hx : p.tables.exec = Jvm.exec) (hZ : Z.Warmed39 s.vm) (w : (Cond.arrayClass .int).before a0 Z = true) (eT : T.heap = h) {g : JFrame} (hg : g.method = m) (hd : decode c.code g.pc = .ok (.newarray .int, 2)) {z : Int32} {rest : List Value} (hs : g.stack = .int z :: rest)
    {N : Nat} (hz : z.toInt = N) {cap : Nat} (hcap : N ≤ cap) (hb : cap * 8 ≤ 536870912) (hc : cells + 1 ≤ R.cells) (hl : slots + cap ≤ R.slots) :
    ∃ T' h', Stand p l e R s m args below meth c T' locs (cells + 1) (slots + cap) ∧ T'.heap = h' ∧ Ext h h' ∧ own_AI Z h' h.size N (fun _ => 0) ∧ ∀ target, Steps p.tables e below (T'.setTop { g with pc := g.pc + 2, stack := .ref h.size :: rest }) target → Steps p.tables e below (T.setTop g) target := by
  obtain ⟨q1, q2⟩ := own_neg hz
  obtain ⟨T', h', cA, X', e1, E, A, st⟩ := newP X hx hZ (aty := .int) w eT hg hd hs q1 (cap := cap) (by rw [q2]; exact hcap) hb hc hl
  exact ⟨T', h', X', e1, E, own_newA A hz, st⟩
theorem own_newB (X : Stand p l e R s m args below meth c T locs cells slots) (hx : p.tables.exec = Jvm.exec) (hZ : Z.Warmed39 s.vm) (w : (Cond.arrayClass .byte).before a0 Z = true) (eT : T.heap = h) {g : JFrame} (hg : g.method = m) (hd : decode c.code g.pc = .ok (.newarray .byte, 2)) {z : Int32} {rest : List Value} (hs : g.stack = .int z :: rest)
    {N : Nat} (hz : z.toInt = N) {cap : Nat} (hcap : N ≤ cap) (hb : cap * 8 ≤ 536870912) (hc : cells + 1 ≤ R.cells) (hl : slots + cap ≤ R.slots) :
    ∃ T' h', Stand p l e R s m args below meth c T' locs (cells + 1) (slots + cap) ∧ T'.heap = h' ∧ Ext h h' ∧ own_AB Z h' h.size N (fun _ => 0) ∧ ∀ target, Steps p.tables e below (T'.setTop { g with pc := g.pc + 2, stack := .ref h.size :: rest }) target → Steps p.tables e below (T.setTop g) target := by
  obtain ⟨q1, q2⟩ := own_neg hz
  obtain ⟨T', h', cA, X', e1, E, A, st⟩ := newP X hx hZ (aty := .byte) w eT hg hd hs q1 (cap := cap) (by rw [q2]; exact hcap) hb hc hl
  exact ⟨T', h', X', e1, E, own_newA A hz, st⟩
theorem own_len (X : Stand p l e R s m args below meth c T locs cells slots) (hx : p.tables.exec = Jvm.exec) (hZ : Z.Warmed39 s.vm) (eT : T.heap = h) (V : own_A Z h a ty n f) {z : Int32} (hz : z.toInt = n) {g : JFrame} (hg : g.method = m) {rest : List Value} (hs : g.stack = .ref a :: rest) (hd : decode c.code g.pc = .ok (.arraylength, 1)) :
    ∀ target, Steps p.tables e below (T.setTop { g with pc := g.pc + 1, stack := .int z :: rest }) target → Steps p.tables e below (T.setTop g) target := by
  obtain ⟨c, A, S, H⟩ := V
  obtain ⟨q1, q2⟩ := own_neg hz
  intro target hr
  exact X.arraylength hx (by rw [eT]; exact A.1) (State.isArrayOf_alike hZ.alike A.2.1) hg hs hd target (by rw [len_of (S.trans q2.symm) q1]; exact hr)
end New
end Jvm.RoadKit
namespace Jvm.Pilot.@@N@@
open Jvm Jvm.ClassFile Sem Op Lib Jvm.Free Jvm.Stand Jvm.LawKit Jvm.RoadKit Bundle Jvm.Pilot.@@N@@.Jvm.D
def own_pr (F : Nat → Int32) (N : Nat) : Nat → Int32
  | 0 => 1
  | t + 1 => own_pr F N t * F (N - 1 - t)
def own_st (F : Nat → Int32) (N : Nat) (i : Nat) : Int32 := own_pr F N (N - 1 - i)
def own_sz (F : Nat → Int32) (N k : Nat) : Int32 := if k < N then F k else 1
def own_exp (F : Nat → Int32) (i N : Nat) : Int32 := ((own_sz F N (i + 1) * own_sz F N (i + 2)) * own_sz F N (i + 3)) * own_sz F N (i + 4)
def own_vv (a b c d e : Int32) (k : Nat) : Int32 := if k = 0 then (a &&& (2147483647 : Int32)) else if k = 1 then (b &&& (2147483647 : Int32)) else if k = 2 then (c &&& (2147483647 : Int32)) else if k = 3 then (d &&& (2147483647 : Int32)) else (e &&& (2147483647 : Int32))
theorem own_add {x y : Int32} {a b : Nat} (hx : x.toInt = a) (hy : y.toInt = b) (h : a + b < 2147483648) : (x + y).toInt = ((a + b : Nat) : Int) := by
  have q := c_iadd x y
  have r := rng32 (x + y)
  omega
theorem own_dec {x : Int32} (h : -2147483648 < x.toInt) : (x + (-1 : Int32)).toInt = x.toInt - 1 := by
  have q := c_iadd x (-1 : Int32)
  have r := rng32 (x + (-1 : Int32))
  have r2 := rng32 x
  have k : (-1 : Int32).toInt = -1 := by decide
  omega
theorem own_sub1 {x : Int32} {N : Nat} (h : x.toInt = N) : (x - (1 : Int32)).toInt = (N : Int) - 1 - ((0 : Nat) : Int) := by
  have q := c_isub x (1 : Int32)
  have r := rng32 (x - (1 : Int32))
  have r2 := rng32 x
  have k : (1 : Int32).toInt = 1 := by decide
  omega
theorem own_lt {x y : Int32} {a b : Nat} (hx : x.toInt = a) (hy : y.toInt = b) : x < y ↔ a < b := by
  rw [Int32.lt_iff_toInt_lt]; omega
theorem own_n (x : Int32) : ∃ N : Nat, ((x &&& (2147483647 : Int32)) % (6 : Int32)).toInt = N ∧ N ≤ 5 := by
  have h1 := c_mask x (2147483647 : Int32) 31 (by decide) (by decide)
  have h2 := (c_irem (x &&& (2147483647 : Int32)) (6 : Int32) 6 (by decide)).1
  exact ⟨((x &&& (2147483647 : Int32)) % (6 : Int32)).toInt.toNat, by omega, by omega⟩
theorem own_neg0 {x : Int32} : x < (0 : Int32) ↔ x.toInt < 0 := by
  rw [Int32.lt_iff_toInt_lt, show (0 : Int32).toInt = 0 by decide]
theorem own_fin (F : Nat → Int32) (N i : Nat) (h5 : N ≤ 5) (h : i < N) : own_st F N i = own_exp F i N := by
  have one : ∀ a : Int32, (1 : Int32) * a = a := Int32.one_mul
  have eno : ∀ a : Int32, a * (1 : Int32) = a := Int32.mul_one
  match N, i, h5, h with
  | 1, 0, _, _ => simp [own_st, own_pr, own_exp, own_sz]
  | 2, 0, _, _ => simp [own_st, own_pr, own_exp, own_sz]
  | 2, 1, _, _ => simp [own_st, own_pr, own_exp, own_sz]
  | 3, 0, _, _ => simp [own_st, own_pr, own_exp, own_sz]; ac_rfl
  | 3, 1, _, _ => simp [own_st, own_pr, own_exp, own_sz]
  | 3, 2, _, _ => simp [own_st, own_pr, own_exp, own_sz]
  | 4, 0, _, _ => simp [own_st, own_pr, own_exp, own_sz]; ac_rfl
  | 4, 1, _, _ => simp [own_st, own_pr, own_exp, own_sz]; ac_rfl
  | 4, 2, _, _ => simp [own_st, own_pr, own_exp, own_sz]
  | 4, 3, _, _ => simp [own_st, own_pr, own_exp, own_sz]
  | 5, 0, _, _ => simp [own_st, own_pr, own_exp, own_sz]; ac_rfl
  | 5, 1, _, _ => simp [own_st, own_pr, own_exp, own_sz]; ac_rfl
  | 5, 2, _, _ => simp [own_st, own_pr, own_exp, own_sz]; ac_rfl
  | 5, 3, _, _ => simp [own_st, own_pr, own_exp, own_sz]
  | 5, 4, _, _ => simp [own_st, own_pr, own_exp, own_sz]
theorem own_d3_0 : decode method_3_code 0 = .ok (.iload_n 1, 1) := by decide +kernel
theorem own_d3_1 : decode method_3_code 1 = .ok (.iload_n 2, 1) := by decide +kernel
theorem own_d3_2 : decode method_3_code 2 = .ok (.if_icmp .ge 9, 3) := by decide +kernel
theorem own_d3_5 : decode method_3_code 5 = .ok (.aload_n 0, 1) := by decide +kernel
theorem own_d3_6 : decode method_3_code 6 = .ok (.iload_n 1, 1) := by decide +kernel
theorem own_d3_7 : decode method_3_code 7 = .ok (.iaload, 1) := by decide +kernel
theorem own_d3_8 : decode method_3_code 8 = .ok (.goto 4, 3) := by decide +kernel
theorem own_d3_12 : decode method_3_code 12 = .ok (.ireturn, 1) := by decide +kernel
theorem own_d3_11 : decode method_3_code 11 = .ok (.iconst 1, 1) := by decide +kernel
theorem own_pn0 : plainName "com/example/hedgerow/hedgerow/model/UtilityTableStridesPinLaw" = true := by first | (simp [plainName, overriddenIn]; done) | decide +kernel
theorem own_ef1 (m : MethodId) (x0 : Addr) (x1 : Int32) (x2 : Int32) : entryFrame m #[(.ref x0), (.int x1), (.int x2)] 3 = mkF m 0 #[.val (.ref x0), .val (.int x1), .val (.int x2)] [] := by first | (simp [entryFrame, mkF, argsToLocals, Value.category]; done) | rfl
def own_Q1 (Z : State) (a0 : Addr) (p1 : Int32) (p2 : Int32) (F : Nat → Int32) (k : Nat) (N : Nat) (h0 : Heap) (n0 : Nat) (v : Option Value) (h : Heap) (L : List Loc) : Prop := v = some (.int (own_sz F N k)) ∧ Fr n0 L ∧ h = h0
set_option maxRecDepth 65536 in
set_option maxHeartbeats 40000000 in
theorem rm1 (l : Launch) (Z : State) (aw : Array Value) (hw : ∀ d ∈ tables_1, d.before aw Z = true) (ws : List Jvm.Cond) (a0 : Addr) (p1 : Int32) (p2 : Int32) (F : Nat → Int32) (k : Nat) (N : Nat) (h0 : Heap) (n0 : Nat) (Z0 : n0 ≤ h0.size) (VA : own_AI Z h0 a0 5 F) (h1 : p1.toInt = k) (h2 : p2.toInt = N) (hN : N ≤ 5) :
    MetFree l (⟨"com/example/hedgerow/hedgerow/model/UtilityTableStridesPinLaw", "sizeOrOne", "([III)I"⟩ : MethodName) (head1 (Jvm.Cond.code (⟨"com/example/hedgerow/hedgerow/model/UtilityTableStridesPinLaw", "sizeOrOne", "([III)I"⟩ : MethodName) method_3_code 3 (some .int) :: ws) ({ frames := 0, cells := 0, slots := 0, locals := 0 } : Room)) (fun a U => a = #[(.ref a0), (.int p1), (.int p2)] ∧ Z.Warmed39 U.vm ∧ U.heap = h0) (fun _ _ _ _ _ => True) (fun _ U o U' => ∃ v L, o = .returned v ∧ own_Q1 Z a0 p1 p2 F k N h0 n0 v U'.heap L ∧ FrameEnd U o U' L ({ frames := 0, cells := 0, slots := 0, locals := 0 } : Room).cells ({ frames := 0, cells := 0, slots := 0, locals := 0 } : Room).slots) := by
  refine MetFree.of_bodySF (plainFor_of_name own_pn0) hisR ?_
  intro p e s m args below meth c s₁ Bd hml0 hP hK
  obtain ⟨rfl, hZ, hh⟩ := hP
  have hx := Bd.exec
  have hby := Bd.bytes
  have hml : c.maxLocals = 3 := hml0
  have hown : s.vm.findClass "com/example/hedgerow/hedgerow/model/UtilityTableStridesPinLaw" = some m.cls := findClass_of_methodNamed Bd.named
  have hnm := (name_of_methodNamed Bd.named Bd.method).1
  have X0 : Stand p l e ({ frames := 0, cells := 0, slots := 0, locals := 0 } : Room) s m #[(.ref a0), (.int p1), (.int p2)] below meth c s₁ [] 0 0 := Stand.of_body Bd
  have e0 : s₁.heap = h0 := by rw [← hh, Bd.state]; rfl
  have N0 := Fr.nil n0
  show own_G p.tables e below s (own_Q1 Z a0 p1 p2 F k N h0 n0) ({ frames := 0, cells := 0, slots := 0, locals := 0 } : Room).cells ({ frames := 0, cells := 0, slots := 0, locals := 0 } : Room).slots (s₁.setTop (entryFrame m #[(.ref a0), (.int p1), (.int p2)] 3))
  refine own_by (fun _ k => castTop (own_ef1 m a0 p1 p2) k) ?_
  show own_G _ _ _ _ _ _ _ (s₁.setTop (mkF m 0 #[.val (.ref a0), .val (.int p1), .val (.int p2)] []))
  refine own_by (fun _ k => XS.iloadN X0.here hx rfl (hb hby own_d3_0) rfl  k) ?_
  show own_G _ _ _ _ _ _ _ (s₁.setTop (mkF m 1 #[.val (.ref a0), .val (.int p1), .val (.int p2)] [(.int p1)]))
  refine own_by (fun _ k => XS.iloadN X0.here hx rfl (hb hby own_d3_1) rfl  k) ?_
  show own_G _ _ _ _ _ _ _ (s₁.setTop (mkF m 2 #[.val (.ref a0), .val (.int p1), .val (.int p2)] [(.int p2), (.int p1)]))
  by_cases hc2 : p1 < p2
  · refine own_by (fun _ k => XS.icmpNo X0.here hx rfl (hb hby own_d3_2) rfl (XT.ii_ge_f hc2) k) ?_
    show own_G _ _ _ _ _ _ _ (s₁.setTop (mkF m 5 #[.val (.ref a0), .val (.int p1), .val (.int p2)] []))
    refine own_by (fun _ k => XS.aloadN X0.here hx rfl (hb hby own_d3_5) rfl rfl k) ?_
    show own_G _ _ _ _ _ _ _ (s₁.setTop (mkF m 6 #[.val (.ref a0), .val (.int p1), .val (.int p2)] [(.ref a0)]))
    refine own_by (fun _ k => XS.iloadN X0.here hx rfl (hb hby own_d3_6) rfl  k) ?_
    show own_G _ _ _ _ _ _ _ (s₁.setTop (mkF m 7 #[.val (.ref a0), .val (.int p1), .val (.int p2)] [(.int p1), (.ref a0)]))
    refine own_by (own_ldI X0 hx hZ e0 VA (k := k) h1 (by have := (own_lt h1 h2).mp hc2; omega) (g := (mkF m 7 #[.val (.ref a0), .val (.int p1), .val (.int p2)] [(.int p1), (.ref a0)])) rfl rfl (hb hby own_d3_7)) ?_
    show own_G _ _ _ _ _ _ _ (s₁.setTop (mkF m 8 #[.val (.ref a0), .val (.int p1), .val (.int p2)] [(.int (F k))]))
    refine own_by (fun _ k => XS.goto X0.here hx rfl (pc0 := 8) (pc' := 12) rfl (hb hby own_d3_8) (by decide) (by decide) k) ?_
    show own_G _ _ _ _ _ _ _ (s₁.setTop (mkF m 12 #[.val (.ref a0), .val (.int p1), .val (.int p2)] [(.int (F k))]))
    exact own_end X0 (v := some (.int (F k))) (fun h => by rw [Bd.returns] at h; cases h) (BodyLoose.notSynchronized Bd) (fun fs hr => retI X0 hx Bd.returns (hb hby own_d3_12) hr) (by rw [e0]; exact ⟨(by unfold own_sz; rw [if_pos ((own_lt h1 h2).mp hc2)]), N0, rfl⟩) (by decide) (by decide)
  · refine own_by (fun _ k => XS.icmpYes X0.here hx rfl (pc0 := 2) (pc' := 11) rfl (hb hby own_d3_2) rfl (XT.ii_ge_t hc2) (by decide) (by decide) k) ?_
    show own_G _ _ _ _ _ _ _ (s₁.setTop (mkF m 11 #[.val (.ref a0), .val (.int p1), .val (.int p2)] []))
    refine own_by (fun _ k => XS.iconst X0.here hx rfl (hb hby own_d3_11) k) ?_
    show own_G _ _ _ _ _ _ _ (s₁.setTop (mkF m 12 #[.val (.ref a0), .val (.int p1), .val (.int p2)] [(.int (1 : Int32))]))
    exact own_end X0 (v := some (.int (1 : Int32))) (fun h => by rw [Bd.returns] at h; cases h) (BodyLoose.notSynchronized Bd) (fun fs hr => retI X0 hx Bd.returns (hb hby own_d3_12) hr) (by rw [e0]; exact ⟨(by unfold own_sz; rw [if_neg (fun z => hc2 ((own_lt h1 h2).mpr z))]), N0, rfl⟩) (by decide) (by decide)
theorem own_d2_0 : decode method_4_code 0 = .ok (.aload_n 0, 1) := by decide +kernel
theorem own_d2_1 : decode method_4_code 1 = .ok (.iload_n 1, 1) := by decide +kernel
theorem own_d2_2 : decode method_4_code 2 = .ok (.iconst 1, 1) := by decide +kernel
theorem own_d2_3 : decode method_4_code 3 = .ok (.iadd, 1) := by decide +kernel
theorem own_d2_4 : decode method_4_code 4 = .ok (.iload_n 2, 1) := by decide +kernel
theorem own_d2_5 : decode method_4_code 5 = .ok (.invokestatic 20, 3) := by decide +kernel
theorem own_pd0 : parseMethodDescriptor "([III)I" = some ⟨[(.array .int), .int, .int], some .int⟩ := by decide +kernel
theorem own_d2_8 : decode method_4_code 8 = .ok (.aload_n 0, 1) := by decide +kernel
theorem own_d2_9 : decode method_4_code 9 = .ok (.iload_n 1, 1) := by decide +kernel
theorem own_d2_10 : decode method_4_code 10 = .ok (.iconst 2, 1) := by decide +kernel
theorem own_d2_11 : decode method_4_code 11 = .ok (.iadd, 1) := by decide +kernel
theorem own_d2_12 : decode method_4_code 12 = .ok (.iload_n 2, 1) := by decide +kernel
theorem own_d2_13 : decode method_4_code 13 = .ok (.invokestatic 20, 3) := by decide +kernel
theorem own_d2_16 : decode method_4_code 16 = .ok (.imul, 1) := by decide +kernel
theorem own_d2_17 : decode method_4_code 17 = .ok (.aload_n 0, 1) := by decide +kernel
theorem own_d2_18 : decode method_4_code 18 = .ok (.iload_n 1, 1) := by decide +kernel
theorem own_d2_19 : decode method_4_code 19 = .ok (.iconst 3, 1) := by decide +kernel
theorem own_d2_20 : decode method_4_code 20 = .ok (.iadd, 1) := by decide +kernel
theorem own_d2_21 : decode method_4_code 21 = .ok (.iload_n 2, 1) := by decide +kernel
theorem own_d2_22 : decode method_4_code 22 = .ok (.invokestatic 20, 3) := by decide +kernel
theorem own_d2_25 : decode method_4_code 25 = .ok (.imul, 1) := by decide +kernel
theorem own_d2_26 : decode method_4_code 26 = .ok (.aload_n 0, 1) := by decide +kernel
theorem own_d2_27 : decode method_4_code 27 = .ok (.iload_n 1, 1) := by decide +kernel
theorem own_d2_28 : decode method_4_code 28 = .ok (.iconst 4, 1) := by decide +kernel
theorem own_d2_29 : decode method_4_code 29 = .ok (.iadd, 1) := by decide +kernel
theorem own_d2_30 : decode method_4_code 30 = .ok (.iload_n 2, 1) := by decide +kernel
theorem own_d2_31 : decode method_4_code 31 = .ok (.invokestatic 20, 3) := by decide +kernel
theorem own_d2_34 : decode method_4_code 34 = .ok (.imul, 1) := by decide +kernel
theorem own_d2_35 : decode method_4_code 35 = .ok (.ireturn, 1) := by decide +kernel
theorem own_ef2 (m : MethodId) (x0 : Addr) (x1 : Int32) (x2 : Int32) : entryFrame m #[(.ref x0), (.int x1), (.int x2)] 3 = mkF m 0 #[.val (.ref x0), .val (.int x1), .val (.int x2)] [] := by first | (simp [entryFrame, mkF, argsToLocals, Value.category]; done) | rfl
def own_Q2 (Z : State) (a0 : Addr) (p1 : Int32) (p2 : Int32) (F : Nat → Int32) (i : Nat) (N : Nat) (h0 : Heap) (n0 : Nat) (v : Option Value) (h : Heap) (L : List Loc) : Prop := v = some (.int (own_exp F i N)) ∧ Fr n0 L ∧ h = h0
set_option maxRecDepth 65536 in
set_option maxHeartbeats 40000000 in
theorem rm2 (l : Launch) (Z : State) (aw : Array Value) (hw : ∀ d ∈ tables_1, d.before aw Z = true) (ws : List Jvm.Cond) (a0 : Addr) (p1 : Int32) (p2 : Int32) (F : Nat → Int32) (i : Nat) (N : Nat) (h0 : Heap) (n0 : Nat) (Z0 : n0 ≤ h0.size) (VA : own_AI Z h0 a0 5 F) (h1 : p1.toInt = i) (h2 : p2.toInt = N) (hN : N ≤ 5) (hi : i < 5) :
    MetFree l (⟨"com/example/hedgerow/hedgerow/model/UtilityTableStridesPinLaw", "expected", "([III)I"⟩ : MethodName) (head1 (Jvm.Cond.code (⟨"com/example/hedgerow/hedgerow/model/UtilityTableStridesPinLaw", "expected", "([III)I"⟩ : MethodName) method_4_code 3 (some .int) :: ws) ({ frames := 1, cells := 0, slots := 0, locals := 15 } : Room)) (fun a U => a = #[(.ref a0), (.int p1), (.int p2)] ∧ Z.Warmed39 U.vm ∧ U.heap = h0) (fun _ _ _ _ _ => True) (fun _ U o U' => ∃ v L, o = .returned v ∧ own_Q2 Z a0 p1 p2 F i N h0 n0 v U'.heap L ∧ FrameEnd U o U' L ({ frames := 1, cells := 0, slots := 0, locals := 15 } : Room).cells ({ frames := 1, cells := 0, slots := 0, locals := 15 } : Room).slots) := by
  refine MetFree.of_bodySF (plainFor_of_name own_pn0) hisR ?_
  intro p e s m args below meth c s₁ Bd hml0 hP hK
  obtain ⟨rfl, hZ, hh⟩ := hP
  have hx := Bd.exec
  have hby := Bd.bytes
  have hml : c.maxLocals = 3 := hml0
  have hown : s.vm.findClass "com/example/hedgerow/hedgerow/model/UtilityTableStridesPinLaw" = some m.cls := findClass_of_methodNamed Bd.named
  have hnm := (name_of_methodNamed Bd.named Bd.method).1
  have X0 : Stand p l e ({ frames := 1, cells := 0, slots := 0, locals := 15 } : Room) s m #[(.ref a0), (.int p1), (.int p2)] below meth c s₁ [] 0 0 := Stand.of_body Bd
  have e0 : s₁.heap = h0 := by rw [← hh, Bd.state]; rfl
  have N0 := Fr.nil n0
  show own_G p.tables e below s (own_Q2 Z a0 p1 p2 F i N h0 n0) ({ frames := 1, cells := 0, slots := 0, locals := 15 } : Room).cells ({ frames := 1, cells := 0, slots := 0, locals := 15 } : Room).slots (s₁.setTop (entryFrame m #[(.ref a0), (.int p1), (.int p2)] 3))
  refine own_by (fun _ k => castTop (own_ef2 m a0 p1 p2) k) ?_
  show own_G _ _ _ _ _ _ _ (s₁.setTop (mkF m 0 #[.val (.ref a0), .val (.int p1), .val (.int p2)] []))
  refine own_by (fun _ k => XS.aloadN X0.here hx rfl (hb hby own_d2_0) rfl rfl k) ?_
  show own_G _ _ _ _ _ _ _ (s₁.setTop (mkF m 1 #[.val (.ref a0), .val (.int p1), .val (.int p2)] [(.ref a0)]))
  refine own_by (fun _ k => XS.iloadN X0.here hx rfl (hb hby own_d2_1) rfl  k) ?_
  show own_G _ _ _ _ _ _ _ (s₁.setTop (mkF m 2 #[.val (.ref a0), .val (.int p1), .val (.int p2)] [(.int p1), (.ref a0)]))
  refine own_by (fun _ k => XS.iconst X0.here hx rfl (hb hby own_d2_2) k) ?_
  show own_G _ _ _ _ _ _ _ (s₁.setTop (mkF m 3 #[.val (.ref a0), .val (.int p1), .val (.int p2)] [(.int (1 : Int32)), (.int p1), (.ref a0)]))
  refine own_by (fun _ k => XS.iadd X0.here hx rfl (hb hby own_d2_3) rfl k) ?_
  show own_G _ _ _ _ _ _ _ (s₁.setTop (mkF m 4 #[.val (.ref a0), .val (.int p1), .val (.int p2)] [(.int (p1 + (1 : Int32))), (.ref a0)]))
  refine own_by (fun _ k => XS.iloadN X0.here hx rfl (hb hby own_d2_4) rfl  k) ?_
  show own_G _ _ _ _ _ _ _ (s₁.setTop (mkF m 5 #[.val (.ref a0), .val (.int p1), .val (.int p2)] [(.int p2), (.int (p1 + (1 : Int32))), (.ref a0)]))
  obtain ⟨_, _, ⟨T1, L1, k1, n1⟩, -, X1, ⟨Lc1, hQ1, l1, y1, z1⟩, st1⟩ := Jvm.LawKit.callS X0 hx (y := (⟨"com/example/hedgerow/hedgerow/model/UtilityTableStridesPinLaw", "sizeOrOne", "([III)I"⟩ : MethodName)) hown (mvT hZ (hw _ (List.mem_of_getElem? (i := 10) rfl))) (mvT hZ (hw _ (List.mem_of_getElem? (i := 11) rfl))) (mvT hZ (hw _ (List.mem_of_getElem? (i := 8) rfl))) (mvT hZ (hw _ (List.mem_of_getElem? (i := 12) rfl))) (by decide) (backOf (W := 0) (rm1 l Z aw hw [] a0 (p1 + (1 : Int32)) p2 F (i + 1) N h0 n0 Z0 VA (own_add h1 (show (1 : Int32).toInt = (1 : Nat) by decide) (by omega)) h2 hN) hZ (hw _ (List.mem_of_getElem? (i := 12) rfl)) (hw _ (List.mem_of_getElem? (i := 8) rfl)) (by decide) (by decide)) (g := (mkF m 5 #[.val (.ref a0), .val (.int p1), .val (.int p2)] [(.int p2), (.int (p1 + (1 : Int32))), (.ref a0)])) rfl (by rw [hml]; rfl) (argsL := [(.ref a0), (.int (p1 + (1 : Int32))), (.int p2)]) (rest := []) (lenOf own_pd0 rfl) rfl (by show 2 * 0 + _ ≤ _; exact Nat.le_of_eq rfl) (hb hby own_d2_5) (fun _ _ => ⟨rfl, e0, (by decide : 0 + 0 ≤ _), (by decide : 0 + 0 ≤ _)⟩)
  dsimp only [Pt.U, Pt.locs, Pt.cells, Pt.slots] at X1 l1 y1 z1 st1 hQ1
  subst l1 y1 z1
  obtain ⟨rfl, Nq1, e1⟩ := hQ1
  have N1 := Fr.app N0 Nq1
  refine own_by (fun _ k => st1 _ k) ?_
  show own_G _ _ _ _ _ _ _ (T1.setTop (mkF m 8 #[.val (.ref a0), .val (.int p1), .val (.int p2)] [(.int (own_sz F N (i + 1)))]))
  refine own_by (fun _ k => XS.aloadN X1.here hx rfl (hb hby own_d2_8) rfl rfl k) ?_
  show own_G _ _ _ _ _ _ _ (T1.setTop (mkF m 9 #[.val (.ref a0), .val (.int p1), .val (.int p2)] [(.ref a0), (.int (own_sz F N (i + 1)))]))
  refine own_by (fun _ k => XS.iloadN X1.here hx rfl (hb hby own_d2_9) rfl  k) ?_
  show own_G _ _ _ _ _ _ _ (T1.setTop (mkF m 10 #[.val (.ref a0), .val (.int p1), .val (.int p2)] [(.int p1), (.ref a0), (.int (own_sz F N (i + 1)))]))
  refine own_by (fun _ k => XS.iconst X1.here hx rfl (hb hby own_d2_10) k) ?_
  show own_G _ _ _ _ _ _ _ (T1.setTop (mkF m 11 #[.val (.ref a0), .val (.int p1), .val (.int p2)] [(.int (2 : Int32)), (.int p1), (.ref a0), (.int (own_sz F N (i + 1)))]))
  refine own_by (fun _ k => XS.iadd X1.here hx rfl (hb hby own_d2_11) rfl k) ?_
  show own_G _ _ _ _ _ _ _ (T1.setTop (mkF m 12 #[.val (.ref a0), .val (.int p1), .val (.int p2)] [(.int (p1 + (2 : Int32))), (.ref a0), (.int (own_sz F N (i + 1)))]))
  refine own_by (fun _ k => XS.iloadN X1.here hx rfl (hb hby own_d2_12) rfl  k) ?_
  show own_G _ _ _ _ _ _ _ (T1.setTop (mkF m 13 #[.val (.ref a0), .val (.int p1), .val (.int p2)] [(.int p2), (.int (p1 + (2 : Int32))), (.ref a0), (.int (own_sz F N (i + 1)))]))
  obtain ⟨_, _, ⟨T2, L2, k2, n2⟩, -, X2, ⟨Lc2, hQ2, l2, y2, z2⟩, st2⟩ := Jvm.LawKit.callS X1 hx (y := (⟨"com/example/hedgerow/hedgerow/model/UtilityTableStridesPinLaw", "sizeOrOne", "([III)I"⟩ : MethodName)) hown (mvT hZ (hw _ (List.mem_of_getElem? (i := 10) rfl))) (mvT hZ (hw _ (List.mem_of_getElem? (i := 11) rfl))) (mvT hZ (hw _ (List.mem_of_getElem? (i := 8) rfl))) (mvT hZ (hw _ (List.mem_of_getElem? (i := 12) rfl))) (by decide) (backOf (W := 1) (rm1 l Z aw hw [] a0 (p1 + (2 : Int32)) p2 F (i + 2) N h0 n0 Z0 VA (own_add h1 (show (2 : Int32).toInt = (2 : Nat) by decide) (by omega)) h2 hN) hZ (hw _ (List.mem_of_getElem? (i := 12) rfl)) (hw _ (List.mem_of_getElem? (i := 8) rfl)) (by decide) (by decide)) (g := (mkF m 13 #[.val (.ref a0), .val (.int p1), .val (.int p2)] [(.int p2), (.int (p1 + (2 : Int32))), (.ref a0), (.int (own_sz F N (i + 1)))])) rfl (by rw [hml]; rfl) (argsL := [(.ref a0), (.int (p1 + (2 : Int32))), (.int p2)]) (rest := [(.int (own_sz F N (i + 1)))]) (lenOf own_pd0 rfl) rfl (by show 2 * 0 + _ ≤ _; exact Nat.le_of_eq rfl) (hb hby own_d2_13) (fun _ _ => ⟨rfl, e1, (by decide : 0 + 0 ≤ _), (by decide : 0 + 0 ≤ _)⟩)
  dsimp only [Pt.U, Pt.locs, Pt.cells, Pt.slots] at X2 l2 y2 z2 st2 hQ2
  subst l2 y2 z2
  obtain ⟨rfl, Nq2, e2⟩ := hQ2
  have N2 := Fr.app N1 Nq2
  refine own_by (fun _ k => st2 _ k) ?_
  show own_G _ _ _ _ _ _ _ (T2.setTop (mkF m 16 #[.val (.ref a0), .val (.int p1), .val (.int p2)] [(.int (own_sz F N (i + 2))), (.int (own_sz F N (i + 1)))]))
  refine own_by (fun _ k => XS.imul X2.here hx rfl (hb hby own_d2_16) rfl k) ?_
  show own_G _ _ _ _ _ _ _ (T2.setTop (mkF m 17 #[.val (.ref a0), .val (.int p1), .val (.int p2)] [(.int ((own_sz F N (i + 1)) * (own_sz F N (i + 2))))]))
  refine own_by (fun _ k => XS.aloadN X2.here hx rfl (hb hby own_d2_17) rfl rfl k) ?_
  show own_G _ _ _ _ _ _ _ (T2.setTop (mkF m 18 #[.val (.ref a0), .val (.int p1), .val (.int p2)] [(.ref a0), (.int ((own_sz F N (i + 1)) * (own_sz F N (i + 2))))]))
  refine own_by (fun _ k => XS.iloadN X2.here hx rfl (hb hby own_d2_18) rfl  k) ?_
  show own_G _ _ _ _ _ _ _ (T2.setTop (mkF m 19 #[.val (.ref a0), .val (.int p1), .val (.int p2)] [(.int p1), (.ref a0), (.int ((own_sz F N (i + 1)) * (own_sz F N (i + 2))))]))
  refine own_by (fun _ k => XS.iconst X2.here hx rfl (hb hby own_d2_19) k) ?_
  show own_G _ _ _ _ _ _ _ (T2.setTop (mkF m 20 #[.val (.ref a0), .val (.int p1), .val (.int p2)] [(.int (3 : Int32)), (.int p1), (.ref a0), (.int ((own_sz F N (i + 1)) * (own_sz F N (i + 2))))]))
  refine own_by (fun _ k => XS.iadd X2.here hx rfl (hb hby own_d2_20) rfl k) ?_
  show own_G _ _ _ _ _ _ _ (T2.setTop (mkF m 21 #[.val (.ref a0), .val (.int p1), .val (.int p2)] [(.int (p1 + (3 : Int32))), (.ref a0), (.int ((own_sz F N (i + 1)) * (own_sz F N (i + 2))))]))
  refine own_by (fun _ k => XS.iloadN X2.here hx rfl (hb hby own_d2_21) rfl  k) ?_
  show own_G _ _ _ _ _ _ _ (T2.setTop (mkF m 22 #[.val (.ref a0), .val (.int p1), .val (.int p2)] [(.int p2), (.int (p1 + (3 : Int32))), (.ref a0), (.int ((own_sz F N (i + 1)) * (own_sz F N (i + 2))))]))
  obtain ⟨_, _, ⟨T3, L3, k3, n3⟩, -, X3, ⟨Lc3, hQ3, l3, y3, z3⟩, st3⟩ := Jvm.LawKit.callS X2 hx (y := (⟨"com/example/hedgerow/hedgerow/model/UtilityTableStridesPinLaw", "sizeOrOne", "([III)I"⟩ : MethodName)) hown (mvT hZ (hw _ (List.mem_of_getElem? (i := 10) rfl))) (mvT hZ (hw _ (List.mem_of_getElem? (i := 11) rfl))) (mvT hZ (hw _ (List.mem_of_getElem? (i := 8) rfl))) (mvT hZ (hw _ (List.mem_of_getElem? (i := 12) rfl))) (by decide) (backOf (W := 1) (rm1 l Z aw hw [] a0 (p1 + (3 : Int32)) p2 F (i + 3) N h0 n0 Z0 VA (own_add h1 (show (3 : Int32).toInt = (3 : Nat) by decide) (by omega)) h2 hN) hZ (hw _ (List.mem_of_getElem? (i := 12) rfl)) (hw _ (List.mem_of_getElem? (i := 8) rfl)) (by decide) (by decide)) (g := (mkF m 22 #[.val (.ref a0), .val (.int p1), .val (.int p2)] [(.int p2), (.int (p1 + (3 : Int32))), (.ref a0), (.int ((own_sz F N (i + 1)) * (own_sz F N (i + 2))))])) rfl (by rw [hml]; rfl) (argsL := [(.ref a0), (.int (p1 + (3 : Int32))), (.int p2)]) (rest := [(.int ((own_sz F N (i + 1)) * (own_sz F N (i + 2))))]) (lenOf own_pd0 rfl) rfl (by show 2 * 0 + _ ≤ _; exact Nat.le_of_eq rfl) (hb hby own_d2_22) (fun _ _ => ⟨rfl, e2, (by decide : 0 + 0 ≤ _), (by decide : 0 + 0 ≤ _)⟩)
  dsimp only [Pt.U, Pt.locs, Pt.cells, Pt.slots] at X3 l3 y3 z3 st3 hQ3
  subst l3 y3 z3
  obtain ⟨rfl, Nq3, e3⟩ := hQ3
  have N3 := Fr.app N2 Nq3
  refine own_by (fun _ k => st3 _ k) ?_
  show own_G _ _ _ _ _ _ _ (T3.setTop (mkF m 25 #[.val (.ref a0), .val (.int p1), .val (.int p2)] [(.int (own_sz F N (i + 3))), (.int ((own_sz F N (i + 1)) * (own_sz F N (i + 2))))]))
  refine own_by (fun _ k => XS.imul X3.here hx rfl (hb hby own_d2_25) rfl k) ?_
  show own_G _ _ _ _ _ _ _ (T3.setTop (mkF m 26 #[.val (.ref a0), .val (.int p1), .val (.int p2)] [(.int (((own_sz F N (i + 1)) * (own_sz F N (i + 2))) * (own_sz F N (i + 3))))]))
  refine own_by (fun _ k => XS.aloadN X3.here hx rfl (hb hby own_d2_26) rfl rfl k) ?_
  show own_G _ _ _ _ _ _ _ (T3.setTop (mkF m 27 #[.val (.ref a0), .val (.int p1), .val (.int p2)] [(.ref a0), (.int (((own_sz F N (i + 1)) * (own_sz F N (i + 2))) * (own_sz F N (i + 3))))]))
  refine own_by (fun _ k => XS.iloadN X3.here hx rfl (hb hby own_d2_27) rfl  k) ?_
  show own_G _ _ _ _ _ _ _ (T3.setTop (mkF m 28 #[.val (.ref a0), .val (.int p1), .val (.int p2)] [(.int p1), (.ref a0), (.int (((own_sz F N (i + 1)) * (own_sz F N (i + 2))) * (own_sz F N (i + 3))))]))
  refine own_by (fun _ k => XS.iconst X3.here hx rfl (hb hby own_d2_28) k) ?_
  show own_G _ _ _ _ _ _ _ (T3.setTop (mkF m 29 #[.val (.ref a0), .val (.int p1), .val (.int p2)] [(.int (4 : Int32)), (.int p1), (.ref a0), (.int (((own_sz F N (i + 1)) * (own_sz F N (i + 2))) * (own_sz F N (i + 3))))]))
  refine own_by (fun _ k => XS.iadd X3.here hx rfl (hb hby own_d2_29) rfl k) ?_
  show own_G _ _ _ _ _ _ _ (T3.setTop (mkF m 30 #[.val (.ref a0), .val (.int p1), .val (.int p2)] [(.int (p1 + (4 : Int32))), (.ref a0), (.int (((own_sz F N (i + 1)) * (own_sz F N (i + 2))) * (own_sz F N (i + 3))))]))
  refine own_by (fun _ k => XS.iloadN X3.here hx rfl (hb hby own_d2_30) rfl  k) ?_
  show own_G _ _ _ _ _ _ _ (T3.setTop (mkF m 31 #[.val (.ref a0), .val (.int p1), .val (.int p2)] [(.int p2), (.int (p1 + (4 : Int32))), (.ref a0), (.int (((own_sz F N (i + 1)) * (own_sz F N (i + 2))) * (own_sz F N (i + 3))))]))
  obtain ⟨_, _, ⟨T4, L4, k4, n4⟩, -, X4, ⟨Lc4, hQ4, l4, y4, z4⟩, st4⟩ := Jvm.LawKit.callS X3 hx (y := (⟨"com/example/hedgerow/hedgerow/model/UtilityTableStridesPinLaw", "sizeOrOne", "([III)I"⟩ : MethodName)) hown (mvT hZ (hw _ (List.mem_of_getElem? (i := 10) rfl))) (mvT hZ (hw _ (List.mem_of_getElem? (i := 11) rfl))) (mvT hZ (hw _ (List.mem_of_getElem? (i := 8) rfl))) (mvT hZ (hw _ (List.mem_of_getElem? (i := 12) rfl))) (by decide) (backOf (W := 1) (rm1 l Z aw hw [] a0 (p1 + (4 : Int32)) p2 F (i + 4) N h0 n0 Z0 VA (own_add h1 (show (4 : Int32).toInt = (4 : Nat) by decide) (by omega)) h2 hN) hZ (hw _ (List.mem_of_getElem? (i := 12) rfl)) (hw _ (List.mem_of_getElem? (i := 8) rfl)) (by decide) (by decide)) (g := (mkF m 31 #[.val (.ref a0), .val (.int p1), .val (.int p2)] [(.int p2), (.int (p1 + (4 : Int32))), (.ref a0), (.int (((own_sz F N (i + 1)) * (own_sz F N (i + 2))) * (own_sz F N (i + 3))))])) rfl (by rw [hml]; rfl) (argsL := [(.ref a0), (.int (p1 + (4 : Int32))), (.int p2)]) (rest := [(.int (((own_sz F N (i + 1)) * (own_sz F N (i + 2))) * (own_sz F N (i + 3))))]) (lenOf own_pd0 rfl) rfl (by show 2 * 0 + _ ≤ _; exact Nat.le_of_eq rfl) (hb hby own_d2_31) (fun _ _ => ⟨rfl, e3, (by decide : 0 + 0 ≤ _), (by decide : 0 + 0 ≤ _)⟩)
  dsimp only [Pt.U, Pt.locs, Pt.cells, Pt.slots] at X4 l4 y4 z4 st4 hQ4
  subst l4 y4 z4
  obtain ⟨rfl, Nq4, e4⟩ := hQ4
  have N4 := Fr.app N3 Nq4
  refine own_by (fun _ k => st4 _ k) ?_
  show own_G _ _ _ _ _ _ _ (T4.setTop (mkF m 34 #[.val (.ref a0), .val (.int p1), .val (.int p2)] [(.int (own_sz F N (i + 4))), (.int (((own_sz F N (i + 1)) * (own_sz F N (i + 2))) * (own_sz F N (i + 3))))]))
  refine own_by (fun _ k => XS.imul X4.here hx rfl (hb hby own_d2_34) rfl k) ?_
  show own_G _ _ _ _ _ _ _ (T4.setTop (mkF m 35 #[.val (.ref a0), .val (.int p1), .val (.int p2)] [(.int ((((own_sz F N (i + 1)) * (own_sz F N (i + 2))) * (own_sz F N (i + 3))) * (own_sz F N (i + 4))))]))
  exact own_end X4 (v := some (.int ((((own_sz F N (i + 1)) * (own_sz F N (i + 2))) * (own_sz F N (i + 3))) * (own_sz F N (i + 4))))) (fun h => by rw [Bd.returns] at h; cases h) (BodyLoose.notSynchronized Bd) (fun fs hr => retI X4 hx Bd.returns (hb hby own_d2_35) hr) (by rw [e4]; exact ⟨rfl, N4, rfl⟩) (by decide) (by decide)
theorem own_d1_0 : decode prog_130_method_42_code 0 = .ok (.aload_n 0, 1) := by decide +kernel
theorem own_d1_1 : decode prog_130_method_42_code 1 = .ok (.arraylength, 1) := by decide +kernel
theorem own_d1_2 : decode prog_130_method_42_code 2 = .ok (.newarray .int, 2) := by decide +kernel
theorem own_d1_4 : decode prog_130_method_42_code 4 = .ok (.astore_n 1, 1) := by decide +kernel
theorem own_d1_5 : decode prog_130_method_42_code 5 = .ok (.iconst 1, 1) := by decide +kernel
theorem own_d1_6 : decode prog_130_method_42_code 6 = .ok (.istore_n 2, 1) := by decide +kernel
theorem own_d1_7 : decode prog_130_method_42_code 7 = .ok (.aload_n 1, 1) := by decide +kernel
theorem own_d1_8 : decode prog_130_method_42_code 8 = .ok (.arraylength, 1) := by decide +kernel
theorem own_d1_9 : decode prog_130_method_42_code 9 = .ok (.iconst 1, 1) := by decide +kernel
theorem own_d1_10 : decode prog_130_method_42_code 10 = .ok (.isub, 1) := by decide +kernel
theorem own_d1_11 : decode prog_130_method_42_code 11 = .ok (.istore_n 3, 1) := by decide +kernel
theorem own_d1_12 : decode prog_130_method_42_code 12 = .ok (.iload_n 3, 1) := by decide +kernel
theorem own_d1_13 : decode prog_130_method_42_code 13 = .ok (.ifCond .lt 19, 3) := by decide +kernel
theorem own_d1_32 : decode prog_130_method_42_code 32 = .ok (.aload_n 1, 1) := by decide +kernel
theorem own_d1_33 : decode prog_130_method_42_code 33 = .ok (.areturn, 1) := by decide +kernel
theorem own_d1_16 : decode prog_130_method_42_code 16 = .ok (.aload_n 1, 1) := by decide +kernel
theorem own_d1_17 : decode prog_130_method_42_code 17 = .ok (.iload_n 3, 1) := by decide +kernel
theorem own_d1_18 : decode prog_130_method_42_code 18 = .ok (.iload_n 2, 1) := by decide +kernel
theorem own_d1_19 : decode prog_130_method_42_code 19 = .ok (.iastore, 1) := by decide +kernel
theorem own_d1_20 : decode prog_130_method_42_code 20 = .ok (.iload_n 2, 1) := by decide +kernel
theorem own_d1_21 : decode prog_130_method_42_code 21 = .ok (.aload_n 0, 1) := by decide +kernel
theorem own_d1_22 : decode prog_130_method_42_code 22 = .ok (.iload_n 3, 1) := by decide +kernel
theorem own_d1_23 : decode prog_130_method_42_code 23 = .ok (.iaload, 1) := by decide +kernel
theorem own_d1_24 : decode prog_130_method_42_code 24 = .ok (.imul, 1) := by decide +kernel
theorem own_d1_25 : decode prog_130_method_42_code 25 = .ok (.istore_n 2, 1) := by decide +kernel
theorem own_d1_26 : decode prog_130_method_42_code 26 = .ok (.iinc 3 (-1), 3) := by decide +kernel
theorem own_d1_29 : decode prog_130_method_42_code 29 = .ok (.goto (-17), 3) := by decide +kernel
theorem own_pn1 : plainName "com/example/hedgerow/hedgerow/model/UtilityTable" = true := by first | (simp [plainName, overriddenIn]; done) | decide +kernel
theorem own_ef3 (m : MethodId) (x0 : Addr) : entryFrame m #[(.ref x0)] 4 = mkF m 0 #[.val (.ref x0), .unset, .unset, .unset] [] := by first | (simp [entryFrame, mkF, argsToLocals, Value.category]; done) | rfl
def own_Q3 (Z : State) (a0 : Addr) (zn : Int32) (N : Nat) (F : Nat → Int32) (h0 : Heap) (n0 : Nat) (v : Option Value) (h : Heap) (L : List Loc) : Prop := ∃ b : Addr, v = some (.ref b) ∧ Fr n0 L ∧ Keep h0 h [] ∧ own_AI Z h b N (own_st F N)
set_option maxRecDepth 65536 in
set_option maxHeartbeats 40000000 in
theorem rm3 (l : Launch) (Z : State) (aw : Array Value) (hw : ∀ d ∈ tables_1, d.before aw Z = true) (ws : List Jvm.Cond) (a0 : Addr) (zn : Int32) (N : Nat) (F : Nat → Int32) (h0 : Heap) (n0 : Nat) (Z0 : n0 ≤ h0.size) (VA : own_AI Z h0 a0 N F) (hz : zn.toInt = N) (hN : N ≤ 5) :
    MetFree l (⟨"com/example/hedgerow/hedgerow/model/UtilityTable", "strides", "([I)[I"⟩ : MethodName) (head1 (Jvm.Cond.code (⟨"com/example/hedgerow/hedgerow/model/UtilityTable", "strides", "([I)[I"⟩ : MethodName) prog_130_method_42_code 4 (some (.array .int)) :: ws) ({ frames := 0, cells := 1, slots := 5, locals := 0 } : Room)) (fun a U => a = #[(.ref a0)] ∧ Z.Warmed39 U.vm ∧ U.heap = h0) (fun _ _ _ _ _ => True) (fun _ U o U' => ∃ v L, o = .returned v ∧ own_Q3 Z a0 zn N F h0 n0 v U'.heap L ∧ FrameEnd U o U' L ({ frames := 0, cells := 1, slots := 5, locals := 0 } : Room).cells ({ frames := 0, cells := 1, slots := 5, locals := 0 } : Room).slots) := by
  refine MetFree.of_bodySF (plainFor_of_name own_pn1) hisR ?_
  intro p e s m args below meth c s₁ Bd hml0 hP hK
  obtain ⟨rfl, hZ, hh⟩ := hP
  have hx := Bd.exec
  have hby := Bd.bytes
  have hml : c.maxLocals = 4 := hml0
  have hown : s.vm.findClass "com/example/hedgerow/hedgerow/model/UtilityTable" = some m.cls := findClass_of_methodNamed Bd.named
  have hnm := (name_of_methodNamed Bd.named Bd.method).1
  have X0 : Stand p l e ({ frames := 0, cells := 1, slots := 5, locals := 0 } : Room) s m #[(.ref a0)] below meth c s₁ [] 0 0 := Stand.of_body Bd
  have e0 : s₁.heap = h0 := by rw [← hh, Bd.state]; rfl
  have N0 := Fr.nil n0
  show own_G p.tables e below s (own_Q3 Z a0 zn N F h0 n0) ({ frames := 0, cells := 1, slots := 5, locals := 0 } : Room).cells ({ frames := 0, cells := 1, slots := 5, locals := 0 } : Room).slots (s₁.setTop (entryFrame m #[(.ref a0)] 4))
  refine own_by (fun _ k => castTop (own_ef3 m a0) k) ?_
  show own_G _ _ _ _ _ _ _ (s₁.setTop (mkF m 0 #[.val (.ref a0), .unset, .unset, .unset] []))
  refine own_by (fun _ k => XS.aloadN X0.here hx rfl (hb hby own_d1_0) rfl rfl k) ?_
  show own_G _ _ _ _ _ _ _ (s₁.setTop (mkF m 1 #[.val (.ref a0), .unset, .unset, .unset] [(.ref a0)]))
  refine own_by (own_len X0 hx hZ e0 VA (z := zn) hz (g := (mkF m 1 #[.val (.ref a0), .unset, .unset, .unset] [(.ref a0)])) rfl rfl (hb hby own_d1_1)) ?_
  show own_G _ _ _ _ _ _ _ (s₁.setTop (mkF m 2 #[.val (.ref a0), .unset, .unset, .unset] [(.int zn)]))
  obtain ⟨T5, h5, X5, e5, E5, A5, st5⟩ := own_newI X0 hx hZ (hw _ (List.mem_of_getElem? (i := 1) rfl)) e0 (g := (mkF m 2 #[.val (.ref a0), .unset, .unset, .unset] [(.int zn)])) rfl (hb hby own_d1_2) rfl (N := N) hz (cap := 5) hN (by decide) (by decide) (by decide)
  obtain ⟨b5, g5⟩ : ∃ z, z = h0.size := ⟨_, rfl⟩
  rw [← g5] at A5 st5
  have ne_a0_b5 : a0 ≠ b5 := Nat.ne_of_lt (Nat.lt_of_lt_of_le VA.lt (Nat.le_of_eq g5.symm))
  have g_b5 : n0 ≤ b5 := Nat.le_trans Z0 (Nat.le_of_eq g5.symm)
  have sz_b5 : h0.size ≤ b5 := Nat.le_trans (Keep.refl h0 []).1 (Nat.le_of_eq g5.symm)
  refine own_by st5 ?_
  have F6_0 := VA.ext E5
  have Z7 : n0 ≤ h5.size := Nat.le_trans Z0 E5.1
  have K5 := (Keep.refl h0 []).ext E5
  show own_G _ _ _ _ _ _ _ (T5.setTop (mkF m 4 #[.val (.ref a0), .unset, .unset, .unset] [(.ref b5)]))
  refine own_by (fun _ k => XS.astoreN X5.here hx rfl (hb hby own_d1_4) rfl rfl (l' := #[.val (.ref a0), .val (.ref b5), .unset, .unset]) rfl k) ?_
  show own_G _ _ _ _ _ _ _ (T5.setTop (mkF m 5 #[.val (.ref a0), .val (.ref b5), .unset, .unset] []))
  refine own_by (fun _ k => XS.iconst X5.here hx rfl (hb hby own_d1_5) k) ?_
  show own_G _ _ _ _ _ _ _ (T5.setTop (mkF m 6 #[.val (.ref a0), .val (.ref b5), .unset, .unset] [(.int (1 : Int32))]))
  refine own_by (fun _ k => XS.istoreN X5.here hx rfl (hb hby own_d1_6) rfl (l' := #[.val (.ref a0), .val (.ref b5), .val (.int (1 : Int32)), .unset]) rfl k) ?_
  show own_G _ _ _ _ _ _ _ (T5.setTop (mkF m 7 #[.val (.ref a0), .val (.ref b5), .val (.int (1 : Int32)), .unset] []))
  refine own_by (fun _ k => XS.aloadN X5.here hx rfl (hb hby own_d1_7) rfl rfl k) ?_
  show own_G _ _ _ _ _ _ _ (T5.setTop (mkF m 8 #[.val (.ref a0), .val (.ref b5), .val (.int (1 : Int32)), .unset] [(.ref b5)]))
  refine own_by (own_len X5 hx hZ e5 A5 (z := zn) hz (g := (mkF m 8 #[.val (.ref a0), .val (.ref b5), .val (.int (1 : Int32)), .unset] [(.ref b5)])) rfl rfl (hb hby own_d1_8)) ?_
  show own_G _ _ _ _ _ _ _ (T5.setTop (mkF m 9 #[.val (.ref a0), .val (.ref b5), .val (.int (1 : Int32)), .unset] [(.int zn)]))
  refine own_by (fun _ k => XS.iconst X5.here hx rfl (hb hby own_d1_9) k) ?_
  show own_G _ _ _ _ _ _ _ (T5.setTop (mkF m 10 #[.val (.ref a0), .val (.ref b5), .val (.int (1 : Int32)), .unset] [(.int (1 : Int32)), (.int zn)]))
  refine own_by (fun _ k => XS.isub X5.here hx rfl (hb hby own_d1_10) rfl k) ?_
  show own_G _ _ _ _ _ _ _ (T5.setTop (mkF m 11 #[.val (.ref a0), .val (.ref b5), .val (.int (1 : Int32)), .unset] [(.int (zn - (1 : Int32)))]))
  refine own_by (fun _ k => XS.istoreN X5.here hx rfl (hb hby own_d1_11) rfl (l' := #[.val (.ref a0), .val (.ref b5), .val (.int (1 : Int32)), .val (.int (zn - (1 : Int32)))]) rfl k) ?_
  have J12 : ∀ (kk12 : Nat) (hj8 : Heap) (Zj8 : n0 ≤ hj8.size) (Kj8 : Keep h0 hj8 []) (Tj8 : State) (lj8 : List Loc) (Xj8 : Stand p l e ({ frames := 0, cells := 1, slots := 5, locals := 0 } : Room) s m #[(.ref a0)] below meth c Tj8 lj8 1 5) (Nj8 : Fr n0 lj8) (ej8 : Tj8.heap = hj8) (pr : Int32) (ii : Int32) (t : Nat) (G : Nat → Int32) (Fj8_0 : own_AI Z hj8 b5 N G) (Fj8_1 : own_AI Z hj8 a0 N F) (hii : ii.toInt = (N : Int) - 1 - (t : Int)) (ht : t ≤ N) (hpr : pr = own_pr F N t) (hG : ∀ j, j < N → N - t ≤ j → G j = own_st F N j) (hk12 : N - t < kk12), own_G p.tables e below s (own_Q3 Z a0 zn N F h0 n0) ({ frames := 0, cells := 1, slots := 5, locals := 0 } : Room).cells ({ frames := 0, cells := 1, slots := 5, locals := 0 } : Room).slots (Tj8.setTop (mkF m 12 #[.val (.ref a0), .val (.ref b5), .val (.int pr), .val (.int ii)] [])) := by
    intro kk12
    induction kk12 with
    | zero => intro hj8 Zj8 Kj8 Tj8 lj8 Xj8 Nj8 ej8 pr ii t G Fj8_0 Fj8_1 hii ht hpr hG hk12; omega
    | succ kk12 ih12 =>
      intro hj8 Zj8 Kj8 Tj8 lj8 Xj8 Nj8 ej8 pr ii t G Fj8_0 Fj8_1 hii ht hpr hG hk12
      show own_G _ _ _ _ _ _ _ (Tj8.setTop (mkF m 12 #[.val (.ref a0), .val (.ref b5), .val (.int pr), .val (.int ii)] []))
      refine own_by (fun _ k => XS.iloadN Xj8.here hx rfl (hb hby own_d1_12) rfl  k) ?_
      show own_G _ _ _ _ _ _ _ (Tj8.setTop (mkF m 13 #[.val (.ref a0), .val (.ref b5), .val (.int pr), .val (.int ii)] [(.int ii)]))
      by_cases hc13 : ii < (0 : Int32)
      · refine own_by (fun _ k => XS.ifYes Xj8.here hx rfl (pc0 := 13) (pc' := 32) rfl (hb hby own_d1_13) rfl (XT.i0_lt_t hc13) (by decide) (by decide) k) ?_
        show own_G _ _ _ _ _ _ _ (Tj8.setTop (mkF m 32 #[.val (.ref a0), .val (.ref b5), .val (.int pr), .val (.int ii)] []))
        refine own_by (fun _ k => XS.aloadN Xj8.here hx rfl (hb hby own_d1_32) rfl rfl k) ?_
        show own_G _ _ _ _ _ _ _ (Tj8.setTop (mkF m 33 #[.val (.ref a0), .val (.ref b5), .val (.int pr), .val (.int ii)] [(.ref b5)]))
        exact own_end Xj8 (v := some (.ref b5)) (fun h => by rw [Bd.returns] at h; cases h) (BodyLoose.notSynchronized Bd) (fun fs hr => Xj8.areturnOut hx (w := (.ref b5)) rfl Bd.returns rfl (hb hby own_d1_33) hr) (by rw [ej8]; exact ⟨b5, rfl, Nj8, Kj8, Fj8_0.cast (fun k hk => by rw [hG k hk (by have := own_neg0.mp hc13; omega)])⟩) (by decide) (by decide)
      · refine own_by (fun _ k => XS.ifNo Xj8.here hx rfl (hb hby own_d1_13) rfl (XT.i0_lt_f hc13) k) ?_
        show own_G _ _ _ _ _ _ _ (Tj8.setTop (mkF m 16 #[.val (.ref a0), .val (.ref b5), .val (.int pr), .val (.int ii)] []))
        have htn : t < N := by have nz : ¬ ii.toInt < 0 := fun z => hc13 (own_neg0.mpr z); omega
        refine own_by (fun _ k => XS.aloadN Xj8.here hx rfl (hb hby own_d1_16) rfl rfl k) ?_
        show own_G _ _ _ _ _ _ _ (Tj8.setTop (mkF m 17 #[.val (.ref a0), .val (.ref b5), .val (.int pr), .val (.int ii)] [(.ref b5)]))
        refine own_by (fun _ k => XS.iloadN Xj8.here hx rfl (hb hby own_d1_17) rfl  k) ?_
        show own_G _ _ _ _ _ _ _ (Tj8.setTop (mkF m 18 #[.val (.ref a0), .val (.ref b5), .val (.int pr), .val (.int ii)] [(.int ii), (.ref b5)]))
        refine own_by (fun _ k => XS.iloadN Xj8.here hx rfl (hb hby own_d1_18) rfl  k) ?_
        show own_G _ _ _ _ _ _ _ (Tj8.setTop (mkF m 19 #[.val (.ref a0), .val (.ref b5), .val (.int pr), .val (.int ii)] [(.int pr), (.int ii), (.ref b5)]))
        obtain ⟨T9, h9, X9, e9, W9, A9, st9⟩ := own_stI Xj8 hx hZ ej8 Fj8_0 (k := (N - 1 - t)) (by omega) (by omega) (g := (mkF m 19 #[.val (.ref a0), .val (.ref b5), .val (.int pr), .val (.int ii)] [(.int pr), (.int ii), (.ref b5)])) rfl rfl (hb hby own_d1_19)
        refine own_by st9 ?_
        have F10_1 := Fj8_1.other W9 ne_a0_b5
        have N9 := Fr.snoc X9 Nj8 g_b5
        have Z11 : n0 ≤ h9.size := Nat.le_trans Zj8 (Nat.le_of_eq W9.size.symm)
        have K9 := Kj8.wr W9 (Or.inr sz_b5)
        show own_G _ _ _ _ _ _ _ (T9.setTop (mkF m 20 #[.val (.ref a0), .val (.ref b5), .val (.int pr), .val (.int ii)] []))
        refine own_by (fun _ k => XS.iloadN X9.here hx rfl (hb hby own_d1_20) rfl  k) ?_
        show own_G _ _ _ _ _ _ _ (T9.setTop (mkF m 21 #[.val (.ref a0), .val (.ref b5), .val (.int pr), .val (.int ii)] [(.int pr)]))
        refine own_by (fun _ k => XS.aloadN X9.here hx rfl (hb hby own_d1_21) rfl rfl k) ?_
        show own_G _ _ _ _ _ _ _ (T9.setTop (mkF m 22 #[.val (.ref a0), .val (.ref b5), .val (.int pr), .val (.int ii)] [(.ref a0), (.int pr)]))
        refine own_by (fun _ k => XS.iloadN X9.here hx rfl (hb hby own_d1_22) rfl  k) ?_
        show own_G _ _ _ _ _ _ _ (T9.setTop (mkF m 23 #[.val (.ref a0), .val (.ref b5), .val (.int pr), .val (.int ii)] [(.int ii), (.ref a0), (.int pr)]))
        refine own_by (own_ldI X9 hx hZ e9 F10_1 (k := (N - 1 - t)) (by omega) (by omega) (g := (mkF m 23 #[.val (.ref a0), .val (.ref b5), .val (.int pr), .val (.int ii)] [(.int ii), (.ref a0), (.int pr)])) rfl rfl (hb hby own_d1_23)) ?_
        show own_G _ _ _ _ _ _ _ (T9.setTop (mkF m 24 #[.val (.ref a0), .val (.ref b5), .val (.int pr), .val (.int ii)] [(.int (F (N - 1 - t))), (.int pr)]))
        refine own_by (fun _ k => XS.imul X9.here hx rfl (hb hby own_d1_24) rfl k) ?_
        show own_G _ _ _ _ _ _ _ (T9.setTop (mkF m 25 #[.val (.ref a0), .val (.ref b5), .val (.int pr), .val (.int ii)] [(.int (pr * (F (N - 1 - t))))]))
        refine own_by (fun _ k => XS.istoreN X9.here hx rfl (hb hby own_d1_25) rfl (l' := #[.val (.ref a0), .val (.ref b5), .val (.int (pr * (F (N - 1 - t)))), .val (.int ii)]) rfl k) ?_
        show own_G _ _ _ _ _ _ _ (T9.setTop (mkF m 26 #[.val (.ref a0), .val (.ref b5), .val (.int (pr * (F (N - 1 - t)))), .val (.int ii)] []))
        refine own_by (fun _ k => XS.iinc X9.here hx rfl (hb hby own_d1_26) rfl (l' := #[.val (.ref a0), .val (.ref b5), .val (.int (pr * (F (N - 1 - t)))), .val (.int (ii + (-1 : Int32)))]) rfl k) ?_
        show own_G _ _ _ _ _ _ _ (T9.setTop (mkF m 29 #[.val (.ref a0), .val (.ref b5), .val (.int (pr * (F (N - 1 - t)))), .val (.int (ii + (-1 : Int32)))] []))
        refine own_by (fun _ k => XS.goto X9.here hx rfl (pc0 := 29) (pc' := 12) rfl (hb hby own_d1_29) (by decide) (by decide) k) ?_
        exact ih12 h9 Z11 K9 T9 _ X9 N9 e9 (pr * (F (N - 1 - t))) (ii + (-1 : Int32)) (t + 1) (own_upd G (N - 1 - t) pr) A9 F10_1 (by rw [own_dec (by omega), hii]; omega) (by omega) (by rw [hpr]; rfl) (fun j h1 h2 => by
        unfold own_upd
        by_cases e : j = N - 1 - t
        · rw [if_pos e, hpr, e, own_st, show N - 1 - (N - 1 - t) = t by omega]
        · rw [if_neg e]; exact hG j h1 (by omega)) (by omega)
  exact J12 (N + 1) h5 Z7 K5 T5 _ X5 N0 e5 (1 : Int32) (zn - (1 : Int32)) 0 (fun _ => 0) A5 F6_0 (own_sub1 hz) (Nat.zero_le _) rfl (fun j h1 h2 => absurd h1 (by omega)) (by omega)
theorem own_pd1 : parseMethodDescriptor "([I)[I" = some ⟨[(.array .int)], some (.array .int)⟩ := by decide +kernel
theorem own_ef0 (m : MethodId) (x0 : Int32) (x1 : Int32) (x2 : Int32) (x3 : Int32) (x4 : Int32) (x5 : Int32) : entryFrame m #[(.int x0), (.int x1), (.int x2), (.int x3), (.int x4), (.int x5)] maxLocals = mkF m 0 #[.val (.int x0), .val (.int x1), .val (.int x2), .val (.int x3), .val (.int x4), .val (.int x5), .unset, .unset, .unset, .unset, .unset] [] := by first | (simp [entryFrame, mkF, argsToLocals, Value.category, maxLocals]; done) | rfl
def own_Q0 (Z : State) (p0 : Int32) (p1 : Int32) (p2 : Int32) (p3 : Int32) (p4 : Int32) (p5 : Int32) (h0 : Heap) (n0 : Nat) (v : Option Value) (h : Heap) (L : List Loc) : Prop := v = some (.int 1) ∧ Fr n0 L
set_option maxRecDepth 65536 in
set_option maxHeartbeats 40000000 in
theorem rm0 (l : Launch) (Z : State) (aw : Array Value) (hw : ∀ d ∈ tables_1, d.before aw Z = true) (ws : List Jvm.Cond) (p0 : Int32) (p1 : Int32) (p2 : Int32) (p3 : Int32) (p4 : Int32) (p5 : Int32) (h0 : Heap) (n0 : Nat) (Z0 : n0 ≤ h0.size) :
    MetFree l x (head1 (Jvm.Cond.code x code maxLocals ret :: ws) room_1) (fun a U => a = #[(.int p0), (.int p1), (.int p2), (.int p3), (.int p4), (.int p5)] ∧ Z.Warmed39 U.vm ∧ U.heap = h0) (fun _ _ _ _ _ => True) (fun _ U o U' => ∃ v L, o = .returned v ∧ own_Q0 Z p0 p1 p2 p3 p4 p5 h0 n0 v U'.heap L ∧ FrameEnd U o U' L room_1.cells room_1.slots) := by
  refine MetFree.of_bodySF (plainFor_of_name own_pn0) hisR ?_
  intro p e s m args below meth c s₁ Bd hml0 hP hK
  obtain ⟨rfl, hZ, hh⟩ := hP
  have hx := Bd.exec
  have hby := Bd.bytes
  have hml : c.maxLocals = 11 := hml0
  have hown : s.vm.findClass "com/example/hedgerow/hedgerow/model/UtilityTableStridesPinLaw" = some m.cls := findClass_of_methodNamed Bd.named
  have hnm := (name_of_methodNamed Bd.named Bd.method).1
  have X0 : Stand p l e room_1 s m #[(.int p0), (.int p1), (.int p2), (.int p3), (.int p4), (.int p5)] below meth c s₁ [] 0 0 := Stand.of_body Bd
  have e0 : s₁.heap = h0 := by rw [← hh, Bd.state]; rfl
  have N0 := Fr.nil n0
  show own_G p.tables e below s (own_Q0 Z p0 p1 p2 p3 p4 p5 h0 n0) room_1.cells room_1.slots (s₁.setTop (entryFrame m #[(.int p0), (.int p1), (.int p2), (.int p3), (.int p4), (.int p5)] maxLocals))
  refine own_by (fun _ k => castTop (own_ef0 m p0 p1 p2 p3 p4 p5) k) ?_
  show own_G _ _ _ _ _ _ _ (s₁.setTop (mkF m 0 #[.val (.int p0), .val (.int p1), .val (.int p2), .val (.int p3), .val (.int p4), .val (.int p5), .unset, .unset, .unset, .unset, .unset] []))
  refine own_by (fun _ k => XS.iloadN X0.here hx rfl (hb hby at_0) rfl  k) ?_
  show own_G _ _ _ _ _ _ _ (s₁.setTop (mkF m 1 #[.val (.int p0), .val (.int p1), .val (.int p2), .val (.int p3), .val (.int p4), .val (.int p5), .unset, .unset, .unset, .unset, .unset] [(.int p0)]))
  refine own_by (X0.ldcInt hx hown (mvT hZ (hw _ (List.mem_of_getElem? (i := 0) rfl))) (g := (mkF m 1 #[.val (.int p0), .val (.int p1), .val (.int p2), .val (.int p3), .val (.int p4), .val (.int p5), .unset, .unset, .unset, .unset, .unset] [(.int p0)])) rfl (hb hby at_1)) ?_
  show own_G _ _ _ _ _ _ _ (s₁.setTop (mkF m 3 #[.val (.int p0), .val (.int p1), .val (.int p2), .val (.int p3), .val (.int p4), .val (.int p5), .unset, .unset, .unset, .unset, .unset] [(.int (2147483647 : Int32)), (.int p0)]))
  refine own_by (fun _ k => XS.iand X0.here hx rfl (hb hby at_3) rfl k) ?_
  show own_G _ _ _ _ _ _ _ (s₁.setTop (mkF m 4 #[.val (.int p0), .val (.int p1), .val (.int p2), .val (.int p3), .val (.int p4), .val (.int p5), .unset, .unset, .unset, .unset, .unset] [(.int (p0 &&& (2147483647 : Int32)))]))
  refine own_by (fun _ k => XS.bipush X0.here hx rfl (hb hby at_4) k) ?_
  show own_G _ _ _ _ _ _ _ (s₁.setTop (mkF m 6 #[.val (.int p0), .val (.int p1), .val (.int p2), .val (.int p3), .val (.int p4), .val (.int p5), .unset, .unset, .unset, .unset, .unset] [(.int (6 : Int32)), (.int (p0 &&& (2147483647 : Int32)))]))
  refine own_by (fun _ k => iremM (g := (mkF m 6 #[.val (.int p0), .val (.int p1), .val (.int p2), .val (.int p3), .val (.int p4), .val (.int p5), .unset, .unset, .unset, .unset, .unset] [(.int (6 : Int32)), (.int (p0 &&& (2147483647 : Int32)))])) X0 hx rfl (hb hby at_6) rfl (by decide) k) ?_
  show own_G _ _ _ _ _ _ _ (s₁.setTop (mkF m 7 #[.val (.int p0), .val (.int p1), .val (.int p2), .val (.int p3), .val (.int p4), .val (.int p5), .unset, .unset, .unset, .unset, .unset] [(.int ((p0 &&& (2147483647 : Int32)) % (6 : Int32)))]))
  refine own_by (fun _ k => XS.istore X0.here hx rfl (hb hby at_7) rfl (l' := #[.val (.int p0), .val (.int p1), .val (.int p2), .val (.int p3), .val (.int p4), .val (.int p5), .val (.int ((p0 &&& (2147483647 : Int32)) % (6 : Int32))), .unset, .unset, .unset, .unset]) rfl k) ?_
  show own_G _ _ _ _ _ _ _ (s₁.setTop (mkF m 9 #[.val (.int p0), .val (.int p1), .val (.int p2), .val (.int p3), .val (.int p4), .val (.int p5), .val (.int ((p0 &&& (2147483647 : Int32)) % (6 : Int32))), .unset, .unset, .unset, .unset] []))
  generalize hnnn : ((p0 &&& (2147483647 : Int32)) % (6 : Int32)) = nn
  show own_G _ _ _ _ _ _ _ (s₁.setTop (mkF m 9 #[.val (.int p0), .val (.int p1), .val (.int p2), .val (.int p3), .val (.int p4), .val (.int p5), .val (.int nn), .unset, .unset, .unset, .unset] []))
  obtain ⟨N, hN, hN5⟩ : ∃ N : Nat, nn.toInt = N ∧ N ≤ 5 := by rw [← hnnn]; exact own_n _
  refine own_by (fun _ k => XS.iconst X0.here hx rfl (hb hby at_9) k) ?_
  show own_G _ _ _ _ _ _ _ (s₁.setTop (mkF m 10 #[.val (.int p0), .val (.int p1), .val (.int p2), .val (.int p3), .val (.int p4), .val (.int p5), .val (.int nn), .unset, .unset, .unset, .unset] [(.int (5 : Int32))]))
  obtain ⟨T12, h12, X12, e12, E12, A12, st12⟩ := own_newI X0 hx hZ (hw _ (List.mem_of_getElem? (i := 1) rfl)) e0 (g := (mkF m 10 #[.val (.int p0), .val (.int p1), .val (.int p2), .val (.int p3), .val (.int p4), .val (.int p5), .val (.int nn), .unset, .unset, .unset, .unset] [(.int (5 : Int32))])) rfl (hb hby at_10) rfl (N := 5) (by decide) (cap := 5) (Nat.le_refl _) (by decide) (by decide) (by decide)
  obtain ⟨b12, g12⟩ : ∃ z, z = h0.size := ⟨_, rfl⟩
  rw [← g12] at A12 st12
  have g_b12 : n0 ≤ b12 := Nat.le_trans Z0 (Nat.le_of_eq g12.symm)
  refine own_by st12 ?_
  have Z14 : n0 ≤ h12.size := Nat.le_trans Z0 E12.1
  show own_G _ _ _ _ _ _ _ (T12.setTop (mkF m 12 #[.val (.int p0), .val (.int p1), .val (.int p2), .val (.int p3), .val (.int p4), .val (.int p5), .val (.int nn), .unset, .unset, .unset, .unset] [(.ref b12)]))
  refine own_by (fun _ k => XS.astore X12.here hx rfl (hb hby at_12) rfl rfl (l' := #[.val (.int p0), .val (.int p1), .val (.int p2), .val (.int p3), .val (.int p4), .val (.int p5), .val (.int nn), .val (.ref b12), .unset, .unset, .unset]) rfl k) ?_
  show own_G _ _ _ _ _ _ _ (T12.setTop (mkF m 14 #[.val (.int p0), .val (.int p1), .val (.int p2), .val (.int p3), .val (.int p4), .val (.int p5), .val (.int nn), .val (.ref b12), .unset, .unset, .unset] []))
  refine own_by (fun _ k => XS.aload X12.here hx rfl (hb hby at_14) rfl rfl k) ?_
  show own_G _ _ _ _ _ _ _ (T12.setTop (mkF m 16 #[.val (.int p0), .val (.int p1), .val (.int p2), .val (.int p3), .val (.int p4), .val (.int p5), .val (.int nn), .val (.ref b12), .unset, .unset, .unset] [(.ref b12)]))
  refine own_by (fun _ k => XS.iconst X12.here hx rfl (hb hby at_16) k) ?_
  show own_G _ _ _ _ _ _ _ (T12.setTop (mkF m 17 #[.val (.int p0), .val (.int p1), .val (.int p2), .val (.int p3), .val (.int p4), .val (.int p5), .val (.int nn), .val (.ref b12), .unset, .unset, .unset] [(.int (0 : Int32)), (.ref b12)]))
  refine own_by (fun _ k => XS.iloadN X12.here hx rfl (hb hby at_17) rfl  k) ?_
  show own_G _ _ _ _ _ _ _ (T12.setTop (mkF m 18 #[.val (.int p0), .val (.int p1), .val (.int p2), .val (.int p3), .val (.int p4), .val (.int p5), .val (.int nn), .val (.ref b12), .unset, .unset, .unset] [(.int p1), (.int (0 : Int32)), (.ref b12)]))
  refine own_by (X12.ldcInt hx hown (mvT hZ (hw _ (List.mem_of_getElem? (i := 0) rfl))) (g := (mkF m 18 #[.val (.int p0), .val (.int p1), .val (.int p2), .val (.int p3), .val (.int p4), .val (.int p5), .val (.int nn), .val (.ref b12), .unset, .unset, .unset] [(.int p1), (.int (0 : Int32)), (.ref b12)])) rfl (hb hby at_18)) ?_
  show own_G _ _ _ _ _ _ _ (T12.setTop (mkF m 20 #[.val (.int p0), .val (.int p1), .val (.int p2), .val (.int p3), .val (.int p4), .val (.int p5), .val (.int nn), .val (.ref b12), .unset, .unset, .unset] [(.int (2147483647 : Int32)), (.int p1), (.int (0 : Int32)), (.ref b12)]))
  refine own_by (fun _ k => XS.iand X12.here hx rfl (hb hby at_20) rfl k) ?_
  show own_G _ _ _ _ _ _ _ (T12.setTop (mkF m 21 #[.val (.int p0), .val (.int p1), .val (.int p2), .val (.int p3), .val (.int p4), .val (.int p5), .val (.int nn), .val (.ref b12), .unset, .unset, .unset] [(.int (p1 &&& (2147483647 : Int32))), (.int (0 : Int32)), (.ref b12)]))
  obtain ⟨T15, h15, X15, e15, W15, A15, st15⟩ := own_stI X12 hx hZ e12 A12 (k := 0) (by decide) (by decide) (g := (mkF m 21 #[.val (.int p0), .val (.int p1), .val (.int p2), .val (.int p3), .val (.int p4), .val (.int p5), .val (.int nn), .val (.ref b12), .unset, .unset, .unset] [(.int (p1 &&& (2147483647 : Int32))), (.int (0 : Int32)), (.ref b12)])) rfl rfl (hb hby at_21)
  refine own_by st15 ?_
  have N15 := Fr.snoc X15 N0 g_b12
  have Z17 : n0 ≤ h15.size := Nat.le_trans Z14 (Nat.le_of_eq W15.size.symm)
  show own_G _ _ _ _ _ _ _ (T15.setTop (mkF m 22 #[.val (.int p0), .val (.int p1), .val (.int p2), .val (.int p3), .val (.int p4), .val (.int p5), .val (.int nn), .val (.ref b12), .unset, .unset, .unset] []))
  refine own_by (fun _ k => XS.aload X15.here hx rfl (hb hby at_22) rfl rfl k) ?_
  show own_G _ _ _ _ _ _ _ (T15.setTop (mkF m 24 #[.val (.int p0), .val (.int p1), .val (.int p2), .val (.int p3), .val (.int p4), .val (.int p5), .val (.int nn), .val (.ref b12), .unset, .unset, .unset] [(.ref b12)]))
  refine own_by (fun _ k => XS.iconst X15.here hx rfl (hb hby at_24) k) ?_
  show own_G _ _ _ _ _ _ _ (T15.setTop (mkF m 25 #[.val (.int p0), .val (.int p1), .val (.int p2), .val (.int p3), .val (.int p4), .val (.int p5), .val (.int nn), .val (.ref b12), .unset, .unset, .unset] [(.int (1 : Int32)), (.ref b12)]))
  refine own_by (fun _ k => XS.iloadN X15.here hx rfl (hb hby at_25) rfl  k) ?_
  show own_G _ _ _ _ _ _ _ (T15.setTop (mkF m 26 #[.val (.int p0), .val (.int p1), .val (.int p2), .val (.int p3), .val (.int p4), .val (.int p5), .val (.int nn), .val (.ref b12), .unset, .unset, .unset] [(.int p2), (.int (1 : Int32)), (.ref b12)]))
  refine own_by (X15.ldcInt hx hown (mvT hZ (hw _ (List.mem_of_getElem? (i := 0) rfl))) (g := (mkF m 26 #[.val (.int p0), .val (.int p1), .val (.int p2), .val (.int p3), .val (.int p4), .val (.int p5), .val (.int nn), .val (.ref b12), .unset, .unset, .unset] [(.int p2), (.int (1 : Int32)), (.ref b12)])) rfl (hb hby at_26)) ?_
  show own_G _ _ _ _ _ _ _ (T15.setTop (mkF m 28 #[.val (.int p0), .val (.int p1), .val (.int p2), .val (.int p3), .val (.int p4), .val (.int p5), .val (.int nn), .val (.ref b12), .unset, .unset, .unset] [(.int (2147483647 : Int32)), (.int p2), (.int (1 : Int32)), (.ref b12)]))
  refine own_by (fun _ k => XS.iand X15.here hx rfl (hb hby at_28) rfl k) ?_
  show own_G _ _ _ _ _ _ _ (T15.setTop (mkF m 29 #[.val (.int p0), .val (.int p1), .val (.int p2), .val (.int p3), .val (.int p4), .val (.int p5), .val (.int nn), .val (.ref b12), .unset, .unset, .unset] [(.int (p2 &&& (2147483647 : Int32))), (.int (1 : Int32)), (.ref b12)]))
  obtain ⟨T18, h18, X18, e18, W18, A18, st18⟩ := own_stI X15 hx hZ e15 A15 (k := 1) (by decide) (by decide) (g := (mkF m 29 #[.val (.int p0), .val (.int p1), .val (.int p2), .val (.int p3), .val (.int p4), .val (.int p5), .val (.int nn), .val (.ref b12), .unset, .unset, .unset] [(.int (p2 &&& (2147483647 : Int32))), (.int (1 : Int32)), (.ref b12)])) rfl rfl (hb hby at_29)
  refine own_by st18 ?_
  have N18 := Fr.snoc X18 N15 g_b12
  have Z20 : n0 ≤ h18.size := Nat.le_trans Z17 (Nat.le_of_eq W18.size.symm)
  show own_G _ _ _ _ _ _ _ (T18.setTop (mkF m 30 #[.val (.int p0), .val (.int p1), .val (.int p2), .val (.int p3), .val (.int p4), .val (.int p5), .val (.int nn), .val (.ref b12), .unset, .unset, .unset] []))
  refine own_by (fun _ k => XS.aload X18.here hx rfl (hb hby at_30) rfl rfl k) ?_
  show own_G _ _ _ _ _ _ _ (T18.setTop (mkF m 32 #[.val (.int p0), .val (.int p1), .val (.int p2), .val (.int p3), .val (.int p4), .val (.int p5), .val (.int nn), .val (.ref b12), .unset, .unset, .unset] [(.ref b12)]))
  refine own_by (fun _ k => XS.iconst X18.here hx rfl (hb hby at_32) k) ?_
  show own_G _ _ _ _ _ _ _ (T18.setTop (mkF m 33 #[.val (.int p0), .val (.int p1), .val (.int p2), .val (.int p3), .val (.int p4), .val (.int p5), .val (.int nn), .val (.ref b12), .unset, .unset, .unset] [(.int (2 : Int32)), (.ref b12)]))
  refine own_by (fun _ k => XS.iloadN X18.here hx rfl (hb hby at_33) rfl  k) ?_
  show own_G _ _ _ _ _ _ _ (T18.setTop (mkF m 34 #[.val (.int p0), .val (.int p1), .val (.int p2), .val (.int p3), .val (.int p4), .val (.int p5), .val (.int nn), .val (.ref b12), .unset, .unset, .unset] [(.int p3), (.int (2 : Int32)), (.ref b12)]))
  refine own_by (X18.ldcInt hx hown (mvT hZ (hw _ (List.mem_of_getElem? (i := 0) rfl))) (g := (mkF m 34 #[.val (.int p0), .val (.int p1), .val (.int p2), .val (.int p3), .val (.int p4), .val (.int p5), .val (.int nn), .val (.ref b12), .unset, .unset, .unset] [(.int p3), (.int (2 : Int32)), (.ref b12)])) rfl (hb hby at_34)) ?_
  show own_G _ _ _ _ _ _ _ (T18.setTop (mkF m 36 #[.val (.int p0), .val (.int p1), .val (.int p2), .val (.int p3), .val (.int p4), .val (.int p5), .val (.int nn), .val (.ref b12), .unset, .unset, .unset] [(.int (2147483647 : Int32)), (.int p3), (.int (2 : Int32)), (.ref b12)]))
  refine own_by (fun _ k => XS.iand X18.here hx rfl (hb hby at_36) rfl k) ?_
  show own_G _ _ _ _ _ _ _ (T18.setTop (mkF m 37 #[.val (.int p0), .val (.int p1), .val (.int p2), .val (.int p3), .val (.int p4), .val (.int p5), .val (.int nn), .val (.ref b12), .unset, .unset, .unset] [(.int (p3 &&& (2147483647 : Int32))), (.int (2 : Int32)), (.ref b12)]))
  obtain ⟨T21, h21, X21, e21, W21, A21, st21⟩ := own_stI X18 hx hZ e18 A18 (k := 2) (by decide) (by decide) (g := (mkF m 37 #[.val (.int p0), .val (.int p1), .val (.int p2), .val (.int p3), .val (.int p4), .val (.int p5), .val (.int nn), .val (.ref b12), .unset, .unset, .unset] [(.int (p3 &&& (2147483647 : Int32))), (.int (2 : Int32)), (.ref b12)])) rfl rfl (hb hby at_37)
  refine own_by st21 ?_
  have N21 := Fr.snoc X21 N18 g_b12
  have Z23 : n0 ≤ h21.size := Nat.le_trans Z20 (Nat.le_of_eq W21.size.symm)
  show own_G _ _ _ _ _ _ _ (T21.setTop (mkF m 38 #[.val (.int p0), .val (.int p1), .val (.int p2), .val (.int p3), .val (.int p4), .val (.int p5), .val (.int nn), .val (.ref b12), .unset, .unset, .unset] []))
  refine own_by (fun _ k => XS.aload X21.here hx rfl (hb hby at_38) rfl rfl k) ?_
  show own_G _ _ _ _ _ _ _ (T21.setTop (mkF m 40 #[.val (.int p0), .val (.int p1), .val (.int p2), .val (.int p3), .val (.int p4), .val (.int p5), .val (.int nn), .val (.ref b12), .unset, .unset, .unset] [(.ref b12)]))
  refine own_by (fun _ k => XS.iconst X21.here hx rfl (hb hby at_40) k) ?_
  show own_G _ _ _ _ _ _ _ (T21.setTop (mkF m 41 #[.val (.int p0), .val (.int p1), .val (.int p2), .val (.int p3), .val (.int p4), .val (.int p5), .val (.int nn), .val (.ref b12), .unset, .unset, .unset] [(.int (3 : Int32)), (.ref b12)]))
  refine own_by (fun _ k => XS.iload X21.here hx rfl (hb hby at_41) rfl  k) ?_
  show own_G _ _ _ _ _ _ _ (T21.setTop (mkF m 43 #[.val (.int p0), .val (.int p1), .val (.int p2), .val (.int p3), .val (.int p4), .val (.int p5), .val (.int nn), .val (.ref b12), .unset, .unset, .unset] [(.int p4), (.int (3 : Int32)), (.ref b12)]))
  refine own_by (X21.ldcInt hx hown (mvT hZ (hw _ (List.mem_of_getElem? (i := 0) rfl))) (g := (mkF m 43 #[.val (.int p0), .val (.int p1), .val (.int p2), .val (.int p3), .val (.int p4), .val (.int p5), .val (.int nn), .val (.ref b12), .unset, .unset, .unset] [(.int p4), (.int (3 : Int32)), (.ref b12)])) rfl (hb hby at_43)) ?_
  show own_G _ _ _ _ _ _ _ (T21.setTop (mkF m 45 #[.val (.int p0), .val (.int p1), .val (.int p2), .val (.int p3), .val (.int p4), .val (.int p5), .val (.int nn), .val (.ref b12), .unset, .unset, .unset] [(.int (2147483647 : Int32)), (.int p4), (.int (3 : Int32)), (.ref b12)]))
  refine own_by (fun _ k => XS.iand X21.here hx rfl (hb hby at_45) rfl k) ?_
  show own_G _ _ _ _ _ _ _ (T21.setTop (mkF m 46 #[.val (.int p0), .val (.int p1), .val (.int p2), .val (.int p3), .val (.int p4), .val (.int p5), .val (.int nn), .val (.ref b12), .unset, .unset, .unset] [(.int (p4 &&& (2147483647 : Int32))), (.int (3 : Int32)), (.ref b12)]))
  obtain ⟨T24, h24, X24, e24, W24, A24, st24⟩ := own_stI X21 hx hZ e21 A21 (k := 3) (by decide) (by decide) (g := (mkF m 46 #[.val (.int p0), .val (.int p1), .val (.int p2), .val (.int p3), .val (.int p4), .val (.int p5), .val (.int nn), .val (.ref b12), .unset, .unset, .unset] [(.int (p4 &&& (2147483647 : Int32))), (.int (3 : Int32)), (.ref b12)])) rfl rfl (hb hby at_46)
  refine own_by st24 ?_
  have N24 := Fr.snoc X24 N21 g_b12
  have Z26 : n0 ≤ h24.size := Nat.le_trans Z23 (Nat.le_of_eq W24.size.symm)
  show own_G _ _ _ _ _ _ _ (T24.setTop (mkF m 47 #[.val (.int p0), .val (.int p1), .val (.int p2), .val (.int p3), .val (.int p4), .val (.int p5), .val (.int nn), .val (.ref b12), .unset, .unset, .unset] []))
  refine own_by (fun _ k => XS.aload X24.here hx rfl (hb hby at_47) rfl rfl k) ?_
  show own_G _ _ _ _ _ _ _ (T24.setTop (mkF m 49 #[.val (.int p0), .val (.int p1), .val (.int p2), .val (.int p3), .val (.int p4), .val (.int p5), .val (.int nn), .val (.ref b12), .unset, .unset, .unset] [(.ref b12)]))
  refine own_by (fun _ k => XS.iconst X24.here hx rfl (hb hby at_49) k) ?_
  show own_G _ _ _ _ _ _ _ (T24.setTop (mkF m 50 #[.val (.int p0), .val (.int p1), .val (.int p2), .val (.int p3), .val (.int p4), .val (.int p5), .val (.int nn), .val (.ref b12), .unset, .unset, .unset] [(.int (4 : Int32)), (.ref b12)]))
  refine own_by (fun _ k => XS.iload X24.here hx rfl (hb hby at_50) rfl  k) ?_
  show own_G _ _ _ _ _ _ _ (T24.setTop (mkF m 52 #[.val (.int p0), .val (.int p1), .val (.int p2), .val (.int p3), .val (.int p4), .val (.int p5), .val (.int nn), .val (.ref b12), .unset, .unset, .unset] [(.int p5), (.int (4 : Int32)), (.ref b12)]))
  refine own_by (X24.ldcInt hx hown (mvT hZ (hw _ (List.mem_of_getElem? (i := 0) rfl))) (g := (mkF m 52 #[.val (.int p0), .val (.int p1), .val (.int p2), .val (.int p3), .val (.int p4), .val (.int p5), .val (.int nn), .val (.ref b12), .unset, .unset, .unset] [(.int p5), (.int (4 : Int32)), (.ref b12)])) rfl (hb hby at_52)) ?_
  show own_G _ _ _ _ _ _ _ (T24.setTop (mkF m 54 #[.val (.int p0), .val (.int p1), .val (.int p2), .val (.int p3), .val (.int p4), .val (.int p5), .val (.int nn), .val (.ref b12), .unset, .unset, .unset] [(.int (2147483647 : Int32)), (.int p5), (.int (4 : Int32)), (.ref b12)]))
  refine own_by (fun _ k => XS.iand X24.here hx rfl (hb hby at_54) rfl k) ?_
  show own_G _ _ _ _ _ _ _ (T24.setTop (mkF m 55 #[.val (.int p0), .val (.int p1), .val (.int p2), .val (.int p3), .val (.int p4), .val (.int p5), .val (.int nn), .val (.ref b12), .unset, .unset, .unset] [(.int (p5 &&& (2147483647 : Int32))), (.int (4 : Int32)), (.ref b12)]))
  obtain ⟨T27, h27, X27, e27, W27, A27, st27⟩ := own_stI X24 hx hZ e24 A24 (k := 4) (by decide) (by decide) (g := (mkF m 55 #[.val (.int p0), .val (.int p1), .val (.int p2), .val (.int p3), .val (.int p4), .val (.int p5), .val (.int nn), .val (.ref b12), .unset, .unset, .unset] [(.int (p5 &&& (2147483647 : Int32))), (.int (4 : Int32)), (.ref b12)])) rfl rfl (hb hby at_55)
  refine own_by st27 ?_
  have N27 := Fr.snoc X27 N24 g_b12
  have Z29 : n0 ≤ h27.size := Nat.le_trans Z26 (Nat.le_of_eq W27.size.symm)
  show own_G _ _ _ _ _ _ _ (T27.setTop (mkF m 56 #[.val (.int p0), .val (.int p1), .val (.int p2), .val (.int p3), .val (.int p4), .val (.int p5), .val (.int nn), .val (.ref b12), .unset, .unset, .unset] []))
  have V30 : own_AI Z h27 b12 5 (own_vv p1 p2 p3 p4 p5) := A27.cast (fun k hk => by
    match k, hk with
    | 0, _ => rfl
    | 1, _ => rfl
    | 2, _ => rfl
    | 3, _ => rfl
    | 4, _ => rfl)
  refine own_by (fun _ k => XS.iload X27.here hx rfl (hb hby at_56) rfl  k) ?_
  show own_G _ _ _ _ _ _ _ (T27.setTop (mkF m 58 #[.val (.int p0), .val (.int p1), .val (.int p2), .val (.int p3), .val (.int p4), .val (.int p5), .val (.int nn), .val (.ref b12), .unset, .unset, .unset] [(.int nn)]))
  obtain ⟨T31, h31, X31, e31, E31, A31, st31⟩ := own_newI X27 hx hZ (hw _ (List.mem_of_getElem? (i := 1) rfl)) e27 (g := (mkF m 58 #[.val (.int p0), .val (.int p1), .val (.int p2), .val (.int p3), .val (.int p4), .val (.int p5), .val (.int nn), .val (.ref b12), .unset, .unset, .unset] [(.int nn)])) rfl (hb hby at_58) rfl (N := N) hN (cap := 5) hN5 (by decide) (by decide) (by decide)
  obtain ⟨b31, g31⟩ : ∃ z, z = h27.size := ⟨_, rfl⟩
  rw [← g31] at A31 st31
  have ne_b12_b31 : b12 ≠ b31 := Nat.ne_of_lt (Nat.lt_of_lt_of_le V30.lt (Nat.le_of_eq g31.symm))
  have g_b31 : n0 ≤ b31 := Nat.le_trans Z29 (Nat.le_of_eq g31.symm)
  refine own_by st31 ?_
  have F32_0 := V30.ext E31
  have Z33 : n0 ≤ h31.size := Nat.le_trans Z29 E31.1
  show own_G _ _ _ _ _ _ _ (T31.setTop (mkF m 60 #[.val (.int p0), .val (.int p1), .val (.int p2), .val (.int p3), .val (.int p4), .val (.int p5), .val (.int nn), .val (.ref b12), .unset, .unset, .unset] [(.ref b31)]))
  refine own_by (fun _ k => XS.astore X31.here hx rfl (hb hby at_60) rfl rfl (l' := #[.val (.int p0), .val (.int p1), .val (.int p2), .val (.int p3), .val (.int p4), .val (.int p5), .val (.int nn), .val (.ref b12), .val (.ref b31), .unset, .unset]) rfl k) ?_
  have J75 : ∀ (hj34 : Heap) (Zj34 : n0 ≤ hj34.size) (Tj34 : State) (lj34 : List Loc) (Xj34 : Stand p l e room_1 s m #[(.int p0), (.int p1), (.int p2), (.int p3), (.int p4), (.int p5)] below meth c Tj34 lj34 2 10) (Nj34 : Fr n0 lj34) (ej34 : Tj34.heap = hj34) (G0 : Nat → Int32) (Fj34_0 : own_AI Z hj34 b12 5 (own_vv p1 p2 p3 p4 p5)) (Fj34_1 : own_AI Z hj34 b31 N G0) (hG0 : ∀ j, j < 1 → j < N → G0 j = (own_vv p1 p2 p3 p4 p5) j), own_G p.tables e below s (own_Q0 Z p0 p1 p2 p3 p4 p5 h0 n0) room_1.cells room_1.slots (Tj34.setTop (mkF m 75 #[.val (.int p0), .val (.int p1), .val (.int p2), .val (.int p3), .val (.int p4), .val (.int p5), .val (.int nn), .val (.ref b12), .val (.ref b31), .unset, .unset] [])) := by
    intro hj34 Zj34 Tj34 lj34 Xj34 Nj34 ej34 G0 Fj34_0 Fj34_1 hG0
    have J89 : ∀ (hj35 : Heap) (Zj35 : n0 ≤ hj35.size) (Tj35 : State) (lj35 : List Loc) (Xj35 : Stand p l e room_1 s m #[(.int p0), (.int p1), (.int p2), (.int p3), (.int p4), (.int p5)] below meth c Tj35 lj35 2 10) (Nj35 : Fr n0 lj35) (ej35 : Tj35.heap = hj35) (G1 : Nat → Int32) (Fj35_0 : own_AI Z hj35 b12 5 (own_vv p1 p2 p3 p4 p5)) (Fj35_1 : own_AI Z hj35 b31 N G1) (hG1 : ∀ j, j < 2 → j < N → G1 j = (own_vv p1 p2 p3 p4 p5) j), own_G p.tables e below s (own_Q0 Z p0 p1 p2 p3 p4 p5 h0 n0) room_1.cells room_1.slots (Tj35.setTop (mkF m 89 #[.val (.int p0), .val (.int p1), .val (.int p2), .val (.int p3), .val (.int p4), .val (.int p5), .val (.int nn), .val (.ref b12), .val (.ref b31), .unset, .unset] [])) := by
      intro hj35 Zj35 Tj35 lj35 Xj35 Nj35 ej35 G1 Fj35_0 Fj35_1 hG1
      have J103 : ∀ (hj36 : Heap) (Zj36 : n0 ≤ hj36.size) (Tj36 : State) (lj36 : List Loc) (Xj36 : Stand p l e room_1 s m #[(.int p0), (.int p1), (.int p2), (.int p3), (.int p4), (.int p5)] below meth c Tj36 lj36 2 10) (Nj36 : Fr n0 lj36) (ej36 : Tj36.heap = hj36) (G2 : Nat → Int32) (Fj36_0 : own_AI Z hj36 b12 5 (own_vv p1 p2 p3 p4 p5)) (Fj36_1 : own_AI Z hj36 b31 N G2) (hG2 : ∀ j, j < 3 → j < N → G2 j = (own_vv p1 p2 p3 p4 p5) j), own_G p.tables e below s (own_Q0 Z p0 p1 p2 p3 p4 p5 h0 n0) room_1.cells room_1.slots (Tj36.setTop (mkF m 103 #[.val (.int p0), .val (.int p1), .val (.int p2), .val (.int p3), .val (.int p4), .val (.int p5), .val (.int nn), .val (.ref b12), .val (.ref b31), .unset, .unset] [])) := by
        intro hj36 Zj36 Tj36 lj36 Xj36 Nj36 ej36 G2 Fj36_0 Fj36_1 hG2
        have J117 : ∀ (hj37 : Heap) (Zj37 : n0 ≤ hj37.size) (Tj37 : State) (lj37 : List Loc) (Xj37 : Stand p l e room_1 s m #[(.int p0), (.int p1), (.int p2), (.int p3), (.int p4), (.int p5)] below meth c Tj37 lj37 2 10) (Nj37 : Fr n0 lj37) (ej37 : Tj37.heap = hj37) (G3 : Nat → Int32) (Fj37_0 : own_AI Z hj37 b12 5 (own_vv p1 p2 p3 p4 p5)) (Fj37_1 : own_AI Z hj37 b31 N G3) (hG3 : ∀ j, j < 4 → j < N → G3 j = (own_vv p1 p2 p3 p4 p5) j), own_G p.tables e below s (own_Q0 Z p0 p1 p2 p3 p4 p5 h0 n0) room_1.cells room_1.slots (Tj37.setTop (mkF m 117 #[.val (.int p0), .val (.int p1), .val (.int p2), .val (.int p3), .val (.int p4), .val (.int p5), .val (.int nn), .val (.ref b12), .val (.ref b31), .unset, .unset] [])) := by
          intro hj37 Zj37 Tj37 lj37 Xj37 Nj37 ej37 G3 Fj37_0 Fj37_1 hG3
          have J131 : ∀ (hj38 : Heap) (Zj38 : n0 ≤ hj38.size) (Tj38 : State) (lj38 : List Loc) (Xj38 : Stand p l e room_1 s m #[(.int p0), (.int p1), (.int p2), (.int p3), (.int p4), (.int p5)] below meth c Tj38 lj38 2 10) (Nj38 : Fr n0 lj38) (ej38 : Tj38.heap = hj38) (G4 : Nat → Int32) (Fj38_0 : own_AI Z hj38 b12 5 (own_vv p1 p2 p3 p4 p5)) (Fj38_1 : own_AI Z hj38 b31 N G4) (hG4 : ∀ j, j < 5 → j < N → G4 j = (own_vv p1 p2 p3 p4 p5) j), own_G p.tables e below s (own_Q0 Z p0 p1 p2 p3 p4 p5 h0 n0) room_1.cells room_1.slots (Tj38.setTop (mkF m 131 #[.val (.int p0), .val (.int p1), .val (.int p2), .val (.int p3), .val (.int p4), .val (.int p5), .val (.int nn), .val (.ref b12), .val (.ref b31), .unset, .unset] [])) := by
            intro hj38 Zj38 Tj38 lj38 Xj38 Nj38 ej38 G4 Fj38_0 Fj38_1 hG4
            show own_G _ _ _ _ _ _ _ (Tj38.setTop (mkF m 131 #[.val (.int p0), .val (.int p1), .val (.int p2), .val (.int p3), .val (.int p4), .val (.int p5), .val (.int nn), .val (.ref b12), .val (.ref b31), .unset, .unset] []))
            have V39 : own_AI Z hj38 b31 N (own_vv p1 p2 p3 p4 p5) := Fj38_1.cast (fun k hk => by rw [hG4 k (by omega) hk])
            refine own_by (fun _ k => XS.aload Xj38.here hx rfl (hb hby at_131) rfl rfl k) ?_
            show own_G _ _ _ _ _ _ _ (Tj38.setTop (mkF m 133 #[.val (.int p0), .val (.int p1), .val (.int p2), .val (.int p3), .val (.int p4), .val (.int p5), .val (.int nn), .val (.ref b12), .val (.ref b31), .unset, .unset] [(.ref b31)]))
            obtain ⟨_, _, ⟨T40, L40, k40, n40⟩, -, X40, ⟨Lc40, hQ40, l40, y40, z40⟩, st40⟩ := Jvm.LawKit.callS Xj38 hx (y := (⟨"com/example/hedgerow/hedgerow/model/UtilityTable", "strides", "([I)[I"⟩ : MethodName)) hown (mvT hZ (hw _ (List.mem_of_getElem? (i := 2) rfl))) (mvT hZ (hw _ (List.mem_of_getElem? (i := 3) rfl))) (mvT hZ (hw _ (List.mem_of_getElem? (i := 4) rfl))) (mvT hZ (hw _ (List.mem_of_getElem? (i := 5) rfl))) (by decide) (backOf (W := 0) (rm3 l Z aw hw [] b31 nn N (own_vv p1 p2 p3 p4 p5) hj38 n0 Zj38 V39 hN hN5) hZ (hw _ (List.mem_of_getElem? (i := 5) rfl)) (hw _ (List.mem_of_getElem? (i := 4) rfl)) (by decide) (by decide)) (g := (mkF m 133 #[.val (.int p0), .val (.int p1), .val (.int p2), .val (.int p3), .val (.int p4), .val (.int p5), .val (.int nn), .val (.ref b12), .val (.ref b31), .unset, .unset] [(.ref b31)])) rfl (by rw [hml]; rfl) (argsL := [(.ref b31)]) (rest := []) (lenOf own_pd1 rfl) rfl (by show 2 * 0 + _ ≤ _; exact Nat.le_of_eq rfl) (hb hby at_133) (fun _ _ => ⟨rfl, ej38, (by decide : 2 + 1 ≤ _), (by decide : 10 + 5 ≤ _)⟩)
            dsimp only [Pt.U, Pt.locs, Pt.cells, Pt.slots] at X40 l40 y40 z40 st40 hQ40
            subst l40 y40 z40
            obtain ⟨h40, e40⟩ : ∃ h, T40.heap = h := ⟨_, rfl⟩
            rw [e40] at hQ40
            obtain ⟨b40, rfl, Nq40, K40, V40⟩ := hQ40
            have N40 := Fr.app Nj38 Nq40
            have F41_0 := Fj38_0.keep K40 nin0
            have F41_1 := V39.keep K40 nin0
            have Z42 : n0 ≤ h40.size := Nat.le_trans Zj38 K40.1
            refine own_by (fun _ k => st40 _ k) ?_
            show own_G _ _ _ _ _ _ _ (T40.setTop (mkF m 136 #[.val (.int p0), .val (.int p1), .val (.int p2), .val (.int p3), .val (.int p4), .val (.int p5), .val (.int nn), .val (.ref b12), .val (.ref b31), .unset, .unset] [(.ref b40)]))
            refine own_by (fun _ k => XS.astore X40.here hx rfl (hb hby at_136) rfl rfl (l' := #[.val (.int p0), .val (.int p1), .val (.int p2), .val (.int p3), .val (.int p4), .val (.int p5), .val (.int nn), .val (.ref b12), .val (.ref b31), .val (.ref b40), .unset]) rfl k) ?_
            show own_G _ _ _ _ _ _ _ (T40.setTop (mkF m 138 #[.val (.int p0), .val (.int p1), .val (.int p2), .val (.int p3), .val (.int p4), .val (.int p5), .val (.int nn), .val (.ref b12), .val (.ref b31), .val (.ref b40), .unset] []))
            refine own_by (fun _ k => XS.aload X40.here hx rfl (hb hby at_138) rfl rfl k) ?_
            show own_G _ _ _ _ _ _ _ (T40.setTop (mkF m 140 #[.val (.int p0), .val (.int p1), .val (.int p2), .val (.int p3), .val (.int p4), .val (.int p5), .val (.int nn), .val (.ref b12), .val (.ref b31), .val (.ref b40), .unset] [(.ref b40)]))
            refine own_by (fun _ k => XS.ifnullNo X40.here hx rfl (hb hby at_140) rfl k) ?_
            show own_G _ _ _ _ _ _ _ (T40.setTop (mkF m 143 #[.val (.int p0), .val (.int p1), .val (.int p2), .val (.int p3), .val (.int p4), .val (.int p5), .val (.int nn), .val (.ref b12), .val (.ref b31), .val (.ref b40), .unset] []))
            refine own_by (fun _ k => XS.aload X40.here hx rfl (hb hby at_143) rfl rfl k) ?_
            show own_G _ _ _ _ _ _ _ (T40.setTop (mkF m 145 #[.val (.int p0), .val (.int p1), .val (.int p2), .val (.int p3), .val (.int p4), .val (.int p5), .val (.int nn), .val (.ref b12), .val (.ref b31), .val (.ref b40), .unset] [(.ref b40)]))
            refine own_by (own_len X40 hx hZ e40 V40 (z := nn) hN (g := (mkF m 145 #[.val (.int p0), .val (.int p1), .val (.int p2), .val (.int p3), .val (.int p4), .val (.int p5), .val (.int nn), .val (.ref b12), .val (.ref b31), .val (.ref b40), .unset] [(.ref b40)])) rfl rfl (hb hby at_145)) ?_
            show own_G _ _ _ _ _ _ _ (T40.setTop (mkF m 146 #[.val (.int p0), .val (.int p1), .val (.int p2), .val (.int p3), .val (.int p4), .val (.int p5), .val (.int nn), .val (.ref b12), .val (.ref b31), .val (.ref b40), .unset] [(.int nn)]))
            refine own_by (fun _ k => XS.iload X40.here hx rfl (hb hby at_146) rfl  k) ?_
            show own_G _ _ _ _ _ _ _ (T40.setTop (mkF m 148 #[.val (.int p0), .val (.int p1), .val (.int p2), .val (.int p3), .val (.int p4), .val (.int p5), .val (.int nn), .val (.ref b12), .val (.ref b31), .val (.ref b40), .unset] [(.int nn), (.int nn)]))
            have hc148 : nn = nn := rfl
            refine own_by (fun _ k => XS.icmpYes X40.here hx rfl (pc0 := 148) (pc' := 153) rfl (hb hby at_148) rfl (XT.ii_eq_t hc148) (by decide) (by decide) k) ?_
            show own_G _ _ _ _ _ _ _ (T40.setTop (mkF m 153 #[.val (.int p0), .val (.int p1), .val (.int p2), .val (.int p3), .val (.int p4), .val (.int p5), .val (.int nn), .val (.ref b12), .val (.ref b31), .val (.ref b40), .unset] []))
            refine own_by (fun _ k => XS.iconst X40.here hx rfl (hb hby at_153) k) ?_
            show own_G _ _ _ _ _ _ _ (T40.setTop (mkF m 154 #[.val (.int p0), .val (.int p1), .val (.int p2), .val (.int p3), .val (.int p4), .val (.int p5), .val (.int nn), .val (.ref b12), .val (.ref b31), .val (.ref b40), .unset] [(.int (1 : Int32))]))
            refine own_by (fun _ k => XS.istore X40.here hx rfl (hb hby at_154) rfl (l' := #[.val (.int p0), .val (.int p1), .val (.int p2), .val (.int p3), .val (.int p4), .val (.int p5), .val (.int nn), .val (.ref b12), .val (.ref b31), .val (.ref b40), .val (.int (1 : Int32))]) rfl k) ?_
            have J199 : ∀ (Tj43 : State) (lj43 : List Loc) (Xj43 : Stand p l e room_1 s m #[(.int p0), (.int p1), (.int p2), (.int p3), (.int p4), (.int p5)] below meth c Tj43 lj43 3 15) (Nj43 : Fr n0 lj43) (ej43 : Tj43.heap = h40), own_G p.tables e below s (own_Q0 Z p0 p1 p2 p3 p4 p5 h0 n0) room_1.cells room_1.slots (Tj43.setTop (mkF m 199 #[.val (.int p0), .val (.int p1), .val (.int p2), .val (.int p3), .val (.int p4), .val (.int p5), .val (.int nn), .val (.ref b12), .val (.ref b31), .val (.ref b40), .val (.int (1 : Int32))] [])) := by
              intro Tj43 lj43 Xj43 Nj43 ej43
              have J243 : ∀ (Tj44 : State) (lj44 : List Loc) (Xj44 : Stand p l e room_1 s m #[(.int p0), (.int p1), (.int p2), (.int p3), (.int p4), (.int p5)] below meth c Tj44 lj44 3 15) (Nj44 : Fr n0 lj44) (ej44 : Tj44.heap = h40), own_G p.tables e below s (own_Q0 Z p0 p1 p2 p3 p4 p5 h0 n0) room_1.cells room_1.slots (Tj44.setTop (mkF m 243 #[.val (.int p0), .val (.int p1), .val (.int p2), .val (.int p3), .val (.int p4), .val (.int p5), .val (.int nn), .val (.ref b12), .val (.ref b31), .val (.ref b40), .val (.int (1 : Int32))] [])) := by
                intro Tj44 lj44 Xj44 Nj44 ej44
                have J287 : ∀ (Tj45 : State) (lj45 : List Loc) (Xj45 : Stand p l e room_1 s m #[(.int p0), (.int p1), (.int p2), (.int p3), (.int p4), (.int p5)] below meth c Tj45 lj45 3 15) (Nj45 : Fr n0 lj45) (ej45 : Tj45.heap = h40), own_G p.tables e below s (own_Q0 Z p0 p1 p2 p3 p4 p5 h0 n0) room_1.cells room_1.slots (Tj45.setTop (mkF m 287 #[.val (.int p0), .val (.int p1), .val (.int p2), .val (.int p3), .val (.int p4), .val (.int p5), .val (.int nn), .val (.ref b12), .val (.ref b31), .val (.ref b40), .val (.int (1 : Int32))] [])) := by
                  intro Tj45 lj45 Xj45 Nj45 ej45
                  have J331 : ∀ (Tj46 : State) (lj46 : List Loc) (Xj46 : Stand p l e room_1 s m #[(.int p0), (.int p1), (.int p2), (.int p3), (.int p4), (.int p5)] below meth c Tj46 lj46 3 15) (Nj46 : Fr n0 lj46) (ej46 : Tj46.heap = h40), own_G p.tables e below s (own_Q0 Z p0 p1 p2 p3 p4 p5 h0 n0) room_1.cells room_1.slots (Tj46.setTop (mkF m 331 #[.val (.int p0), .val (.int p1), .val (.int p2), .val (.int p3), .val (.int p4), .val (.int p5), .val (.int nn), .val (.ref b12), .val (.ref b31), .val (.ref b40), .val (.int (1 : Int32))] [])) := by
                    intro Tj46 lj46 Xj46 Nj46 ej46
                    have J375 : ∀ (Tj47 : State) (lj47 : List Loc) (Xj47 : Stand p l e room_1 s m #[(.int p0), (.int p1), (.int p2), (.int p3), (.int p4), (.int p5)] below meth c Tj47 lj47 3 15) (Nj47 : Fr n0 lj47) (ej47 : Tj47.heap = h40), own_G p.tables e below s (own_Q0 Z p0 p1 p2 p3 p4 p5 h0 n0) room_1.cells room_1.slots (Tj47.setTop (mkF m 375 #[.val (.int p0), .val (.int p1), .val (.int p2), .val (.int p3), .val (.int p4), .val (.int p5), .val (.int nn), .val (.ref b12), .val (.ref b31), .val (.ref b40), .val (.int (1 : Int32))] [])) := by
                      intro Tj47 lj47 Xj47 Nj47 ej47
                      show own_G _ _ _ _ _ _ _ (Tj47.setTop (mkF m 375 #[.val (.int p0), .val (.int p1), .val (.int p2), .val (.int p3), .val (.int p4), .val (.int p5), .val (.int nn), .val (.ref b12), .val (.ref b31), .val (.ref b40), .val (.int (1 : Int32))] []))
                      refine own_by (fun _ k => XS.iload Xj47.here hx rfl (hb hby at_375) rfl  k) ?_
                      show own_G _ _ _ _ _ _ _ (Tj47.setTop (mkF m 377 #[.val (.int p0), .val (.int p1), .val (.int p2), .val (.int p3), .val (.int p4), .val (.int p5), .val (.int nn), .val (.ref b12), .val (.ref b31), .val (.ref b40), .val (.int (1 : Int32))] [(.int (1 : Int32))]))
                      exact own_end Xj47 (v := some (.int (nar .boolean (1 : Int32)))) (fun h => by rw [Bd.returns] at h; cases h) (BodyLoose.notSynchronized Bd) (fun fs hr => retN Xj47 hx (t := .boolean) Bd.returns (by simp) (hb hby at_377) hr) (by rw [ej47]; exact ⟨rfl, Nj47⟩) (by decide) (by decide)
                    show own_G _ _ _ _ _ _ _ (Tj46.setTop (mkF m 331 #[.val (.int p0), .val (.int p1), .val (.int p2), .val (.int p3), .val (.int p4), .val (.int p5), .val (.int nn), .val (.ref b12), .val (.ref b31), .val (.ref b40), .val (.int (1 : Int32))] []))
                    refine own_by (fun _ k => XS.iload Xj46.here hx rfl (hb hby at_331) rfl  k) ?_
                    show own_G _ _ _ _ _ _ _ (Tj46.setTop (mkF m 333 #[.val (.int p0), .val (.int p1), .val (.int p2), .val (.int p3), .val (.int p4), .val (.int p5), .val (.int nn), .val (.ref b12), .val (.ref b31), .val (.ref b40), .val (.int (1 : Int32))] [(.int nn)]))
                    refine own_by (fun _ k => XS.iconst Xj46.here hx rfl (hb hby at_333) k) ?_
                    show own_G _ _ _ _ _ _ _ (Tj46.setTop (mkF m 334 #[.val (.int p0), .val (.int p1), .val (.int p2), .val (.int p3), .val (.int p4), .val (.int p5), .val (.int nn), .val (.ref b12), .val (.ref b31), .val (.ref b40), .val (.int (1 : Int32))] [(.int (4 : Int32)), (.int nn)]))
                    by_cases hc334 : (4 : Int32) < nn
                    · refine own_by (fun _ k => XS.icmpNo Xj46.here hx rfl (hb hby at_334) rfl (XT.ii_le_f hc334) k) ?_
                      show own_G _ _ _ _ _ _ _ (Tj46.setTop (mkF m 337 #[.val (.int p0), .val (.int p1), .val (.int p2), .val (.int p3), .val (.int p4), .val (.int p5), .val (.int nn), .val (.ref b12), .val (.ref b31), .val (.ref b40), .val (.int (1 : Int32))] []))
                      have hl4 : 4 < N := ((own_lt (show (4 : Int32).toInt = (4 : Nat) by decide) hN).mp hc334)
                      refine own_by (fun _ k => XS.iload Xj46.here hx rfl (hb hby at_337) rfl  k) ?_
                      show own_G _ _ _ _ _ _ _ (Tj46.setTop (mkF m 339 #[.val (.int p0), .val (.int p1), .val (.int p2), .val (.int p3), .val (.int p4), .val (.int p5), .val (.int nn), .val (.ref b12), .val (.ref b31), .val (.ref b40), .val (.int (1 : Int32))] [(.int (1 : Int32))]))
                      have hc339 : ¬ ((1 : Int32) = (0 : Int32)) := (by decide)
                      refine own_by (fun _ k => XS.ifNo Xj46.here hx rfl (hb hby at_339) rfl (XT.i0_eq_f hc339) k) ?_
                      show own_G _ _ _ _ _ _ _ (Tj46.setTop (mkF m 342 #[.val (.int p0), .val (.int p1), .val (.int p2), .val (.int p3), .val (.int p4), .val (.int p5), .val (.int nn), .val (.ref b12), .val (.ref b31), .val (.ref b40), .val (.int (1 : Int32))] []))
                      refine own_by (fun _ k => XS.aload Xj46.here hx rfl (hb hby at_342) rfl rfl k) ?_
                      show own_G _ _ _ _ _ _ _ (Tj46.setTop (mkF m 344 #[.val (.int p0), .val (.int p1), .val (.int p2), .val (.int p3), .val (.int p4), .val (.int p5), .val (.int nn), .val (.ref b12), .val (.ref b31), .val (.ref b40), .val (.int (1 : Int32))] [(.ref b40)]))
                      refine own_by (fun _ k => XS.iconst Xj46.here hx rfl (hb hby at_344) k) ?_
                      show own_G _ _ _ _ _ _ _ (Tj46.setTop (mkF m 345 #[.val (.int p0), .val (.int p1), .val (.int p2), .val (.int p3), .val (.int p4), .val (.int p5), .val (.int nn), .val (.ref b12), .val (.ref b31), .val (.ref b40), .val (.int (1 : Int32))] [(.int (4 : Int32)), (.ref b40)]))
                      refine own_by (own_ldI Xj46 hx hZ ej46 V40 (k := 4) (by decide) hl4 (g := (mkF m 345 #[.val (.int p0), .val (.int p1), .val (.int p2), .val (.int p3), .val (.int p4), .val (.int p5), .val (.int nn), .val (.ref b12), .val (.ref b31), .val (.ref b40), .val (.int (1 : Int32))] [(.int (4 : Int32)), (.ref b40)])) rfl rfl (hb hby at_345)) ?_
                      show own_G _ _ _ _ _ _ _ (Tj46.setTop (mkF m 346 #[.val (.int p0), .val (.int p1), .val (.int p2), .val (.int p3), .val (.int p4), .val (.int p5), .val (.int nn), .val (.ref b12), .val (.ref b31), .val (.ref b40), .val (.int (1 : Int32))] [(.int ((own_st (own_vv p1 p2 p3 p4 p5) N) 4))]))
                      refine own_by (fun _ k => XS.aload Xj46.here hx rfl (hb hby at_346) rfl rfl k) ?_
                      show own_G _ _ _ _ _ _ _ (Tj46.setTop (mkF m 348 #[.val (.int p0), .val (.int p1), .val (.int p2), .val (.int p3), .val (.int p4), .val (.int p5), .val (.int nn), .val (.ref b12), .val (.ref b31), .val (.ref b40), .val (.int (1 : Int32))] [(.ref b12), (.int ((own_st (own_vv p1 p2 p3 p4 p5) N) 4))]))
                      refine own_by (fun _ k => XS.iconst Xj46.here hx rfl (hb hby at_348) k) ?_
                      show own_G _ _ _ _ _ _ _ (Tj46.setTop (mkF m 349 #[.val (.int p0), .val (.int p1), .val (.int p2), .val (.int p3), .val (.int p4), .val (.int p5), .val (.int nn), .val (.ref b12), .val (.ref b31), .val (.ref b40), .val (.int (1 : Int32))] [(.int (4 : Int32)), (.ref b12), (.int ((own_st (own_vv p1 p2 p3 p4 p5) N) 4))]))
                      refine own_by (fun _ k => XS.iload Xj46.here hx rfl (hb hby at_349) rfl  k) ?_
                      show own_G _ _ _ _ _ _ _ (Tj46.setTop (mkF m 351 #[.val (.int p0), .val (.int p1), .val (.int p2), .val (.int p3), .val (.int p4), .val (.int p5), .val (.int nn), .val (.ref b12), .val (.ref b31), .val (.ref b40), .val (.int (1 : Int32))] [(.int nn), (.int (4 : Int32)), (.ref b12), (.int ((own_st (own_vv p1 p2 p3 p4 p5) N) 4))]))
                      obtain ⟨_, _, ⟨T48, L48, k48, n48⟩, -, X48, ⟨Lc48, hQ48, l48, y48, z48⟩, st48⟩ := Jvm.LawKit.callS Xj46 hx (y := (⟨"com/example/hedgerow/hedgerow/model/UtilityTableStridesPinLaw", "expected", "([III)I"⟩ : MethodName)) hown (mvT hZ (hw _ (List.mem_of_getElem? (i := 6) rfl))) (mvT hZ (hw _ (List.mem_of_getElem? (i := 7) rfl))) (mvT hZ (hw _ (List.mem_of_getElem? (i := 8) rfl))) (mvT hZ (hw _ (List.mem_of_getElem? (i := 9) rfl))) (by decide) (backOf (W := 1) (rm2 l Z aw hw [] b12 (4 : Int32) nn (own_vv p1 p2 p3 p4 p5) 4 N h40 n0 Z42 F41_0 (by decide) hN hN5 (by decide)) hZ (hw _ (List.mem_of_getElem? (i := 9) rfl)) (hw _ (List.mem_of_getElem? (i := 8) rfl)) (by decide) (by decide)) (g := (mkF m 351 #[.val (.int p0), .val (.int p1), .val (.int p2), .val (.int p3), .val (.int p4), .val (.int p5), .val (.int nn), .val (.ref b12), .val (.ref b31), .val (.ref b40), .val (.int (1 : Int32))] [(.int nn), (.int (4 : Int32)), (.ref b12), (.int ((own_st (own_vv p1 p2 p3 p4 p5) N) 4))])) rfl (by rw [hml]; rfl) (argsL := [(.ref b12), (.int (4 : Int32)), (.int nn)]) (rest := [(.int ((own_st (own_vv p1 p2 p3 p4 p5) N) 4))]) (lenOf own_pd0 rfl) rfl (by show 2 * 0 + _ ≤ _; exact Nat.le_of_eq rfl) (hb hby at_351) (fun _ _ => ⟨rfl, ej46, (by decide : 3 + 0 ≤ _), (by decide : 15 + 0 ≤ _)⟩)
                      dsimp only [Pt.U, Pt.locs, Pt.cells, Pt.slots] at X48 l48 y48 z48 st48 hQ48
                      subst l48 y48 z48
                      obtain ⟨rfl, Nq48, e48⟩ := hQ48
                      have N48 := Fr.app Nj46 Nq48
                      refine own_by (fun _ k => st48 _ k) ?_
                      show own_G _ _ _ _ _ _ _ (T48.setTop (mkF m 354 #[.val (.int p0), .val (.int p1), .val (.int p2), .val (.int p3), .val (.int p4), .val (.int p5), .val (.int nn), .val (.ref b12), .val (.ref b31), .val (.ref b40), .val (.int (1 : Int32))] [(.int (own_exp (own_vv p1 p2 p3 p4 p5) 4 N)), (.int ((own_st (own_vv p1 p2 p3 p4 p5) N) 4))]))
                      have hc354 : ((own_st (own_vv p1 p2 p3 p4 p5) N) 4) = (own_exp (own_vv p1 p2 p3 p4 p5) 4 N) := (own_fin _ _ _ hN5 hl4)
                      refine own_by (fun _ k => XS.icmpNo X48.here hx rfl (hb hby at_354) rfl (XT.ii_ne_f hc354) k) ?_
                      show own_G _ _ _ _ _ _ _ (T48.setTop (mkF m 357 #[.val (.int p0), .val (.int p1), .val (.int p2), .val (.int p3), .val (.int p4), .val (.int p5), .val (.int nn), .val (.ref b12), .val (.ref b31), .val (.ref b40), .val (.int (1 : Int32))] []))
                      refine own_by (fun _ k => XS.aload X48.here hx rfl (hb hby at_357) rfl rfl k) ?_
                      show own_G _ _ _ _ _ _ _ (T48.setTop (mkF m 359 #[.val (.int p0), .val (.int p1), .val (.int p2), .val (.int p3), .val (.int p4), .val (.int p5), .val (.int nn), .val (.ref b12), .val (.ref b31), .val (.ref b40), .val (.int (1 : Int32))] [(.ref b31)]))
                      refine own_by (fun _ k => XS.iconst X48.here hx rfl (hb hby at_359) k) ?_
                      show own_G _ _ _ _ _ _ _ (T48.setTop (mkF m 360 #[.val (.int p0), .val (.int p1), .val (.int p2), .val (.int p3), .val (.int p4), .val (.int p5), .val (.int nn), .val (.ref b12), .val (.ref b31), .val (.ref b40), .val (.int (1 : Int32))] [(.int (4 : Int32)), (.ref b31)]))
                      refine own_by (own_ldI X48 hx hZ e48 F41_1 (k := 4) (by decide) hl4 (g := (mkF m 360 #[.val (.int p0), .val (.int p1), .val (.int p2), .val (.int p3), .val (.int p4), .val (.int p5), .val (.int nn), .val (.ref b12), .val (.ref b31), .val (.ref b40), .val (.int (1 : Int32))] [(.int (4 : Int32)), (.ref b31)])) rfl rfl (hb hby at_360)) ?_
                      show own_G _ _ _ _ _ _ _ (T48.setTop (mkF m 361 #[.val (.int p0), .val (.int p1), .val (.int p2), .val (.int p3), .val (.int p4), .val (.int p5), .val (.int nn), .val (.ref b12), .val (.ref b31), .val (.ref b40), .val (.int (1 : Int32))] [(.int ((own_vv p1 p2 p3 p4 p5) 4))]))
                      refine own_by (fun _ k => XS.aload X48.here hx rfl (hb hby at_361) rfl rfl k) ?_
                      show own_G _ _ _ _ _ _ _ (T48.setTop (mkF m 363 #[.val (.int p0), .val (.int p1), .val (.int p2), .val (.int p3), .val (.int p4), .val (.int p5), .val (.int nn), .val (.ref b12), .val (.ref b31), .val (.ref b40), .val (.int (1 : Int32))] [(.ref b12), (.int ((own_vv p1 p2 p3 p4 p5) 4))]))
                      refine own_by (fun _ k => XS.iconst X48.here hx rfl (hb hby at_363) k) ?_
                      show own_G _ _ _ _ _ _ _ (T48.setTop (mkF m 364 #[.val (.int p0), .val (.int p1), .val (.int p2), .val (.int p3), .val (.int p4), .val (.int p5), .val (.int nn), .val (.ref b12), .val (.ref b31), .val (.ref b40), .val (.int (1 : Int32))] [(.int (4 : Int32)), (.ref b12), (.int ((own_vv p1 p2 p3 p4 p5) 4))]))
                      refine own_by (own_ldI X48 hx hZ e48 F41_0 (k := 4) (by decide) (by decide) (g := (mkF m 364 #[.val (.int p0), .val (.int p1), .val (.int p2), .val (.int p3), .val (.int p4), .val (.int p5), .val (.int nn), .val (.ref b12), .val (.ref b31), .val (.ref b40), .val (.int (1 : Int32))] [(.int (4 : Int32)), (.ref b12), (.int ((own_vv p1 p2 p3 p4 p5) 4))])) rfl rfl (hb hby at_364)) ?_
                      show own_G _ _ _ _ _ _ _ (T48.setTop (mkF m 365 #[.val (.int p0), .val (.int p1), .val (.int p2), .val (.int p3), .val (.int p4), .val (.int p5), .val (.int nn), .val (.ref b12), .val (.ref b31), .val (.ref b40), .val (.int (1 : Int32))] [(.int ((own_vv p1 p2 p3 p4 p5) 4)), (.int ((own_vv p1 p2 p3 p4 p5) 4))]))
                      have hc365 : ((own_vv p1 p2 p3 p4 p5) 4) = ((own_vv p1 p2 p3 p4 p5) 4) := rfl
                      refine own_by (fun _ k => XS.icmpNo X48.here hx rfl (hb hby at_365) rfl (XT.ii_ne_f hc365) k) ?_
                      show own_G _ _ _ _ _ _ _ (T48.setTop (mkF m 368 #[.val (.int p0), .val (.int p1), .val (.int p2), .val (.int p3), .val (.int p4), .val (.int p5), .val (.int nn), .val (.ref b12), .val (.ref b31), .val (.ref b40), .val (.int (1 : Int32))] []))
                      refine own_by (fun _ k => XS.iconst X48.here hx rfl (hb hby at_368) k) ?_
                      show own_G _ _ _ _ _ _ _ (T48.setTop (mkF m 369 #[.val (.int p0), .val (.int p1), .val (.int p2), .val (.int p3), .val (.int p4), .val (.int p5), .val (.int nn), .val (.ref b12), .val (.ref b31), .val (.ref b40), .val (.int (1 : Int32))] [(.int (1 : Int32))]))
                      refine own_by (fun _ k => XS.goto X48.here hx rfl (pc0 := 369) (pc' := 373) rfl (hb hby at_369) (by decide) (by decide) k) ?_
                      show own_G _ _ _ _ _ _ _ (T48.setTop (mkF m 373 #[.val (.int p0), .val (.int p1), .val (.int p2), .val (.int p3), .val (.int p4), .val (.int p5), .val (.int nn), .val (.ref b12), .val (.ref b31), .val (.ref b40), .val (.int (1 : Int32))] [(.int (1 : Int32))]))
                      refine own_by (fun _ k => XS.istore X48.here hx rfl (hb hby at_373) rfl (l' := #[.val (.int p0), .val (.int p1), .val (.int p2), .val (.int p3), .val (.int p4), .val (.int p5), .val (.int nn), .val (.ref b12), .val (.ref b31), .val (.ref b40), .val (.int (1 : Int32))]) rfl k) ?_
                      exact J375 T48 _ X48 N48 e48 
                    · refine own_by (fun _ k => XS.icmpYes Xj46.here hx rfl (pc0 := 334) (pc' := 375) rfl (hb hby at_334) rfl (XT.ii_le_t hc334) (by decide) (by decide) k) ?_
                      exact J375 Tj46 _ Xj46 Nj46 ej46 
                  show own_G _ _ _ _ _ _ _ (Tj45.setTop (mkF m 287 #[.val (.int p0), .val (.int p1), .val (.int p2), .val (.int p3), .val (.int p4), .val (.int p5), .val (.int nn), .val (.ref b12), .val (.ref b31), .val (.ref b40), .val (.int (1 : Int32))] []))
                  refine own_by (fun _ k => XS.iload Xj45.here hx rfl (hb hby at_287) rfl  k) ?_
                  show own_G _ _ _ _ _ _ _ (Tj45.setTop (mkF m 289 #[.val (.int p0), .val (.int p1), .val (.int p2), .val (.int p3), .val (.int p4), .val (.int p5), .val (.int nn), .val (.ref b12), .val (.ref b31), .val (.ref b40), .val (.int (1 : Int32))] [(.int nn)]))
                  refine own_by (fun _ k => XS.iconst Xj45.here hx rfl (hb hby at_289) k) ?_
                  show own_G _ _ _ _ _ _ _ (Tj45.setTop (mkF m 290 #[.val (.int p0), .val (.int p1), .val (.int p2), .val (.int p3), .val (.int p4), .val (.int p5), .val (.int nn), .val (.ref b12), .val (.ref b31), .val (.ref b40), .val (.int (1 : Int32))] [(.int (3 : Int32)), (.int nn)]))
                  by_cases hc290 : (3 : Int32) < nn
                  · refine own_by (fun _ k => XS.icmpNo Xj45.here hx rfl (hb hby at_290) rfl (XT.ii_le_f hc290) k) ?_
                    show own_G _ _ _ _ _ _ _ (Tj45.setTop (mkF m 293 #[.val (.int p0), .val (.int p1), .val (.int p2), .val (.int p3), .val (.int p4), .val (.int p5), .val (.int nn), .val (.ref b12), .val (.ref b31), .val (.ref b40), .val (.int (1 : Int32))] []))
                    have hl3 : 3 < N := ((own_lt (show (3 : Int32).toInt = (3 : Nat) by decide) hN).mp hc290)
                    refine own_by (fun _ k => XS.iload Xj45.here hx rfl (hb hby at_293) rfl  k) ?_
                    show own_G _ _ _ _ _ _ _ (Tj45.setTop (mkF m 295 #[.val (.int p0), .val (.int p1), .val (.int p2), .val (.int p3), .val (.int p4), .val (.int p5), .val (.int nn), .val (.ref b12), .val (.ref b31), .val (.ref b40), .val (.int (1 : Int32))] [(.int (1 : Int32))]))
                    have hc295 : ¬ ((1 : Int32) = (0 : Int32)) := (by decide)
                    refine own_by (fun _ k => XS.ifNo Xj45.here hx rfl (hb hby at_295) rfl (XT.i0_eq_f hc295) k) ?_
                    show own_G _ _ _ _ _ _ _ (Tj45.setTop (mkF m 298 #[.val (.int p0), .val (.int p1), .val (.int p2), .val (.int p3), .val (.int p4), .val (.int p5), .val (.int nn), .val (.ref b12), .val (.ref b31), .val (.ref b40), .val (.int (1 : Int32))] []))
                    refine own_by (fun _ k => XS.aload Xj45.here hx rfl (hb hby at_298) rfl rfl k) ?_
                    show own_G _ _ _ _ _ _ _ (Tj45.setTop (mkF m 300 #[.val (.int p0), .val (.int p1), .val (.int p2), .val (.int p3), .val (.int p4), .val (.int p5), .val (.int nn), .val (.ref b12), .val (.ref b31), .val (.ref b40), .val (.int (1 : Int32))] [(.ref b40)]))
                    refine own_by (fun _ k => XS.iconst Xj45.here hx rfl (hb hby at_300) k) ?_
                    show own_G _ _ _ _ _ _ _ (Tj45.setTop (mkF m 301 #[.val (.int p0), .val (.int p1), .val (.int p2), .val (.int p3), .val (.int p4), .val (.int p5), .val (.int nn), .val (.ref b12), .val (.ref b31), .val (.ref b40), .val (.int (1 : Int32))] [(.int (3 : Int32)), (.ref b40)]))
                    refine own_by (own_ldI Xj45 hx hZ ej45 V40 (k := 3) (by decide) hl3 (g := (mkF m 301 #[.val (.int p0), .val (.int p1), .val (.int p2), .val (.int p3), .val (.int p4), .val (.int p5), .val (.int nn), .val (.ref b12), .val (.ref b31), .val (.ref b40), .val (.int (1 : Int32))] [(.int (3 : Int32)), (.ref b40)])) rfl rfl (hb hby at_301)) ?_
                    show own_G _ _ _ _ _ _ _ (Tj45.setTop (mkF m 302 #[.val (.int p0), .val (.int p1), .val (.int p2), .val (.int p3), .val (.int p4), .val (.int p5), .val (.int nn), .val (.ref b12), .val (.ref b31), .val (.ref b40), .val (.int (1 : Int32))] [(.int ((own_st (own_vv p1 p2 p3 p4 p5) N) 3))]))
                    refine own_by (fun _ k => XS.aload Xj45.here hx rfl (hb hby at_302) rfl rfl k) ?_
                    show own_G _ _ _ _ _ _ _ (Tj45.setTop (mkF m 304 #[.val (.int p0), .val (.int p1), .val (.int p2), .val (.int p3), .val (.int p4), .val (.int p5), .val (.int nn), .val (.ref b12), .val (.ref b31), .val (.ref b40), .val (.int (1 : Int32))] [(.ref b12), (.int ((own_st (own_vv p1 p2 p3 p4 p5) N) 3))]))
                    refine own_by (fun _ k => XS.iconst Xj45.here hx rfl (hb hby at_304) k) ?_
                    show own_G _ _ _ _ _ _ _ (Tj45.setTop (mkF m 305 #[.val (.int p0), .val (.int p1), .val (.int p2), .val (.int p3), .val (.int p4), .val (.int p5), .val (.int nn), .val (.ref b12), .val (.ref b31), .val (.ref b40), .val (.int (1 : Int32))] [(.int (3 : Int32)), (.ref b12), (.int ((own_st (own_vv p1 p2 p3 p4 p5) N) 3))]))
                    refine own_by (fun _ k => XS.iload Xj45.here hx rfl (hb hby at_305) rfl  k) ?_
                    show own_G _ _ _ _ _ _ _ (Tj45.setTop (mkF m 307 #[.val (.int p0), .val (.int p1), .val (.int p2), .val (.int p3), .val (.int p4), .val (.int p5), .val (.int nn), .val (.ref b12), .val (.ref b31), .val (.ref b40), .val (.int (1 : Int32))] [(.int nn), (.int (3 : Int32)), (.ref b12), (.int ((own_st (own_vv p1 p2 p3 p4 p5) N) 3))]))
                    obtain ⟨_, _, ⟨T49, L49, k49, n49⟩, -, X49, ⟨Lc49, hQ49, l49, y49, z49⟩, st49⟩ := Jvm.LawKit.callS Xj45 hx (y := (⟨"com/example/hedgerow/hedgerow/model/UtilityTableStridesPinLaw", "expected", "([III)I"⟩ : MethodName)) hown (mvT hZ (hw _ (List.mem_of_getElem? (i := 6) rfl))) (mvT hZ (hw _ (List.mem_of_getElem? (i := 7) rfl))) (mvT hZ (hw _ (List.mem_of_getElem? (i := 8) rfl))) (mvT hZ (hw _ (List.mem_of_getElem? (i := 9) rfl))) (by decide) (backOf (W := 1) (rm2 l Z aw hw [] b12 (3 : Int32) nn (own_vv p1 p2 p3 p4 p5) 3 N h40 n0 Z42 F41_0 (by decide) hN hN5 (by decide)) hZ (hw _ (List.mem_of_getElem? (i := 9) rfl)) (hw _ (List.mem_of_getElem? (i := 8) rfl)) (by decide) (by decide)) (g := (mkF m 307 #[.val (.int p0), .val (.int p1), .val (.int p2), .val (.int p3), .val (.int p4), .val (.int p5), .val (.int nn), .val (.ref b12), .val (.ref b31), .val (.ref b40), .val (.int (1 : Int32))] [(.int nn), (.int (3 : Int32)), (.ref b12), (.int ((own_st (own_vv p1 p2 p3 p4 p5) N) 3))])) rfl (by rw [hml]; rfl) (argsL := [(.ref b12), (.int (3 : Int32)), (.int nn)]) (rest := [(.int ((own_st (own_vv p1 p2 p3 p4 p5) N) 3))]) (lenOf own_pd0 rfl) rfl (by show 2 * 0 + _ ≤ _; exact Nat.le_of_eq rfl) (hb hby at_307) (fun _ _ => ⟨rfl, ej45, (by decide : 3 + 0 ≤ _), (by decide : 15 + 0 ≤ _)⟩)
                    dsimp only [Pt.U, Pt.locs, Pt.cells, Pt.slots] at X49 l49 y49 z49 st49 hQ49
                    subst l49 y49 z49
                    obtain ⟨rfl, Nq49, e49⟩ := hQ49
                    have N49 := Fr.app Nj45 Nq49
                    refine own_by (fun _ k => st49 _ k) ?_
                    show own_G _ _ _ _ _ _ _ (T49.setTop (mkF m 310 #[.val (.int p0), .val (.int p1), .val (.int p2), .val (.int p3), .val (.int p4), .val (.int p5), .val (.int nn), .val (.ref b12), .val (.ref b31), .val (.ref b40), .val (.int (1 : Int32))] [(.int (own_exp (own_vv p1 p2 p3 p4 p5) 3 N)), (.int ((own_st (own_vv p1 p2 p3 p4 p5) N) 3))]))
                    have hc310 : ((own_st (own_vv p1 p2 p3 p4 p5) N) 3) = (own_exp (own_vv p1 p2 p3 p4 p5) 3 N) := (own_fin _ _ _ hN5 hl3)
                    refine own_by (fun _ k => XS.icmpNo X49.here hx rfl (hb hby at_310) rfl (XT.ii_ne_f hc310) k) ?_
                    show own_G _ _ _ _ _ _ _ (T49.setTop (mkF m 313 #[.val (.int p0), .val (.int p1), .val (.int p2), .val (.int p3), .val (.int p4), .val (.int p5), .val (.int nn), .val (.ref b12), .val (.ref b31), .val (.ref b40), .val (.int (1 : Int32))] []))
                    refine own_by (fun _ k => XS.aload X49.here hx rfl (hb hby at_313) rfl rfl k) ?_
                    show own_G _ _ _ _ _ _ _ (T49.setTop (mkF m 315 #[.val (.int p0), .val (.int p1), .val (.int p2), .val (.int p3), .val (.int p4), .val (.int p5), .val (.int nn), .val (.ref b12), .val (.ref b31), .val (.ref b40), .val (.int (1 : Int32))] [(.ref b31)]))
                    refine own_by (fun _ k => XS.iconst X49.here hx rfl (hb hby at_315) k) ?_
                    show own_G _ _ _ _ _ _ _ (T49.setTop (mkF m 316 #[.val (.int p0), .val (.int p1), .val (.int p2), .val (.int p3), .val (.int p4), .val (.int p5), .val (.int nn), .val (.ref b12), .val (.ref b31), .val (.ref b40), .val (.int (1 : Int32))] [(.int (3 : Int32)), (.ref b31)]))
                    refine own_by (own_ldI X49 hx hZ e49 F41_1 (k := 3) (by decide) hl3 (g := (mkF m 316 #[.val (.int p0), .val (.int p1), .val (.int p2), .val (.int p3), .val (.int p4), .val (.int p5), .val (.int nn), .val (.ref b12), .val (.ref b31), .val (.ref b40), .val (.int (1 : Int32))] [(.int (3 : Int32)), (.ref b31)])) rfl rfl (hb hby at_316)) ?_
                    show own_G _ _ _ _ _ _ _ (T49.setTop (mkF m 317 #[.val (.int p0), .val (.int p1), .val (.int p2), .val (.int p3), .val (.int p4), .val (.int p5), .val (.int nn), .val (.ref b12), .val (.ref b31), .val (.ref b40), .val (.int (1 : Int32))] [(.int ((own_vv p1 p2 p3 p4 p5) 3))]))
                    refine own_by (fun _ k => XS.aload X49.here hx rfl (hb hby at_317) rfl rfl k) ?_
                    show own_G _ _ _ _ _ _ _ (T49.setTop (mkF m 319 #[.val (.int p0), .val (.int p1), .val (.int p2), .val (.int p3), .val (.int p4), .val (.int p5), .val (.int nn), .val (.ref b12), .val (.ref b31), .val (.ref b40), .val (.int (1 : Int32))] [(.ref b12), (.int ((own_vv p1 p2 p3 p4 p5) 3))]))
                    refine own_by (fun _ k => XS.iconst X49.here hx rfl (hb hby at_319) k) ?_
                    show own_G _ _ _ _ _ _ _ (T49.setTop (mkF m 320 #[.val (.int p0), .val (.int p1), .val (.int p2), .val (.int p3), .val (.int p4), .val (.int p5), .val (.int nn), .val (.ref b12), .val (.ref b31), .val (.ref b40), .val (.int (1 : Int32))] [(.int (3 : Int32)), (.ref b12), (.int ((own_vv p1 p2 p3 p4 p5) 3))]))
                    refine own_by (own_ldI X49 hx hZ e49 F41_0 (k := 3) (by decide) (by decide) (g := (mkF m 320 #[.val (.int p0), .val (.int p1), .val (.int p2), .val (.int p3), .val (.int p4), .val (.int p5), .val (.int nn), .val (.ref b12), .val (.ref b31), .val (.ref b40), .val (.int (1 : Int32))] [(.int (3 : Int32)), (.ref b12), (.int ((own_vv p1 p2 p3 p4 p5) 3))])) rfl rfl (hb hby at_320)) ?_
                    show own_G _ _ _ _ _ _ _ (T49.setTop (mkF m 321 #[.val (.int p0), .val (.int p1), .val (.int p2), .val (.int p3), .val (.int p4), .val (.int p5), .val (.int nn), .val (.ref b12), .val (.ref b31), .val (.ref b40), .val (.int (1 : Int32))] [(.int ((own_vv p1 p2 p3 p4 p5) 3)), (.int ((own_vv p1 p2 p3 p4 p5) 3))]))
                    have hc321 : ((own_vv p1 p2 p3 p4 p5) 3) = ((own_vv p1 p2 p3 p4 p5) 3) := rfl
                    refine own_by (fun _ k => XS.icmpNo X49.here hx rfl (hb hby at_321) rfl (XT.ii_ne_f hc321) k) ?_
                    show own_G _ _ _ _ _ _ _ (T49.setTop (mkF m 324 #[.val (.int p0), .val (.int p1), .val (.int p2), .val (.int p3), .val (.int p4), .val (.int p5), .val (.int nn), .val (.ref b12), .val (.ref b31), .val (.ref b40), .val (.int (1 : Int32))] []))
                    refine own_by (fun _ k => XS.iconst X49.here hx rfl (hb hby at_324) k) ?_
                    show own_G _ _ _ _ _ _ _ (T49.setTop (mkF m 325 #[.val (.int p0), .val (.int p1), .val (.int p2), .val (.int p3), .val (.int p4), .val (.int p5), .val (.int nn), .val (.ref b12), .val (.ref b31), .val (.ref b40), .val (.int (1 : Int32))] [(.int (1 : Int32))]))
                    refine own_by (fun _ k => XS.goto X49.here hx rfl (pc0 := 325) (pc' := 329) rfl (hb hby at_325) (by decide) (by decide) k) ?_
                    show own_G _ _ _ _ _ _ _ (T49.setTop (mkF m 329 #[.val (.int p0), .val (.int p1), .val (.int p2), .val (.int p3), .val (.int p4), .val (.int p5), .val (.int nn), .val (.ref b12), .val (.ref b31), .val (.ref b40), .val (.int (1 : Int32))] [(.int (1 : Int32))]))
                    refine own_by (fun _ k => XS.istore X49.here hx rfl (hb hby at_329) rfl (l' := #[.val (.int p0), .val (.int p1), .val (.int p2), .val (.int p3), .val (.int p4), .val (.int p5), .val (.int nn), .val (.ref b12), .val (.ref b31), .val (.ref b40), .val (.int (1 : Int32))]) rfl k) ?_
                    exact J331 T49 _ X49 N49 e49 
                  · refine own_by (fun _ k => XS.icmpYes Xj45.here hx rfl (pc0 := 290) (pc' := 331) rfl (hb hby at_290) rfl (XT.ii_le_t hc290) (by decide) (by decide) k) ?_
                    exact J331 Tj45 _ Xj45 Nj45 ej45 
                show own_G _ _ _ _ _ _ _ (Tj44.setTop (mkF m 243 #[.val (.int p0), .val (.int p1), .val (.int p2), .val (.int p3), .val (.int p4), .val (.int p5), .val (.int nn), .val (.ref b12), .val (.ref b31), .val (.ref b40), .val (.int (1 : Int32))] []))
                refine own_by (fun _ k => XS.iload Xj44.here hx rfl (hb hby at_243) rfl  k) ?_
                show own_G _ _ _ _ _ _ _ (Tj44.setTop (mkF m 245 #[.val (.int p0), .val (.int p1), .val (.int p2), .val (.int p3), .val (.int p4), .val (.int p5), .val (.int nn), .val (.ref b12), .val (.ref b31), .val (.ref b40), .val (.int (1 : Int32))] [(.int nn)]))
                refine own_by (fun _ k => XS.iconst Xj44.here hx rfl (hb hby at_245) k) ?_
                show own_G _ _ _ _ _ _ _ (Tj44.setTop (mkF m 246 #[.val (.int p0), .val (.int p1), .val (.int p2), .val (.int p3), .val (.int p4), .val (.int p5), .val (.int nn), .val (.ref b12), .val (.ref b31), .val (.ref b40), .val (.int (1 : Int32))] [(.int (2 : Int32)), (.int nn)]))
                by_cases hc246 : (2 : Int32) < nn
                · refine own_by (fun _ k => XS.icmpNo Xj44.here hx rfl (hb hby at_246) rfl (XT.ii_le_f hc246) k) ?_
                  show own_G _ _ _ _ _ _ _ (Tj44.setTop (mkF m 249 #[.val (.int p0), .val (.int p1), .val (.int p2), .val (.int p3), .val (.int p4), .val (.int p5), .val (.int nn), .val (.ref b12), .val (.ref b31), .val (.ref b40), .val (.int (1 : Int32))] []))
                  have hl2 : 2 < N := ((own_lt (show (2 : Int32).toInt = (2 : Nat) by decide) hN).mp hc246)
                  refine own_by (fun _ k => XS.iload Xj44.here hx rfl (hb hby at_249) rfl  k) ?_
                  show own_G _ _ _ _ _ _ _ (Tj44.setTop (mkF m 251 #[.val (.int p0), .val (.int p1), .val (.int p2), .val (.int p3), .val (.int p4), .val (.int p5), .val (.int nn), .val (.ref b12), .val (.ref b31), .val (.ref b40), .val (.int (1 : Int32))] [(.int (1 : Int32))]))
                  have hc251 : ¬ ((1 : Int32) = (0 : Int32)) := (by decide)
                  refine own_by (fun _ k => XS.ifNo Xj44.here hx rfl (hb hby at_251) rfl (XT.i0_eq_f hc251) k) ?_
                  show own_G _ _ _ _ _ _ _ (Tj44.setTop (mkF m 254 #[.val (.int p0), .val (.int p1), .val (.int p2), .val (.int p3), .val (.int p4), .val (.int p5), .val (.int nn), .val (.ref b12), .val (.ref b31), .val (.ref b40), .val (.int (1 : Int32))] []))
                  refine own_by (fun _ k => XS.aload Xj44.here hx rfl (hb hby at_254) rfl rfl k) ?_
                  show own_G _ _ _ _ _ _ _ (Tj44.setTop (mkF m 256 #[.val (.int p0), .val (.int p1), .val (.int p2), .val (.int p3), .val (.int p4), .val (.int p5), .val (.int nn), .val (.ref b12), .val (.ref b31), .val (.ref b40), .val (.int (1 : Int32))] [(.ref b40)]))
                  refine own_by (fun _ k => XS.iconst Xj44.here hx rfl (hb hby at_256) k) ?_
                  show own_G _ _ _ _ _ _ _ (Tj44.setTop (mkF m 257 #[.val (.int p0), .val (.int p1), .val (.int p2), .val (.int p3), .val (.int p4), .val (.int p5), .val (.int nn), .val (.ref b12), .val (.ref b31), .val (.ref b40), .val (.int (1 : Int32))] [(.int (2 : Int32)), (.ref b40)]))
                  refine own_by (own_ldI Xj44 hx hZ ej44 V40 (k := 2) (by decide) hl2 (g := (mkF m 257 #[.val (.int p0), .val (.int p1), .val (.int p2), .val (.int p3), .val (.int p4), .val (.int p5), .val (.int nn), .val (.ref b12), .val (.ref b31), .val (.ref b40), .val (.int (1 : Int32))] [(.int (2 : Int32)), (.ref b40)])) rfl rfl (hb hby at_257)) ?_
                  show own_G _ _ _ _ _ _ _ (Tj44.setTop (mkF m 258 #[.val (.int p0), .val (.int p1), .val (.int p2), .val (.int p3), .val (.int p4), .val (.int p5), .val (.int nn), .val (.ref b12), .val (.ref b31), .val (.ref b40), .val (.int (1 : Int32))] [(.int ((own_st (own_vv p1 p2 p3 p4 p5) N) 2))]))
                  refine own_by (fun _ k => XS.aload Xj44.here hx rfl (hb hby at_258) rfl rfl k) ?_
                  show own_G _ _ _ _ _ _ _ (Tj44.setTop (mkF m 260 #[.val (.int p0), .val (.int p1), .val (.int p2), .val (.int p3), .val (.int p4), .val (.int p5), .val (.int nn), .val (.ref b12), .val (.ref b31), .val (.ref b40), .val (.int (1 : Int32))] [(.ref b12), (.int ((own_st (own_vv p1 p2 p3 p4 p5) N) 2))]))
                  refine own_by (fun _ k => XS.iconst Xj44.here hx rfl (hb hby at_260) k) ?_
                  show own_G _ _ _ _ _ _ _ (Tj44.setTop (mkF m 261 #[.val (.int p0), .val (.int p1), .val (.int p2), .val (.int p3), .val (.int p4), .val (.int p5), .val (.int nn), .val (.ref b12), .val (.ref b31), .val (.ref b40), .val (.int (1 : Int32))] [(.int (2 : Int32)), (.ref b12), (.int ((own_st (own_vv p1 p2 p3 p4 p5) N) 2))]))
                  refine own_by (fun _ k => XS.iload Xj44.here hx rfl (hb hby at_261) rfl  k) ?_
                  show own_G _ _ _ _ _ _ _ (Tj44.setTop (mkF m 263 #[.val (.int p0), .val (.int p1), .val (.int p2), .val (.int p3), .val (.int p4), .val (.int p5), .val (.int nn), .val (.ref b12), .val (.ref b31), .val (.ref b40), .val (.int (1 : Int32))] [(.int nn), (.int (2 : Int32)), (.ref b12), (.int ((own_st (own_vv p1 p2 p3 p4 p5) N) 2))]))
                  obtain ⟨_, _, ⟨T50, L50, k50, n50⟩, -, X50, ⟨Lc50, hQ50, l50, y50, z50⟩, st50⟩ := Jvm.LawKit.callS Xj44 hx (y := (⟨"com/example/hedgerow/hedgerow/model/UtilityTableStridesPinLaw", "expected", "([III)I"⟩ : MethodName)) hown (mvT hZ (hw _ (List.mem_of_getElem? (i := 6) rfl))) (mvT hZ (hw _ (List.mem_of_getElem? (i := 7) rfl))) (mvT hZ (hw _ (List.mem_of_getElem? (i := 8) rfl))) (mvT hZ (hw _ (List.mem_of_getElem? (i := 9) rfl))) (by decide) (backOf (W := 1) (rm2 l Z aw hw [] b12 (2 : Int32) nn (own_vv p1 p2 p3 p4 p5) 2 N h40 n0 Z42 F41_0 (by decide) hN hN5 (by decide)) hZ (hw _ (List.mem_of_getElem? (i := 9) rfl)) (hw _ (List.mem_of_getElem? (i := 8) rfl)) (by decide) (by decide)) (g := (mkF m 263 #[.val (.int p0), .val (.int p1), .val (.int p2), .val (.int p3), .val (.int p4), .val (.int p5), .val (.int nn), .val (.ref b12), .val (.ref b31), .val (.ref b40), .val (.int (1 : Int32))] [(.int nn), (.int (2 : Int32)), (.ref b12), (.int ((own_st (own_vv p1 p2 p3 p4 p5) N) 2))])) rfl (by rw [hml]; rfl) (argsL := [(.ref b12), (.int (2 : Int32)), (.int nn)]) (rest := [(.int ((own_st (own_vv p1 p2 p3 p4 p5) N) 2))]) (lenOf own_pd0 rfl) rfl (by show 2 * 0 + _ ≤ _; exact Nat.le_of_eq rfl) (hb hby at_263) (fun _ _ => ⟨rfl, ej44, (by decide : 3 + 0 ≤ _), (by decide : 15 + 0 ≤ _)⟩)
                  dsimp only [Pt.U, Pt.locs, Pt.cells, Pt.slots] at X50 l50 y50 z50 st50 hQ50
                  subst l50 y50 z50
                  obtain ⟨rfl, Nq50, e50⟩ := hQ50
                  have N50 := Fr.app Nj44 Nq50
                  refine own_by (fun _ k => st50 _ k) ?_
                  show own_G _ _ _ _ _ _ _ (T50.setTop (mkF m 266 #[.val (.int p0), .val (.int p1), .val (.int p2), .val (.int p3), .val (.int p4), .val (.int p5), .val (.int nn), .val (.ref b12), .val (.ref b31), .val (.ref b40), .val (.int (1 : Int32))] [(.int (own_exp (own_vv p1 p2 p3 p4 p5) 2 N)), (.int ((own_st (own_vv p1 p2 p3 p4 p5) N) 2))]))
                  have hc266 : ((own_st (own_vv p1 p2 p3 p4 p5) N) 2) = (own_exp (own_vv p1 p2 p3 p4 p5) 2 N) := (own_fin _ _ _ hN5 hl2)
                  refine own_by (fun _ k => XS.icmpNo X50.here hx rfl (hb hby at_266) rfl (XT.ii_ne_f hc266) k) ?_
                  show own_G _ _ _ _ _ _ _ (T50.setTop (mkF m 269 #[.val (.int p0), .val (.int p1), .val (.int p2), .val (.int p3), .val (.int p4), .val (.int p5), .val (.int nn), .val (.ref b12), .val (.ref b31), .val (.ref b40), .val (.int (1 : Int32))] []))
                  refine own_by (fun _ k => XS.aload X50.here hx rfl (hb hby at_269) rfl rfl k) ?_
                  show own_G _ _ _ _ _ _ _ (T50.setTop (mkF m 271 #[.val (.int p0), .val (.int p1), .val (.int p2), .val (.int p3), .val (.int p4), .val (.int p5), .val (.int nn), .val (.ref b12), .val (.ref b31), .val (.ref b40), .val (.int (1 : Int32))] [(.ref b31)]))
                  refine own_by (fun _ k => XS.iconst X50.here hx rfl (hb hby at_271) k) ?_
                  show own_G _ _ _ _ _ _ _ (T50.setTop (mkF m 272 #[.val (.int p0), .val (.int p1), .val (.int p2), .val (.int p3), .val (.int p4), .val (.int p5), .val (.int nn), .val (.ref b12), .val (.ref b31), .val (.ref b40), .val (.int (1 : Int32))] [(.int (2 : Int32)), (.ref b31)]))
                  refine own_by (own_ldI X50 hx hZ e50 F41_1 (k := 2) (by decide) hl2 (g := (mkF m 272 #[.val (.int p0), .val (.int p1), .val (.int p2), .val (.int p3), .val (.int p4), .val (.int p5), .val (.int nn), .val (.ref b12), .val (.ref b31), .val (.ref b40), .val (.int (1 : Int32))] [(.int (2 : Int32)), (.ref b31)])) rfl rfl (hb hby at_272)) ?_
                  show own_G _ _ _ _ _ _ _ (T50.setTop (mkF m 273 #[.val (.int p0), .val (.int p1), .val (.int p2), .val (.int p3), .val (.int p4), .val (.int p5), .val (.int nn), .val (.ref b12), .val (.ref b31), .val (.ref b40), .val (.int (1 : Int32))] [(.int ((own_vv p1 p2 p3 p4 p5) 2))]))
                  refine own_by (fun _ k => XS.aload X50.here hx rfl (hb hby at_273) rfl rfl k) ?_
                  show own_G _ _ _ _ _ _ _ (T50.setTop (mkF m 275 #[.val (.int p0), .val (.int p1), .val (.int p2), .val (.int p3), .val (.int p4), .val (.int p5), .val (.int nn), .val (.ref b12), .val (.ref b31), .val (.ref b40), .val (.int (1 : Int32))] [(.ref b12), (.int ((own_vv p1 p2 p3 p4 p5) 2))]))
                  refine own_by (fun _ k => XS.iconst X50.here hx rfl (hb hby at_275) k) ?_
                  show own_G _ _ _ _ _ _ _ (T50.setTop (mkF m 276 #[.val (.int p0), .val (.int p1), .val (.int p2), .val (.int p3), .val (.int p4), .val (.int p5), .val (.int nn), .val (.ref b12), .val (.ref b31), .val (.ref b40), .val (.int (1 : Int32))] [(.int (2 : Int32)), (.ref b12), (.int ((own_vv p1 p2 p3 p4 p5) 2))]))
                  refine own_by (own_ldI X50 hx hZ e50 F41_0 (k := 2) (by decide) (by decide) (g := (mkF m 276 #[.val (.int p0), .val (.int p1), .val (.int p2), .val (.int p3), .val (.int p4), .val (.int p5), .val (.int nn), .val (.ref b12), .val (.ref b31), .val (.ref b40), .val (.int (1 : Int32))] [(.int (2 : Int32)), (.ref b12), (.int ((own_vv p1 p2 p3 p4 p5) 2))])) rfl rfl (hb hby at_276)) ?_
                  show own_G _ _ _ _ _ _ _ (T50.setTop (mkF m 277 #[.val (.int p0), .val (.int p1), .val (.int p2), .val (.int p3), .val (.int p4), .val (.int p5), .val (.int nn), .val (.ref b12), .val (.ref b31), .val (.ref b40), .val (.int (1 : Int32))] [(.int ((own_vv p1 p2 p3 p4 p5) 2)), (.int ((own_vv p1 p2 p3 p4 p5) 2))]))
                  have hc277 : ((own_vv p1 p2 p3 p4 p5) 2) = ((own_vv p1 p2 p3 p4 p5) 2) := rfl
                  refine own_by (fun _ k => XS.icmpNo X50.here hx rfl (hb hby at_277) rfl (XT.ii_ne_f hc277) k) ?_
                  show own_G _ _ _ _ _ _ _ (T50.setTop (mkF m 280 #[.val (.int p0), .val (.int p1), .val (.int p2), .val (.int p3), .val (.int p4), .val (.int p5), .val (.int nn), .val (.ref b12), .val (.ref b31), .val (.ref b40), .val (.int (1 : Int32))] []))
                  refine own_by (fun _ k => XS.iconst X50.here hx rfl (hb hby at_280) k) ?_
                  show own_G _ _ _ _ _ _ _ (T50.setTop (mkF m 281 #[.val (.int p0), .val (.int p1), .val (.int p2), .val (.int p3), .val (.int p4), .val (.int p5), .val (.int nn), .val (.ref b12), .val (.ref b31), .val (.ref b40), .val (.int (1 : Int32))] [(.int (1 : Int32))]))
                  refine own_by (fun _ k => XS.goto X50.here hx rfl (pc0 := 281) (pc' := 285) rfl (hb hby at_281) (by decide) (by decide) k) ?_
                  show own_G _ _ _ _ _ _ _ (T50.setTop (mkF m 285 #[.val (.int p0), .val (.int p1), .val (.int p2), .val (.int p3), .val (.int p4), .val (.int p5), .val (.int nn), .val (.ref b12), .val (.ref b31), .val (.ref b40), .val (.int (1 : Int32))] [(.int (1 : Int32))]))
                  refine own_by (fun _ k => XS.istore X50.here hx rfl (hb hby at_285) rfl (l' := #[.val (.int p0), .val (.int p1), .val (.int p2), .val (.int p3), .val (.int p4), .val (.int p5), .val (.int nn), .val (.ref b12), .val (.ref b31), .val (.ref b40), .val (.int (1 : Int32))]) rfl k) ?_
                  exact J287 T50 _ X50 N50 e50 
                · refine own_by (fun _ k => XS.icmpYes Xj44.here hx rfl (pc0 := 246) (pc' := 287) rfl (hb hby at_246) rfl (XT.ii_le_t hc246) (by decide) (by decide) k) ?_
                  exact J287 Tj44 _ Xj44 Nj44 ej44 
              show own_G _ _ _ _ _ _ _ (Tj43.setTop (mkF m 199 #[.val (.int p0), .val (.int p1), .val (.int p2), .val (.int p3), .val (.int p4), .val (.int p5), .val (.int nn), .val (.ref b12), .val (.ref b31), .val (.ref b40), .val (.int (1 : Int32))] []))
              refine own_by (fun _ k => XS.iload Xj43.here hx rfl (hb hby at_199) rfl  k) ?_
              show own_G _ _ _ _ _ _ _ (Tj43.setTop (mkF m 201 #[.val (.int p0), .val (.int p1), .val (.int p2), .val (.int p3), .val (.int p4), .val (.int p5), .val (.int nn), .val (.ref b12), .val (.ref b31), .val (.ref b40), .val (.int (1 : Int32))] [(.int nn)]))
              refine own_by (fun _ k => XS.iconst Xj43.here hx rfl (hb hby at_201) k) ?_
              show own_G _ _ _ _ _ _ _ (Tj43.setTop (mkF m 202 #[.val (.int p0), .val (.int p1), .val (.int p2), .val (.int p3), .val (.int p4), .val (.int p5), .val (.int nn), .val (.ref b12), .val (.ref b31), .val (.ref b40), .val (.int (1 : Int32))] [(.int (1 : Int32)), (.int nn)]))
              by_cases hc202 : (1 : Int32) < nn
              · refine own_by (fun _ k => XS.icmpNo Xj43.here hx rfl (hb hby at_202) rfl (XT.ii_le_f hc202) k) ?_
                show own_G _ _ _ _ _ _ _ (Tj43.setTop (mkF m 205 #[.val (.int p0), .val (.int p1), .val (.int p2), .val (.int p3), .val (.int p4), .val (.int p5), .val (.int nn), .val (.ref b12), .val (.ref b31), .val (.ref b40), .val (.int (1 : Int32))] []))
                have hl1 : 1 < N := ((own_lt (show (1 : Int32).toInt = (1 : Nat) by decide) hN).mp hc202)
                refine own_by (fun _ k => XS.iload Xj43.here hx rfl (hb hby at_205) rfl  k) ?_
                show own_G _ _ _ _ _ _ _ (Tj43.setTop (mkF m 207 #[.val (.int p0), .val (.int p1), .val (.int p2), .val (.int p3), .val (.int p4), .val (.int p5), .val (.int nn), .val (.ref b12), .val (.ref b31), .val (.ref b40), .val (.int (1 : Int32))] [(.int (1 : Int32))]))
                have hc207 : ¬ ((1 : Int32) = (0 : Int32)) := (by decide)
                refine own_by (fun _ k => XS.ifNo Xj43.here hx rfl (hb hby at_207) rfl (XT.i0_eq_f hc207) k) ?_
                show own_G _ _ _ _ _ _ _ (Tj43.setTop (mkF m 210 #[.val (.int p0), .val (.int p1), .val (.int p2), .val (.int p3), .val (.int p4), .val (.int p5), .val (.int nn), .val (.ref b12), .val (.ref b31), .val (.ref b40), .val (.int (1 : Int32))] []))
                refine own_by (fun _ k => XS.aload Xj43.here hx rfl (hb hby at_210) rfl rfl k) ?_
                show own_G _ _ _ _ _ _ _ (Tj43.setTop (mkF m 212 #[.val (.int p0), .val (.int p1), .val (.int p2), .val (.int p3), .val (.int p4), .val (.int p5), .val (.int nn), .val (.ref b12), .val (.ref b31), .val (.ref b40), .val (.int (1 : Int32))] [(.ref b40)]))
                refine own_by (fun _ k => XS.iconst Xj43.here hx rfl (hb hby at_212) k) ?_
                show own_G _ _ _ _ _ _ _ (Tj43.setTop (mkF m 213 #[.val (.int p0), .val (.int p1), .val (.int p2), .val (.int p3), .val (.int p4), .val (.int p5), .val (.int nn), .val (.ref b12), .val (.ref b31), .val (.ref b40), .val (.int (1 : Int32))] [(.int (1 : Int32)), (.ref b40)]))
                refine own_by (own_ldI Xj43 hx hZ ej43 V40 (k := 1) (by decide) hl1 (g := (mkF m 213 #[.val (.int p0), .val (.int p1), .val (.int p2), .val (.int p3), .val (.int p4), .val (.int p5), .val (.int nn), .val (.ref b12), .val (.ref b31), .val (.ref b40), .val (.int (1 : Int32))] [(.int (1 : Int32)), (.ref b40)])) rfl rfl (hb hby at_213)) ?_
                show own_G _ _ _ _ _ _ _ (Tj43.setTop (mkF m 214 #[.val (.int p0), .val (.int p1), .val (.int p2), .val (.int p3), .val (.int p4), .val (.int p5), .val (.int nn), .val (.ref b12), .val (.ref b31), .val (.ref b40), .val (.int (1 : Int32))] [(.int ((own_st (own_vv p1 p2 p3 p4 p5) N) 1))]))
                refine own_by (fun _ k => XS.aload Xj43.here hx rfl (hb hby at_214) rfl rfl k) ?_
                show own_G _ _ _ _ _ _ _ (Tj43.setTop (mkF m 216 #[.val (.int p0), .val (.int p1), .val (.int p2), .val (.int p3), .val (.int p4), .val (.int p5), .val (.int nn), .val (.ref b12), .val (.ref b31), .val (.ref b40), .val (.int (1 : Int32))] [(.ref b12), (.int ((own_st (own_vv p1 p2 p3 p4 p5) N) 1))]))
                refine own_by (fun _ k => XS.iconst Xj43.here hx rfl (hb hby at_216) k) ?_
                show own_G _ _ _ _ _ _ _ (Tj43.setTop (mkF m 217 #[.val (.int p0), .val (.int p1), .val (.int p2), .val (.int p3), .val (.int p4), .val (.int p5), .val (.int nn), .val (.ref b12), .val (.ref b31), .val (.ref b40), .val (.int (1 : Int32))] [(.int (1 : Int32)), (.ref b12), (.int ((own_st (own_vv p1 p2 p3 p4 p5) N) 1))]))
                refine own_by (fun _ k => XS.iload Xj43.here hx rfl (hb hby at_217) rfl  k) ?_
                show own_G _ _ _ _ _ _ _ (Tj43.setTop (mkF m 219 #[.val (.int p0), .val (.int p1), .val (.int p2), .val (.int p3), .val (.int p4), .val (.int p5), .val (.int nn), .val (.ref b12), .val (.ref b31), .val (.ref b40), .val (.int (1 : Int32))] [(.int nn), (.int (1 : Int32)), (.ref b12), (.int ((own_st (own_vv p1 p2 p3 p4 p5) N) 1))]))
                obtain ⟨_, _, ⟨T51, L51, k51, n51⟩, -, X51, ⟨Lc51, hQ51, l51, y51, z51⟩, st51⟩ := Jvm.LawKit.callS Xj43 hx (y := (⟨"com/example/hedgerow/hedgerow/model/UtilityTableStridesPinLaw", "expected", "([III)I"⟩ : MethodName)) hown (mvT hZ (hw _ (List.mem_of_getElem? (i := 6) rfl))) (mvT hZ (hw _ (List.mem_of_getElem? (i := 7) rfl))) (mvT hZ (hw _ (List.mem_of_getElem? (i := 8) rfl))) (mvT hZ (hw _ (List.mem_of_getElem? (i := 9) rfl))) (by decide) (backOf (W := 1) (rm2 l Z aw hw [] b12 (1 : Int32) nn (own_vv p1 p2 p3 p4 p5) 1 N h40 n0 Z42 F41_0 (by decide) hN hN5 (by decide)) hZ (hw _ (List.mem_of_getElem? (i := 9) rfl)) (hw _ (List.mem_of_getElem? (i := 8) rfl)) (by decide) (by decide)) (g := (mkF m 219 #[.val (.int p0), .val (.int p1), .val (.int p2), .val (.int p3), .val (.int p4), .val (.int p5), .val (.int nn), .val (.ref b12), .val (.ref b31), .val (.ref b40), .val (.int (1 : Int32))] [(.int nn), (.int (1 : Int32)), (.ref b12), (.int ((own_st (own_vv p1 p2 p3 p4 p5) N) 1))])) rfl (by rw [hml]; rfl) (argsL := [(.ref b12), (.int (1 : Int32)), (.int nn)]) (rest := [(.int ((own_st (own_vv p1 p2 p3 p4 p5) N) 1))]) (lenOf own_pd0 rfl) rfl (by show 2 * 0 + _ ≤ _; exact Nat.le_of_eq rfl) (hb hby at_219) (fun _ _ => ⟨rfl, ej43, (by decide : 3 + 0 ≤ _), (by decide : 15 + 0 ≤ _)⟩)
                dsimp only [Pt.U, Pt.locs, Pt.cells, Pt.slots] at X51 l51 y51 z51 st51 hQ51
                subst l51 y51 z51
                obtain ⟨rfl, Nq51, e51⟩ := hQ51
                have N51 := Fr.app Nj43 Nq51
                refine own_by (fun _ k => st51 _ k) ?_
                show own_G _ _ _ _ _ _ _ (T51.setTop (mkF m 222 #[.val (.int p0), .val (.int p1), .val (.int p2), .val (.int p3), .val (.int p4), .val (.int p5), .val (.int nn), .val (.ref b12), .val (.ref b31), .val (.ref b40), .val (.int (1 : Int32))] [(.int (own_exp (own_vv p1 p2 p3 p4 p5) 1 N)), (.int ((own_st (own_vv p1 p2 p3 p4 p5) N) 1))]))
                have hc222 : ((own_st (own_vv p1 p2 p3 p4 p5) N) 1) = (own_exp (own_vv p1 p2 p3 p4 p5) 1 N) := (own_fin _ _ _ hN5 hl1)
                refine own_by (fun _ k => XS.icmpNo X51.here hx rfl (hb hby at_222) rfl (XT.ii_ne_f hc222) k) ?_
                show own_G _ _ _ _ _ _ _ (T51.setTop (mkF m 225 #[.val (.int p0), .val (.int p1), .val (.int p2), .val (.int p3), .val (.int p4), .val (.int p5), .val (.int nn), .val (.ref b12), .val (.ref b31), .val (.ref b40), .val (.int (1 : Int32))] []))
                refine own_by (fun _ k => XS.aload X51.here hx rfl (hb hby at_225) rfl rfl k) ?_
                show own_G _ _ _ _ _ _ _ (T51.setTop (mkF m 227 #[.val (.int p0), .val (.int p1), .val (.int p2), .val (.int p3), .val (.int p4), .val (.int p5), .val (.int nn), .val (.ref b12), .val (.ref b31), .val (.ref b40), .val (.int (1 : Int32))] [(.ref b31)]))
                refine own_by (fun _ k => XS.iconst X51.here hx rfl (hb hby at_227) k) ?_
                show own_G _ _ _ _ _ _ _ (T51.setTop (mkF m 228 #[.val (.int p0), .val (.int p1), .val (.int p2), .val (.int p3), .val (.int p4), .val (.int p5), .val (.int nn), .val (.ref b12), .val (.ref b31), .val (.ref b40), .val (.int (1 : Int32))] [(.int (1 : Int32)), (.ref b31)]))
                refine own_by (own_ldI X51 hx hZ e51 F41_1 (k := 1) (by decide) hl1 (g := (mkF m 228 #[.val (.int p0), .val (.int p1), .val (.int p2), .val (.int p3), .val (.int p4), .val (.int p5), .val (.int nn), .val (.ref b12), .val (.ref b31), .val (.ref b40), .val (.int (1 : Int32))] [(.int (1 : Int32)), (.ref b31)])) rfl rfl (hb hby at_228)) ?_
                show own_G _ _ _ _ _ _ _ (T51.setTop (mkF m 229 #[.val (.int p0), .val (.int p1), .val (.int p2), .val (.int p3), .val (.int p4), .val (.int p5), .val (.int nn), .val (.ref b12), .val (.ref b31), .val (.ref b40), .val (.int (1 : Int32))] [(.int ((own_vv p1 p2 p3 p4 p5) 1))]))
                refine own_by (fun _ k => XS.aload X51.here hx rfl (hb hby at_229) rfl rfl k) ?_
                show own_G _ _ _ _ _ _ _ (T51.setTop (mkF m 231 #[.val (.int p0), .val (.int p1), .val (.int p2), .val (.int p3), .val (.int p4), .val (.int p5), .val (.int nn), .val (.ref b12), .val (.ref b31), .val (.ref b40), .val (.int (1 : Int32))] [(.ref b12), (.int ((own_vv p1 p2 p3 p4 p5) 1))]))
                refine own_by (fun _ k => XS.iconst X51.here hx rfl (hb hby at_231) k) ?_
                show own_G _ _ _ _ _ _ _ (T51.setTop (mkF m 232 #[.val (.int p0), .val (.int p1), .val (.int p2), .val (.int p3), .val (.int p4), .val (.int p5), .val (.int nn), .val (.ref b12), .val (.ref b31), .val (.ref b40), .val (.int (1 : Int32))] [(.int (1 : Int32)), (.ref b12), (.int ((own_vv p1 p2 p3 p4 p5) 1))]))
                refine own_by (own_ldI X51 hx hZ e51 F41_0 (k := 1) (by decide) (by decide) (g := (mkF m 232 #[.val (.int p0), .val (.int p1), .val (.int p2), .val (.int p3), .val (.int p4), .val (.int p5), .val (.int nn), .val (.ref b12), .val (.ref b31), .val (.ref b40), .val (.int (1 : Int32))] [(.int (1 : Int32)), (.ref b12), (.int ((own_vv p1 p2 p3 p4 p5) 1))])) rfl rfl (hb hby at_232)) ?_
                show own_G _ _ _ _ _ _ _ (T51.setTop (mkF m 233 #[.val (.int p0), .val (.int p1), .val (.int p2), .val (.int p3), .val (.int p4), .val (.int p5), .val (.int nn), .val (.ref b12), .val (.ref b31), .val (.ref b40), .val (.int (1 : Int32))] [(.int ((own_vv p1 p2 p3 p4 p5) 1)), (.int ((own_vv p1 p2 p3 p4 p5) 1))]))
                have hc233 : ((own_vv p1 p2 p3 p4 p5) 1) = ((own_vv p1 p2 p3 p4 p5) 1) := rfl
                refine own_by (fun _ k => XS.icmpNo X51.here hx rfl (hb hby at_233) rfl (XT.ii_ne_f hc233) k) ?_
                show own_G _ _ _ _ _ _ _ (T51.setTop (mkF m 236 #[.val (.int p0), .val (.int p1), .val (.int p2), .val (.int p3), .val (.int p4), .val (.int p5), .val (.int nn), .val (.ref b12), .val (.ref b31), .val (.ref b40), .val (.int (1 : Int32))] []))
                refine own_by (fun _ k => XS.iconst X51.here hx rfl (hb hby at_236) k) ?_
                show own_G _ _ _ _ _ _ _ (T51.setTop (mkF m 237 #[.val (.int p0), .val (.int p1), .val (.int p2), .val (.int p3), .val (.int p4), .val (.int p5), .val (.int nn), .val (.ref b12), .val (.ref b31), .val (.ref b40), .val (.int (1 : Int32))] [(.int (1 : Int32))]))
                refine own_by (fun _ k => XS.goto X51.here hx rfl (pc0 := 237) (pc' := 241) rfl (hb hby at_237) (by decide) (by decide) k) ?_
                show own_G _ _ _ _ _ _ _ (T51.setTop (mkF m 241 #[.val (.int p0), .val (.int p1), .val (.int p2), .val (.int p3), .val (.int p4), .val (.int p5), .val (.int nn), .val (.ref b12), .val (.ref b31), .val (.ref b40), .val (.int (1 : Int32))] [(.int (1 : Int32))]))
                refine own_by (fun _ k => XS.istore X51.here hx rfl (hb hby at_241) rfl (l' := #[.val (.int p0), .val (.int p1), .val (.int p2), .val (.int p3), .val (.int p4), .val (.int p5), .val (.int nn), .val (.ref b12), .val (.ref b31), .val (.ref b40), .val (.int (1 : Int32))]) rfl k) ?_
                exact J243 T51 _ X51 N51 e51 
              · refine own_by (fun _ k => XS.icmpYes Xj43.here hx rfl (pc0 := 202) (pc' := 243) rfl (hb hby at_202) rfl (XT.ii_le_t hc202) (by decide) (by decide) k) ?_
                exact J243 Tj43 _ Xj43 Nj43 ej43 
            show own_G _ _ _ _ _ _ _ (T40.setTop (mkF m 156 #[.val (.int p0), .val (.int p1), .val (.int p2), .val (.int p3), .val (.int p4), .val (.int p5), .val (.int nn), .val (.ref b12), .val (.ref b31), .val (.ref b40), .val (.int (1 : Int32))] []))
            refine own_by (fun _ k => XS.iload X40.here hx rfl (hb hby at_156) rfl  k) ?_
            show own_G _ _ _ _ _ _ _ (T40.setTop (mkF m 158 #[.val (.int p0), .val (.int p1), .val (.int p2), .val (.int p3), .val (.int p4), .val (.int p5), .val (.int nn), .val (.ref b12), .val (.ref b31), .val (.ref b40), .val (.int (1 : Int32))] [(.int nn)]))
            by_cases hc158 : (0 : Int32) < nn
            · refine own_by (fun _ k => XS.ifNo X40.here hx rfl (hb hby at_158) rfl (XT.i0_le_f hc158) k) ?_
              show own_G _ _ _ _ _ _ _ (T40.setTop (mkF m 161 #[.val (.int p0), .val (.int p1), .val (.int p2), .val (.int p3), .val (.int p4), .val (.int p5), .val (.int nn), .val (.ref b12), .val (.ref b31), .val (.ref b40), .val (.int (1 : Int32))] []))
              have hl0 : 0 < N := ((own_lt (show (0 : Int32).toInt = (0 : Nat) by decide) hN).mp hc158)
              refine own_by (fun _ k => XS.iload X40.here hx rfl (hb hby at_161) rfl  k) ?_
              show own_G _ _ _ _ _ _ _ (T40.setTop (mkF m 163 #[.val (.int p0), .val (.int p1), .val (.int p2), .val (.int p3), .val (.int p4), .val (.int p5), .val (.int nn), .val (.ref b12), .val (.ref b31), .val (.ref b40), .val (.int (1 : Int32))] [(.int (1 : Int32))]))
              have hc163 : ¬ ((1 : Int32) = (0 : Int32)) := (by decide)
              refine own_by (fun _ k => XS.ifNo X40.here hx rfl (hb hby at_163) rfl (XT.i0_eq_f hc163) k) ?_
              show own_G _ _ _ _ _ _ _ (T40.setTop (mkF m 166 #[.val (.int p0), .val (.int p1), .val (.int p2), .val (.int p3), .val (.int p4), .val (.int p5), .val (.int nn), .val (.ref b12), .val (.ref b31), .val (.ref b40), .val (.int (1 : Int32))] []))
              refine own_by (fun _ k => XS.aload X40.here hx rfl (hb hby at_166) rfl rfl k) ?_
              show own_G _ _ _ _ _ _ _ (T40.setTop (mkF m 168 #[.val (.int p0), .val (.int p1), .val (.int p2), .val (.int p3), .val (.int p4), .val (.int p5), .val (.int nn), .val (.ref b12), .val (.ref b31), .val (.ref b40), .val (.int (1 : Int32))] [(.ref b40)]))
              refine own_by (fun _ k => XS.iconst X40.here hx rfl (hb hby at_168) k) ?_
              show own_G _ _ _ _ _ _ _ (T40.setTop (mkF m 169 #[.val (.int p0), .val (.int p1), .val (.int p2), .val (.int p3), .val (.int p4), .val (.int p5), .val (.int nn), .val (.ref b12), .val (.ref b31), .val (.ref b40), .val (.int (1 : Int32))] [(.int (0 : Int32)), (.ref b40)]))
              refine own_by (own_ldI X40 hx hZ e40 V40 (k := 0) (by decide) hl0 (g := (mkF m 169 #[.val (.int p0), .val (.int p1), .val (.int p2), .val (.int p3), .val (.int p4), .val (.int p5), .val (.int nn), .val (.ref b12), .val (.ref b31), .val (.ref b40), .val (.int (1 : Int32))] [(.int (0 : Int32)), (.ref b40)])) rfl rfl (hb hby at_169)) ?_
              show own_G _ _ _ _ _ _ _ (T40.setTop (mkF m 170 #[.val (.int p0), .val (.int p1), .val (.int p2), .val (.int p3), .val (.int p4), .val (.int p5), .val (.int nn), .val (.ref b12), .val (.ref b31), .val (.ref b40), .val (.int (1 : Int32))] [(.int ((own_st (own_vv p1 p2 p3 p4 p5) N) 0))]))
              refine own_by (fun _ k => XS.aload X40.here hx rfl (hb hby at_170) rfl rfl k) ?_
              show own_G _ _ _ _ _ _ _ (T40.setTop (mkF m 172 #[.val (.int p0), .val (.int p1), .val (.int p2), .val (.int p3), .val (.int p4), .val (.int p5), .val (.int nn), .val (.ref b12), .val (.ref b31), .val (.ref b40), .val (.int (1 : Int32))] [(.ref b12), (.int ((own_st (own_vv p1 p2 p3 p4 p5) N) 0))]))
              refine own_by (fun _ k => XS.iconst X40.here hx rfl (hb hby at_172) k) ?_
              show own_G _ _ _ _ _ _ _ (T40.setTop (mkF m 173 #[.val (.int p0), .val (.int p1), .val (.int p2), .val (.int p3), .val (.int p4), .val (.int p5), .val (.int nn), .val (.ref b12), .val (.ref b31), .val (.ref b40), .val (.int (1 : Int32))] [(.int (0 : Int32)), (.ref b12), (.int ((own_st (own_vv p1 p2 p3 p4 p5) N) 0))]))
              refine own_by (fun _ k => XS.iload X40.here hx rfl (hb hby at_173) rfl  k) ?_
              show own_G _ _ _ _ _ _ _ (T40.setTop (mkF m 175 #[.val (.int p0), .val (.int p1), .val (.int p2), .val (.int p3), .val (.int p4), .val (.int p5), .val (.int nn), .val (.ref b12), .val (.ref b31), .val (.ref b40), .val (.int (1 : Int32))] [(.int nn), (.int (0 : Int32)), (.ref b12), (.int ((own_st (own_vv p1 p2 p3 p4 p5) N) 0))]))
              obtain ⟨_, _, ⟨T52, L52, k52, n52⟩, -, X52, ⟨Lc52, hQ52, l52, y52, z52⟩, st52⟩ := Jvm.LawKit.callS X40 hx (y := (⟨"com/example/hedgerow/hedgerow/model/UtilityTableStridesPinLaw", "expected", "([III)I"⟩ : MethodName)) hown (mvT hZ (hw _ (List.mem_of_getElem? (i := 6) rfl))) (mvT hZ (hw _ (List.mem_of_getElem? (i := 7) rfl))) (mvT hZ (hw _ (List.mem_of_getElem? (i := 8) rfl))) (mvT hZ (hw _ (List.mem_of_getElem? (i := 9) rfl))) (by decide) (backOf (W := 1) (rm2 l Z aw hw [] b12 (0 : Int32) nn (own_vv p1 p2 p3 p4 p5) 0 N h40 n0 Z42 F41_0 (by decide) hN hN5 (by decide)) hZ (hw _ (List.mem_of_getElem? (i := 9) rfl)) (hw _ (List.mem_of_getElem? (i := 8) rfl)) (by decide) (by decide)) (g := (mkF m 175 #[.val (.int p0), .val (.int p1), .val (.int p2), .val (.int p3), .val (.int p4), .val (.int p5), .val (.int nn), .val (.ref b12), .val (.ref b31), .val (.ref b40), .val (.int (1 : Int32))] [(.int nn), (.int (0 : Int32)), (.ref b12), (.int ((own_st (own_vv p1 p2 p3 p4 p5) N) 0))])) rfl (by rw [hml]; rfl) (argsL := [(.ref b12), (.int (0 : Int32)), (.int nn)]) (rest := [(.int ((own_st (own_vv p1 p2 p3 p4 p5) N) 0))]) (lenOf own_pd0 rfl) rfl (by show 2 * 0 + _ ≤ _; exact Nat.le_of_eq rfl) (hb hby at_175) (fun _ _ => ⟨rfl, e40, (by decide : 3 + 0 ≤ _), (by decide : 15 + 0 ≤ _)⟩)
              dsimp only [Pt.U, Pt.locs, Pt.cells, Pt.slots] at X52 l52 y52 z52 st52 hQ52
              subst l52 y52 z52
              obtain ⟨rfl, Nq52, e52⟩ := hQ52
              have N52 := Fr.app N40 Nq52
              refine own_by (fun _ k => st52 _ k) ?_
              show own_G _ _ _ _ _ _ _ (T52.setTop (mkF m 178 #[.val (.int p0), .val (.int p1), .val (.int p2), .val (.int p3), .val (.int p4), .val (.int p5), .val (.int nn), .val (.ref b12), .val (.ref b31), .val (.ref b40), .val (.int (1 : Int32))] [(.int (own_exp (own_vv p1 p2 p3 p4 p5) 0 N)), (.int ((own_st (own_vv p1 p2 p3 p4 p5) N) 0))]))
              have hc178 : ((own_st (own_vv p1 p2 p3 p4 p5) N) 0) = (own_exp (own_vv p1 p2 p3 p4 p5) 0 N) := (own_fin _ _ _ hN5 hl0)
              refine own_by (fun _ k => XS.icmpNo X52.here hx rfl (hb hby at_178) rfl (XT.ii_ne_f hc178) k) ?_
              show own_G _ _ _ _ _ _ _ (T52.setTop (mkF m 181 #[.val (.int p0), .val (.int p1), .val (.int p2), .val (.int p3), .val (.int p4), .val (.int p5), .val (.int nn), .val (.ref b12), .val (.ref b31), .val (.ref b40), .val (.int (1 : Int32))] []))
              refine own_by (fun _ k => XS.aload X52.here hx rfl (hb hby at_181) rfl rfl k) ?_
              show own_G _ _ _ _ _ _ _ (T52.setTop (mkF m 183 #[.val (.int p0), .val (.int p1), .val (.int p2), .val (.int p3), .val (.int p4), .val (.int p5), .val (.int nn), .val (.ref b12), .val (.ref b31), .val (.ref b40), .val (.int (1 : Int32))] [(.ref b31)]))
              refine own_by (fun _ k => XS.iconst X52.here hx rfl (hb hby at_183) k) ?_
              show own_G _ _ _ _ _ _ _ (T52.setTop (mkF m 184 #[.val (.int p0), .val (.int p1), .val (.int p2), .val (.int p3), .val (.int p4), .val (.int p5), .val (.int nn), .val (.ref b12), .val (.ref b31), .val (.ref b40), .val (.int (1 : Int32))] [(.int (0 : Int32)), (.ref b31)]))
              refine own_by (own_ldI X52 hx hZ e52 F41_1 (k := 0) (by decide) hl0 (g := (mkF m 184 #[.val (.int p0), .val (.int p1), .val (.int p2), .val (.int p3), .val (.int p4), .val (.int p5), .val (.int nn), .val (.ref b12), .val (.ref b31), .val (.ref b40), .val (.int (1 : Int32))] [(.int (0 : Int32)), (.ref b31)])) rfl rfl (hb hby at_184)) ?_
              show own_G _ _ _ _ _ _ _ (T52.setTop (mkF m 185 #[.val (.int p0), .val (.int p1), .val (.int p2), .val (.int p3), .val (.int p4), .val (.int p5), .val (.int nn), .val (.ref b12), .val (.ref b31), .val (.ref b40), .val (.int (1 : Int32))] [(.int ((own_vv p1 p2 p3 p4 p5) 0))]))
              refine own_by (fun _ k => XS.aload X52.here hx rfl (hb hby at_185) rfl rfl k) ?_
              show own_G _ _ _ _ _ _ _ (T52.setTop (mkF m 187 #[.val (.int p0), .val (.int p1), .val (.int p2), .val (.int p3), .val (.int p4), .val (.int p5), .val (.int nn), .val (.ref b12), .val (.ref b31), .val (.ref b40), .val (.int (1 : Int32))] [(.ref b12), (.int ((own_vv p1 p2 p3 p4 p5) 0))]))
              refine own_by (fun _ k => XS.iconst X52.here hx rfl (hb hby at_187) k) ?_
              show own_G _ _ _ _ _ _ _ (T52.setTop (mkF m 188 #[.val (.int p0), .val (.int p1), .val (.int p2), .val (.int p3), .val (.int p4), .val (.int p5), .val (.int nn), .val (.ref b12), .val (.ref b31), .val (.ref b40), .val (.int (1 : Int32))] [(.int (0 : Int32)), (.ref b12), (.int ((own_vv p1 p2 p3 p4 p5) 0))]))
              refine own_by (own_ldI X52 hx hZ e52 F41_0 (k := 0) (by decide) (by decide) (g := (mkF m 188 #[.val (.int p0), .val (.int p1), .val (.int p2), .val (.int p3), .val (.int p4), .val (.int p5), .val (.int nn), .val (.ref b12), .val (.ref b31), .val (.ref b40), .val (.int (1 : Int32))] [(.int (0 : Int32)), (.ref b12), (.int ((own_vv p1 p2 p3 p4 p5) 0))])) rfl rfl (hb hby at_188)) ?_
              show own_G _ _ _ _ _ _ _ (T52.setTop (mkF m 189 #[.val (.int p0), .val (.int p1), .val (.int p2), .val (.int p3), .val (.int p4), .val (.int p5), .val (.int nn), .val (.ref b12), .val (.ref b31), .val (.ref b40), .val (.int (1 : Int32))] [(.int ((own_vv p1 p2 p3 p4 p5) 0)), (.int ((own_vv p1 p2 p3 p4 p5) 0))]))
              have hc189 : ((own_vv p1 p2 p3 p4 p5) 0) = ((own_vv p1 p2 p3 p4 p5) 0) := rfl
              refine own_by (fun _ k => XS.icmpNo X52.here hx rfl (hb hby at_189) rfl (XT.ii_ne_f hc189) k) ?_
              show own_G _ _ _ _ _ _ _ (T52.setTop (mkF m 192 #[.val (.int p0), .val (.int p1), .val (.int p2), .val (.int p3), .val (.int p4), .val (.int p5), .val (.int nn), .val (.ref b12), .val (.ref b31), .val (.ref b40), .val (.int (1 : Int32))] []))
              refine own_by (fun _ k => XS.iconst X52.here hx rfl (hb hby at_192) k) ?_
              show own_G _ _ _ _ _ _ _ (T52.setTop (mkF m 193 #[.val (.int p0), .val (.int p1), .val (.int p2), .val (.int p3), .val (.int p4), .val (.int p5), .val (.int nn), .val (.ref b12), .val (.ref b31), .val (.ref b40), .val (.int (1 : Int32))] [(.int (1 : Int32))]))
              refine own_by (fun _ k => XS.goto X52.here hx rfl (pc0 := 193) (pc' := 197) rfl (hb hby at_193) (by decide) (by decide) k) ?_
              show own_G _ _ _ _ _ _ _ (T52.setTop (mkF m 197 #[.val (.int p0), .val (.int p1), .val (.int p2), .val (.int p3), .val (.int p4), .val (.int p5), .val (.int nn), .val (.ref b12), .val (.ref b31), .val (.ref b40), .val (.int (1 : Int32))] [(.int (1 : Int32))]))
              refine own_by (fun _ k => XS.istore X52.here hx rfl (hb hby at_197) rfl (l' := #[.val (.int p0), .val (.int p1), .val (.int p2), .val (.int p3), .val (.int p4), .val (.int p5), .val (.int nn), .val (.ref b12), .val (.ref b31), .val (.ref b40), .val (.int (1 : Int32))]) rfl k) ?_
              exact J199 T52 _ X52 N52 e52 
            · refine own_by (fun _ k => XS.ifYes X40.here hx rfl (pc0 := 158) (pc' := 199) rfl (hb hby at_158) rfl (XT.i0_le_t hc158) (by decide) (by decide) k) ?_
              exact J199 T40 _ X40 N40 e40 
          show own_G _ _ _ _ _ _ _ (Tj37.setTop (mkF m 117 #[.val (.int p0), .val (.int p1), .val (.int p2), .val (.int p3), .val (.int p4), .val (.int p5), .val (.int nn), .val (.ref b12), .val (.ref b31), .unset, .unset] []))
          refine own_by (fun _ k => XS.iload Xj37.here hx rfl (hb hby at_117) rfl  k) ?_
          show own_G _ _ _ _ _ _ _ (Tj37.setTop (mkF m 119 #[.val (.int p0), .val (.int p1), .val (.int p2), .val (.int p3), .val (.int p4), .val (.int p5), .val (.int nn), .val (.ref b12), .val (.ref b31), .unset, .unset] [(.int nn)]))
          refine own_by (fun _ k => XS.iconst Xj37.here hx rfl (hb hby at_119) k) ?_
          show own_G _ _ _ _ _ _ _ (Tj37.setTop (mkF m 120 #[.val (.int p0), .val (.int p1), .val (.int p2), .val (.int p3), .val (.int p4), .val (.int p5), .val (.int nn), .val (.ref b12), .val (.ref b31), .unset, .unset] [(.int (4 : Int32)), (.int nn)]))
          by_cases hc120 : (4 : Int32) < nn
          · refine own_by (fun _ k => XS.icmpNo Xj37.here hx rfl (hb hby at_120) rfl (XT.ii_le_f hc120) k) ?_
            show own_G _ _ _ _ _ _ _ (Tj37.setTop (mkF m 123 #[.val (.int p0), .val (.int p1), .val (.int p2), .val (.int p3), .val (.int p4), .val (.int p5), .val (.int nn), .val (.ref b12), .val (.ref b31), .unset, .unset] []))
            refine own_by (fun _ k => XS.aload Xj37.here hx rfl (hb hby at_123) rfl rfl k) ?_
            show own_G _ _ _ _ _ _ _ (Tj37.setTop (mkF m 125 #[.val (.int p0), .val (.int p1), .val (.int p2), .val (.int p3), .val (.int p4), .val (.int p5), .val (.int nn), .val (.ref b12), .val (.ref b31), .unset, .unset] [(.ref b31)]))
            refine own_by (fun _ k => XS.iconst Xj37.here hx rfl (hb hby at_125) k) ?_
            show own_G _ _ _ _ _ _ _ (Tj37.setTop (mkF m 126 #[.val (.int p0), .val (.int p1), .val (.int p2), .val (.int p3), .val (.int p4), .val (.int p5), .val (.int nn), .val (.ref b12), .val (.ref b31), .unset, .unset] [(.int (4 : Int32)), (.ref b31)]))
            refine own_by (fun _ k => XS.aload Xj37.here hx rfl (hb hby at_126) rfl rfl k) ?_
            show own_G _ _ _ _ _ _ _ (Tj37.setTop (mkF m 128 #[.val (.int p0), .val (.int p1), .val (.int p2), .val (.int p3), .val (.int p4), .val (.int p5), .val (.int nn), .val (.ref b12), .val (.ref b31), .unset, .unset] [(.ref b12), (.int (4 : Int32)), (.ref b31)]))
            refine own_by (fun _ k => XS.iconst Xj37.here hx rfl (hb hby at_128) k) ?_
            show own_G _ _ _ _ _ _ _ (Tj37.setTop (mkF m 129 #[.val (.int p0), .val (.int p1), .val (.int p2), .val (.int p3), .val (.int p4), .val (.int p5), .val (.int nn), .val (.ref b12), .val (.ref b31), .unset, .unset] [(.int (4 : Int32)), (.ref b12), (.int (4 : Int32)), (.ref b31)]))
            refine own_by (own_ldI Xj37 hx hZ ej37 Fj37_0 (k := 4) (by decide) (by decide) (g := (mkF m 129 #[.val (.int p0), .val (.int p1), .val (.int p2), .val (.int p3), .val (.int p4), .val (.int p5), .val (.int nn), .val (.ref b12), .val (.ref b31), .unset, .unset] [(.int (4 : Int32)), (.ref b12), (.int (4 : Int32)), (.ref b31)])) rfl rfl (hb hby at_129)) ?_
            show own_G _ _ _ _ _ _ _ (Tj37.setTop (mkF m 130 #[.val (.int p0), .val (.int p1), .val (.int p2), .val (.int p3), .val (.int p4), .val (.int p5), .val (.int nn), .val (.ref b12), .val (.ref b31), .unset, .unset] [(.int ((own_vv p1 p2 p3 p4 p5) 4)), (.int (4 : Int32)), (.ref b31)]))
            obtain ⟨T53, h53, X53, e53, W53, A53, st53⟩ := own_stI Xj37 hx hZ ej37 Fj37_1 (k := 4) (by decide) ((own_lt (show (4 : Int32).toInt = (4 : Nat) by decide) hN).mp hc120) (g := (mkF m 130 #[.val (.int p0), .val (.int p1), .val (.int p2), .val (.int p3), .val (.int p4), .val (.int p5), .val (.int nn), .val (.ref b12), .val (.ref b31), .unset, .unset] [(.int ((own_vv p1 p2 p3 p4 p5) 4)), (.int (4 : Int32)), (.ref b31)])) rfl rfl (hb hby at_130)
            refine own_by st53 ?_
            have F54_0 := Fj37_0.other W53 ne_b12_b31
            have N53 := Fr.snoc X53 Nj37 g_b31
            have Z55 : n0 ≤ h53.size := Nat.le_trans Zj37 (Nat.le_of_eq W53.size.symm)
            exact J131 h53 Z55 T53 _ X53 N53 e53 (own_upd G3 4 ((own_vv p1 p2 p3 p4 p5) 4)) F54_0 A53 (fun j h1 h2 => by
        unfold own_upd
        by_cases e : j = 4
        · rw [if_pos e, e]
        · rw [if_neg e]; exact hG3 j (by omega) h2)
          · refine own_by (fun _ k => XS.icmpYes Xj37.here hx rfl (pc0 := 120) (pc' := 131) rfl (hb hby at_120) rfl (XT.ii_le_t hc120) (by decide) (by decide) k) ?_
            exact J131 hj37 Zj37 Tj37 _ Xj37 Nj37 ej37 G3 Fj37_0 Fj37_1 (fun j h1 h2 => by
        have q : ¬ 4 < N := fun z => hc120 ((own_lt (show (4 : Int32).toInt = (4 : Nat) by decide) hN).mpr z)
        exact hG3 j (by omega) h2)
        show own_G _ _ _ _ _ _ _ (Tj36.setTop (mkF m 103 #[.val (.int p0), .val (.int p1), .val (.int p2), .val (.int p3), .val (.int p4), .val (.int p5), .val (.int nn), .val (.ref b12), .val (.ref b31), .unset, .unset] []))
        refine own_by (fun _ k => XS.iload Xj36.here hx rfl (hb hby at_103) rfl  k) ?_
        show own_G _ _ _ _ _ _ _ (Tj36.setTop (mkF m 105 #[.val (.int p0), .val (.int p1), .val (.int p2), .val (.int p3), .val (.int p4), .val (.int p5), .val (.int nn), .val (.ref b12), .val (.ref b31), .unset, .unset] [(.int nn)]))
        refine own_by (fun _ k => XS.iconst Xj36.here hx rfl (hb hby at_105) k) ?_
        show own_G _ _ _ _ _ _ _ (Tj36.setTop (mkF m 106 #[.val (.int p0), .val (.int p1), .val (.int p2), .val (.int p3), .val (.int p4), .val (.int p5), .val (.int nn), .val (.ref b12), .val (.ref b31), .unset, .unset] [(.int (3 : Int32)), (.int nn)]))
        by_cases hc106 : (3 : Int32) < nn
        · refine own_by (fun _ k => XS.icmpNo Xj36.here hx rfl (hb hby at_106) rfl (XT.ii_le_f hc106) k) ?_
          show own_G _ _ _ _ _ _ _ (Tj36.setTop (mkF m 109 #[.val (.int p0), .val (.int p1), .val (.int p2), .val (.int p3), .val (.int p4), .val (.int p5), .val (.int nn), .val (.ref b12), .val (.ref b31), .unset, .unset] []))
          refine own_by (fun _ k => XS.aload Xj36.here hx rfl (hb hby at_109) rfl rfl k) ?_
          show own_G _ _ _ _ _ _ _ (Tj36.setTop (mkF m 111 #[.val (.int p0), .val (.int p1), .val (.int p2), .val (.int p3), .val (.int p4), .val (.int p5), .val (.int nn), .val (.ref b12), .val (.ref b31), .unset, .unset] [(.ref b31)]))
          refine own_by (fun _ k => XS.iconst Xj36.here hx rfl (hb hby at_111) k) ?_
          show own_G _ _ _ _ _ _ _ (Tj36.setTop (mkF m 112 #[.val (.int p0), .val (.int p1), .val (.int p2), .val (.int p3), .val (.int p4), .val (.int p5), .val (.int nn), .val (.ref b12), .val (.ref b31), .unset, .unset] [(.int (3 : Int32)), (.ref b31)]))
          refine own_by (fun _ k => XS.aload Xj36.here hx rfl (hb hby at_112) rfl rfl k) ?_
          show own_G _ _ _ _ _ _ _ (Tj36.setTop (mkF m 114 #[.val (.int p0), .val (.int p1), .val (.int p2), .val (.int p3), .val (.int p4), .val (.int p5), .val (.int nn), .val (.ref b12), .val (.ref b31), .unset, .unset] [(.ref b12), (.int (3 : Int32)), (.ref b31)]))
          refine own_by (fun _ k => XS.iconst Xj36.here hx rfl (hb hby at_114) k) ?_
          show own_G _ _ _ _ _ _ _ (Tj36.setTop (mkF m 115 #[.val (.int p0), .val (.int p1), .val (.int p2), .val (.int p3), .val (.int p4), .val (.int p5), .val (.int nn), .val (.ref b12), .val (.ref b31), .unset, .unset] [(.int (3 : Int32)), (.ref b12), (.int (3 : Int32)), (.ref b31)]))
          refine own_by (own_ldI Xj36 hx hZ ej36 Fj36_0 (k := 3) (by decide) (by decide) (g := (mkF m 115 #[.val (.int p0), .val (.int p1), .val (.int p2), .val (.int p3), .val (.int p4), .val (.int p5), .val (.int nn), .val (.ref b12), .val (.ref b31), .unset, .unset] [(.int (3 : Int32)), (.ref b12), (.int (3 : Int32)), (.ref b31)])) rfl rfl (hb hby at_115)) ?_
          show own_G _ _ _ _ _ _ _ (Tj36.setTop (mkF m 116 #[.val (.int p0), .val (.int p1), .val (.int p2), .val (.int p3), .val (.int p4), .val (.int p5), .val (.int nn), .val (.ref b12), .val (.ref b31), .unset, .unset] [(.int ((own_vv p1 p2 p3 p4 p5) 3)), (.int (3 : Int32)), (.ref b31)]))
          obtain ⟨T56, h56, X56, e56, W56, A56, st56⟩ := own_stI Xj36 hx hZ ej36 Fj36_1 (k := 3) (by decide) ((own_lt (show (3 : Int32).toInt = (3 : Nat) by decide) hN).mp hc106) (g := (mkF m 116 #[.val (.int p0), .val (.int p1), .val (.int p2), .val (.int p3), .val (.int p4), .val (.int p5), .val (.int nn), .val (.ref b12), .val (.ref b31), .unset, .unset] [(.int ((own_vv p1 p2 p3 p4 p5) 3)), (.int (3 : Int32)), (.ref b31)])) rfl rfl (hb hby at_116)
          refine own_by st56 ?_
          have F57_0 := Fj36_0.other W56 ne_b12_b31
          have N56 := Fr.snoc X56 Nj36 g_b31
          have Z58 : n0 ≤ h56.size := Nat.le_trans Zj36 (Nat.le_of_eq W56.size.symm)
          exact J117 h56 Z58 T56 _ X56 N56 e56 (own_upd G2 3 ((own_vv p1 p2 p3 p4 p5) 3)) F57_0 A56 (fun j h1 h2 => by
        unfold own_upd
        by_cases e : j = 3
        · rw [if_pos e, e]
        · rw [if_neg e]; exact hG2 j (by omega) h2)
        · refine own_by (fun _ k => XS.icmpYes Xj36.here hx rfl (pc0 := 106) (pc' := 117) rfl (hb hby at_106) rfl (XT.ii_le_t hc106) (by decide) (by decide) k) ?_
          exact J117 hj36 Zj36 Tj36 _ Xj36 Nj36 ej36 G2 Fj36_0 Fj36_1 (fun j h1 h2 => by
        have q : ¬ 3 < N := fun z => hc106 ((own_lt (show (3 : Int32).toInt = (3 : Nat) by decide) hN).mpr z)
        exact hG2 j (by omega) h2)
      show own_G _ _ _ _ _ _ _ (Tj35.setTop (mkF m 89 #[.val (.int p0), .val (.int p1), .val (.int p2), .val (.int p3), .val (.int p4), .val (.int p5), .val (.int nn), .val (.ref b12), .val (.ref b31), .unset, .unset] []))
      refine own_by (fun _ k => XS.iload Xj35.here hx rfl (hb hby at_89) rfl  k) ?_
      show own_G _ _ _ _ _ _ _ (Tj35.setTop (mkF m 91 #[.val (.int p0), .val (.int p1), .val (.int p2), .val (.int p3), .val (.int p4), .val (.int p5), .val (.int nn), .val (.ref b12), .val (.ref b31), .unset, .unset] [(.int nn)]))
      refine own_by (fun _ k => XS.iconst Xj35.here hx rfl (hb hby at_91) k) ?_
      show own_G _ _ _ _ _ _ _ (Tj35.setTop (mkF m 92 #[.val (.int p0), .val (.int p1), .val (.int p2), .val (.int p3), .val (.int p4), .val (.int p5), .val (.int nn), .val (.ref b12), .val (.ref b31), .unset, .unset] [(.int (2 : Int32)), (.int nn)]))
      by_cases hc92 : (2 : Int32) < nn
      · refine own_by (fun _ k => XS.icmpNo Xj35.here hx rfl (hb hby at_92) rfl (XT.ii_le_f hc92) k) ?_
        show own_G _ _ _ _ _ _ _ (Tj35.setTop (mkF m 95 #[.val (.int p0), .val (.int p1), .val (.int p2), .val (.int p3), .val (.int p4), .val (.int p5), .val (.int nn), .val (.ref b12), .val (.ref b31), .unset, .unset] []))
        refine own_by (fun _ k => XS.aload Xj35.here hx rfl (hb hby at_95) rfl rfl k) ?_
        show own_G _ _ _ _ _ _ _ (Tj35.setTop (mkF m 97 #[.val (.int p0), .val (.int p1), .val (.int p2), .val (.int p3), .val (.int p4), .val (.int p5), .val (.int nn), .val (.ref b12), .val (.ref b31), .unset, .unset] [(.ref b31)]))
        refine own_by (fun _ k => XS.iconst Xj35.here hx rfl (hb hby at_97) k) ?_
        show own_G _ _ _ _ _ _ _ (Tj35.setTop (mkF m 98 #[.val (.int p0), .val (.int p1), .val (.int p2), .val (.int p3), .val (.int p4), .val (.int p5), .val (.int nn), .val (.ref b12), .val (.ref b31), .unset, .unset] [(.int (2 : Int32)), (.ref b31)]))
        refine own_by (fun _ k => XS.aload Xj35.here hx rfl (hb hby at_98) rfl rfl k) ?_
        show own_G _ _ _ _ _ _ _ (Tj35.setTop (mkF m 100 #[.val (.int p0), .val (.int p1), .val (.int p2), .val (.int p3), .val (.int p4), .val (.int p5), .val (.int nn), .val (.ref b12), .val (.ref b31), .unset, .unset] [(.ref b12), (.int (2 : Int32)), (.ref b31)]))
        refine own_by (fun _ k => XS.iconst Xj35.here hx rfl (hb hby at_100) k) ?_
        show own_G _ _ _ _ _ _ _ (Tj35.setTop (mkF m 101 #[.val (.int p0), .val (.int p1), .val (.int p2), .val (.int p3), .val (.int p4), .val (.int p5), .val (.int nn), .val (.ref b12), .val (.ref b31), .unset, .unset] [(.int (2 : Int32)), (.ref b12), (.int (2 : Int32)), (.ref b31)]))
        refine own_by (own_ldI Xj35 hx hZ ej35 Fj35_0 (k := 2) (by decide) (by decide) (g := (mkF m 101 #[.val (.int p0), .val (.int p1), .val (.int p2), .val (.int p3), .val (.int p4), .val (.int p5), .val (.int nn), .val (.ref b12), .val (.ref b31), .unset, .unset] [(.int (2 : Int32)), (.ref b12), (.int (2 : Int32)), (.ref b31)])) rfl rfl (hb hby at_101)) ?_
        show own_G _ _ _ _ _ _ _ (Tj35.setTop (mkF m 102 #[.val (.int p0), .val (.int p1), .val (.int p2), .val (.int p3), .val (.int p4), .val (.int p5), .val (.int nn), .val (.ref b12), .val (.ref b31), .unset, .unset] [(.int ((own_vv p1 p2 p3 p4 p5) 2)), (.int (2 : Int32)), (.ref b31)]))
        obtain ⟨T59, h59, X59, e59, W59, A59, st59⟩ := own_stI Xj35 hx hZ ej35 Fj35_1 (k := 2) (by decide) ((own_lt (show (2 : Int32).toInt = (2 : Nat) by decide) hN).mp hc92) (g := (mkF m 102 #[.val (.int p0), .val (.int p1), .val (.int p2), .val (.int p3), .val (.int p4), .val (.int p5), .val (.int nn), .val (.ref b12), .val (.ref b31), .unset, .unset] [(.int ((own_vv p1 p2 p3 p4 p5) 2)), (.int (2 : Int32)), (.ref b31)])) rfl rfl (hb hby at_102)
        refine own_by st59 ?_
        have F60_0 := Fj35_0.other W59 ne_b12_b31
        have N59 := Fr.snoc X59 Nj35 g_b31
        have Z61 : n0 ≤ h59.size := Nat.le_trans Zj35 (Nat.le_of_eq W59.size.symm)
        exact J103 h59 Z61 T59 _ X59 N59 e59 (own_upd G1 2 ((own_vv p1 p2 p3 p4 p5) 2)) F60_0 A59 (fun j h1 h2 => by
        unfold own_upd
        by_cases e : j = 2
        · rw [if_pos e, e]
        · rw [if_neg e]; exact hG1 j (by omega) h2)
      · refine own_by (fun _ k => XS.icmpYes Xj35.here hx rfl (pc0 := 92) (pc' := 103) rfl (hb hby at_92) rfl (XT.ii_le_t hc92) (by decide) (by decide) k) ?_
        exact J103 hj35 Zj35 Tj35 _ Xj35 Nj35 ej35 G1 Fj35_0 Fj35_1 (fun j h1 h2 => by
        have q : ¬ 2 < N := fun z => hc92 ((own_lt (show (2 : Int32).toInt = (2 : Nat) by decide) hN).mpr z)
        exact hG1 j (by omega) h2)
    show own_G _ _ _ _ _ _ _ (Tj34.setTop (mkF m 75 #[.val (.int p0), .val (.int p1), .val (.int p2), .val (.int p3), .val (.int p4), .val (.int p5), .val (.int nn), .val (.ref b12), .val (.ref b31), .unset, .unset] []))
    refine own_by (fun _ k => XS.iload Xj34.here hx rfl (hb hby at_75) rfl  k) ?_
    show own_G _ _ _ _ _ _ _ (Tj34.setTop (mkF m 77 #[.val (.int p0), .val (.int p1), .val (.int p2), .val (.int p3), .val (.int p4), .val (.int p5), .val (.int nn), .val (.ref b12), .val (.ref b31), .unset, .unset] [(.int nn)]))
    refine own_by (fun _ k => XS.iconst Xj34.here hx rfl (hb hby at_77) k) ?_
    show own_G _ _ _ _ _ _ _ (Tj34.setTop (mkF m 78 #[.val (.int p0), .val (.int p1), .val (.int p2), .val (.int p3), .val (.int p4), .val (.int p5), .val (.int nn), .val (.ref b12), .val (.ref b31), .unset, .unset] [(.int (1 : Int32)), (.int nn)]))
    by_cases hc78 : (1 : Int32) < nn
    · refine own_by (fun _ k => XS.icmpNo Xj34.here hx rfl (hb hby at_78) rfl (XT.ii_le_f hc78) k) ?_
      show own_G _ _ _ _ _ _ _ (Tj34.setTop (mkF m 81 #[.val (.int p0), .val (.int p1), .val (.int p2), .val (.int p3), .val (.int p4), .val (.int p5), .val (.int nn), .val (.ref b12), .val (.ref b31), .unset, .unset] []))
      refine own_by (fun _ k => XS.aload Xj34.here hx rfl (hb hby at_81) rfl rfl k) ?_
      show own_G _ _ _ _ _ _ _ (Tj34.setTop (mkF m 83 #[.val (.int p0), .val (.int p1), .val (.int p2), .val (.int p3), .val (.int p4), .val (.int p5), .val (.int nn), .val (.ref b12), .val (.ref b31), .unset, .unset] [(.ref b31)]))
      refine own_by (fun _ k => XS.iconst Xj34.here hx rfl (hb hby at_83) k) ?_
      show own_G _ _ _ _ _ _ _ (Tj34.setTop (mkF m 84 #[.val (.int p0), .val (.int p1), .val (.int p2), .val (.int p3), .val (.int p4), .val (.int p5), .val (.int nn), .val (.ref b12), .val (.ref b31), .unset, .unset] [(.int (1 : Int32)), (.ref b31)]))
      refine own_by (fun _ k => XS.aload Xj34.here hx rfl (hb hby at_84) rfl rfl k) ?_
      show own_G _ _ _ _ _ _ _ (Tj34.setTop (mkF m 86 #[.val (.int p0), .val (.int p1), .val (.int p2), .val (.int p3), .val (.int p4), .val (.int p5), .val (.int nn), .val (.ref b12), .val (.ref b31), .unset, .unset] [(.ref b12), (.int (1 : Int32)), (.ref b31)]))
      refine own_by (fun _ k => XS.iconst Xj34.here hx rfl (hb hby at_86) k) ?_
      show own_G _ _ _ _ _ _ _ (Tj34.setTop (mkF m 87 #[.val (.int p0), .val (.int p1), .val (.int p2), .val (.int p3), .val (.int p4), .val (.int p5), .val (.int nn), .val (.ref b12), .val (.ref b31), .unset, .unset] [(.int (1 : Int32)), (.ref b12), (.int (1 : Int32)), (.ref b31)]))
      refine own_by (own_ldI Xj34 hx hZ ej34 Fj34_0 (k := 1) (by decide) (by decide) (g := (mkF m 87 #[.val (.int p0), .val (.int p1), .val (.int p2), .val (.int p3), .val (.int p4), .val (.int p5), .val (.int nn), .val (.ref b12), .val (.ref b31), .unset, .unset] [(.int (1 : Int32)), (.ref b12), (.int (1 : Int32)), (.ref b31)])) rfl rfl (hb hby at_87)) ?_
      show own_G _ _ _ _ _ _ _ (Tj34.setTop (mkF m 88 #[.val (.int p0), .val (.int p1), .val (.int p2), .val (.int p3), .val (.int p4), .val (.int p5), .val (.int nn), .val (.ref b12), .val (.ref b31), .unset, .unset] [(.int ((own_vv p1 p2 p3 p4 p5) 1)), (.int (1 : Int32)), (.ref b31)]))
      obtain ⟨T62, h62, X62, e62, W62, A62, st62⟩ := own_stI Xj34 hx hZ ej34 Fj34_1 (k := 1) (by decide) ((own_lt (show (1 : Int32).toInt = (1 : Nat) by decide) hN).mp hc78) (g := (mkF m 88 #[.val (.int p0), .val (.int p1), .val (.int p2), .val (.int p3), .val (.int p4), .val (.int p5), .val (.int nn), .val (.ref b12), .val (.ref b31), .unset, .unset] [(.int ((own_vv p1 p2 p3 p4 p5) 1)), (.int (1 : Int32)), (.ref b31)])) rfl rfl (hb hby at_88)
      refine own_by st62 ?_
      have F63_0 := Fj34_0.other W62 ne_b12_b31
      have N62 := Fr.snoc X62 Nj34 g_b31
      have Z64 : n0 ≤ h62.size := Nat.le_trans Zj34 (Nat.le_of_eq W62.size.symm)
      exact J89 h62 Z64 T62 _ X62 N62 e62 (own_upd G0 1 ((own_vv p1 p2 p3 p4 p5) 1)) F63_0 A62 (fun j h1 h2 => by
        unfold own_upd
        by_cases e : j = 1
        · rw [if_pos e, e]
        · rw [if_neg e]; exact hG0 j (by omega) h2)
    · refine own_by (fun _ k => XS.icmpYes Xj34.here hx rfl (pc0 := 78) (pc' := 89) rfl (hb hby at_78) rfl (XT.ii_le_t hc78) (by decide) (by decide) k) ?_
      exact J89 hj34 Zj34 Tj34 _ Xj34 Nj34 ej34 G0 Fj34_0 Fj34_1 (fun j h1 h2 => by
        have q : ¬ 1 < N := fun z => hc78 ((own_lt (show (1 : Int32).toInt = (1 : Nat) by decide) hN).mpr z)
        exact hG0 j (by omega) h2)
  show own_G _ _ _ _ _ _ _ (T31.setTop (mkF m 62 #[.val (.int p0), .val (.int p1), .val (.int p2), .val (.int p3), .val (.int p4), .val (.int p5), .val (.int nn), .val (.ref b12), .val (.ref b31), .unset, .unset] []))
  refine own_by (fun _ k => XS.iload X31.here hx rfl (hb hby at_62) rfl  k) ?_
  show own_G _ _ _ _ _ _ _ (T31.setTop (mkF m 64 #[.val (.int p0), .val (.int p1), .val (.int p2), .val (.int p3), .val (.int p4), .val (.int p5), .val (.int nn), .val (.ref b12), .val (.ref b31), .unset, .unset] [(.int nn)]))
  by_cases hc64 : (0 : Int32) < nn
  · refine own_by (fun _ k => XS.ifNo X31.here hx rfl (hb hby at_64) rfl (XT.i0_le_f hc64) k) ?_
    show own_G _ _ _ _ _ _ _ (T31.setTop (mkF m 67 #[.val (.int p0), .val (.int p1), .val (.int p2), .val (.int p3), .val (.int p4), .val (.int p5), .val (.int nn), .val (.ref b12), .val (.ref b31), .unset, .unset] []))
    refine own_by (fun _ k => XS.aload X31.here hx rfl (hb hby at_67) rfl rfl k) ?_
    show own_G _ _ _ _ _ _ _ (T31.setTop (mkF m 69 #[.val (.int p0), .val (.int p1), .val (.int p2), .val (.int p3), .val (.int p4), .val (.int p5), .val (.int nn), .val (.ref b12), .val (.ref b31), .unset, .unset] [(.ref b31)]))
    refine own_by (fun _ k => XS.iconst X31.here hx rfl (hb hby at_69) k) ?_
    show own_G _ _ _ _ _ _ _ (T31.setTop (mkF m 70 #[.val (.int p0), .val (.int p1), .val (.int p2), .val (.int p3), .val (.int p4), .val (.int p5), .val (.int nn), .val (.ref b12), .val (.ref b31), .unset, .unset] [(.int (0 : Int32)), (.ref b31)]))
    refine own_by (fun _ k => XS.aload X31.here hx rfl (hb hby at_70) rfl rfl k) ?_
    show own_G _ _ _ _ _ _ _ (T31.setTop (mkF m 72 #[.val (.int p0), .val (.int p1), .val (.int p2), .val (.int p3), .val (.int p4), .val (.int p5), .val (.int nn), .val (.ref b12), .val (.ref b31), .unset, .unset] [(.ref b12), (.int (0 : Int32)), (.ref b31)]))
    refine own_by (fun _ k => XS.iconst X31.here hx rfl (hb hby at_72) k) ?_
    show own_G _ _ _ _ _ _ _ (T31.setTop (mkF m 73 #[.val (.int p0), .val (.int p1), .val (.int p2), .val (.int p3), .val (.int p4), .val (.int p5), .val (.int nn), .val (.ref b12), .val (.ref b31), .unset, .unset] [(.int (0 : Int32)), (.ref b12), (.int (0 : Int32)), (.ref b31)]))
    refine own_by (own_ldI X31 hx hZ e31 F32_0 (k := 0) (by decide) (by decide) (g := (mkF m 73 #[.val (.int p0), .val (.int p1), .val (.int p2), .val (.int p3), .val (.int p4), .val (.int p5), .val (.int nn), .val (.ref b12), .val (.ref b31), .unset, .unset] [(.int (0 : Int32)), (.ref b12), (.int (0 : Int32)), (.ref b31)])) rfl rfl (hb hby at_73)) ?_
    show own_G _ _ _ _ _ _ _ (T31.setTop (mkF m 74 #[.val (.int p0), .val (.int p1), .val (.int p2), .val (.int p3), .val (.int p4), .val (.int p5), .val (.int nn), .val (.ref b12), .val (.ref b31), .unset, .unset] [(.int ((own_vv p1 p2 p3 p4 p5) 0)), (.int (0 : Int32)), (.ref b31)]))
    obtain ⟨T65, h65, X65, e65, W65, A65, st65⟩ := own_stI X31 hx hZ e31 A31 (k := 0) (by decide) ((own_lt (show (0 : Int32).toInt = (0 : Nat) by decide) hN).mp hc64) (g := (mkF m 74 #[.val (.int p0), .val (.int p1), .val (.int p2), .val (.int p3), .val (.int p4), .val (.int p5), .val (.int nn), .val (.ref b12), .val (.ref b31), .unset, .unset] [(.int ((own_vv p1 p2 p3 p4 p5) 0)), (.int (0 : Int32)), (.ref b31)])) rfl rfl (hb hby at_74)
    refine own_by st65 ?_
    have F66_0 := F32_0.other W65 ne_b12_b31
    have N65 := Fr.snoc X65 N27 g_b31
    have Z67 : n0 ≤ h65.size := Nat.le_trans Z33 (Nat.le_of_eq W65.size.symm)
    exact J75 h65 Z67 T65 _ X65 N65 e65 (own_upd (fun _ => 0) 0 ((own_vv p1 p2 p3 p4 p5) 0)) F66_0 A65 (fun j h1 h2 => by
        unfold own_upd
        by_cases e : j = 0
        · rw [if_pos e, e]
        · rw [if_neg e]; exact absurd h1 (by omega))
  · refine own_by (fun _ k => XS.ifYes X31.here hx rfl (pc0 := 64) (pc' := 75) rfl (hb hby at_64) rfl (XT.i0_le_t hc64) (by decide) (by decide) k) ?_
    exact J75 h31 Z33 T31 _ X31 N27 e31 (fun _ => 0) F32_0 A31 (fun j h1 h2 => by
        have q : ¬ 0 < N := fun z => hc64 ((own_lt (show (0 : Int32).toInt = (0 : Nat) by decide) hN).mpr z)
        exact absurd h1 (by omega))
set_option maxRecDepth 65536 in
set_option maxHeartbeats 40000000 in
theorem comes_1 {Post : Tables → Env → Array Value → State → Outcome → State → Prop} (hpost : ∀ tb e args s v u, (limb_1_1.after args s (.returned v) u = true ∧ limb_1_2.after args s (.returned v) u = true ∧ True) → FrameEnd s (.returned v) u (Jvm.fieldLocs frame_1_writes args s ++ Jvm.arrayLocs frame_1_arrays args s ++ Jvm.staticLocs frame_1_statics s) 16 128 → Post tb e args s (.returned v) u) :
    ArmFor flags0 classFile x code maxLocals ret World_1 tables_1 room_1 Calls_1 rest_1 Pre_1 Post := by
  intro l hfl _ _ p e ha hc hk s m args below hf hA hF happ hP
  obtain ⟨hcalls, hrest, hpre⟩ := hP
  obtain ⟨-, -, -, hnamed, -, -, -, hat⟩ := (Spec.applies_iff hf).mp happ
  obtain ⟨hg, hn⟩ := and_e (Cond.before_iff.mp (show (Jvm.Cond.and given_1 narrow_1).before args s = true from hpre))
  obtain ⟨gc, hg⟩ := and_e hg
  obtain ⟨g0, hg⟩ := and_e hg
  obtain ⟨g1, hg⟩ := and_e hg
  obtain ⟨g2, hg⟩ := and_e hg
  obtain ⟨g3, hg⟩ := and_e hg
  obtain ⟨g4, hg⟩ := and_e hg
  have g5 := hg
  obtain ⟨w0, w1, w2, w3, w4, w5, rfl⟩ : ∃ w0 w1 w2 w3 w4 w5 : Value, args = #[w0, w1, w2, w3, w4, w5] := by
    have hs : args.size = 6 := by simpa [Cond.value, given_1] using gc
    obtain ⟨L⟩ := args
    match L, hs with
    | [w0, w1, w2, w3, w4, w5], _ => exact ⟨w0, w1, w2, w3, w4, w5, rfl⟩
  have hw := fun d (hd : d ∈ tables_1) => atoms_spec (ws := Jvm.Cond.code x code maxLocals ret :: tables_1) hat d (List.mem_cons_of_mem _ hd)
  obtain ⟨i0, ei0⟩ := is_v g0
  obtain rfl : w0 = (.int i0) := Option.some.inj ei0
  obtain ⟨i1, ei1⟩ := is_v g1
  obtain rfl : w1 = (.int i1) := Option.some.inj ei1
  obtain ⟨i2, ei2⟩ := is_v g2
  obtain rfl : w2 = (.int i2) := Option.some.inj ei2
  obtain ⟨i3, ei3⟩ := is_v g3
  obtain rfl : w3 = (.int i3) := Option.some.inj ei3
  obtain ⟨i4, ei4⟩ := is_v g4
  obtain rfl : w4 = (.int i4) := Option.some.inj ei4
  obtain ⟨i5, ei5⟩ := is_v g5
  obtain rfl : w5 = (.int i5) := Option.some.inj ei5
  obtain ⟨n, o, h1, h2, h3, _, L, rfl, ⟨rfl, N⟩, hq⟩ := rm0 l s _ hw tables_1 i0 i1 i2 i3 i4 i5  s.heap s.heap.size (Nat.le_refl _)  p e ha hc hk s m _ below hf ((Spec.applies_iff_loose hf).mp happ).1 ⟨rfl, State.Warmed39.refl s, rfl⟩ trivial
  refine ⟨n, _, h1, h2, h3, hpost _ _ _ _ _ _ ⟨Cond.after_iff.mpr rfl, Cond.after_iff.mpr (eq_i res_at (Term.int_eval (1)) rfl), trivial⟩ ⟨hq.1, hq.2.1, (hq.2.2.sift fun y hy => Or.inr (N y hy)).mono (by decide) (by decide)⟩⟩
theorem main_1_1 : Claimed_1_1 := comes_1 fun _ _ _ _ _ _ h hF => ⟨h.1, hF⟩
theorem main_1_2 : Claimed_1_2 := comes_1 fun _ _ _ _ _ _ h hF => ⟨h.2.1, hF⟩
end Jvm.Pilot.@@N@@
namespace Jvm.Pilot.@@N@@
open Jvm Jvm.ClassFile Sem Op Lib Jvm.Free Jvm.Stand Jvm.Pilot.@@N@@.Jvm.D
/-! MADE BY PROGRAM (witnessworld.py) out of the Statement's table words and the real class files: 9 classes; the members and pool entries that the words name. The judged class is class 1, her method 1. -/
namespace start1
open Jvm.ClassFile
def u (s : String) : CpInfo := .utf8 (stringToUtf16 s)
/-- a pool by its gaps: so many unusable entries, then the entry; so many at the end -/
def gap : Nat → List CpInfo → List CpInfo
  | 0, r => r
  | n + 1, r => .unusable :: gap n r
def poolList (es : List (Nat × CpInfo)) (last : Nat) : List CpInfo := es.foldr (fun e r => gap e.1 (e.2 :: r)) (gap last [])
def pool (es : List (Nat × CpInfo)) (last : Nat) : Array CpInfo := ⟨poolList es last⟩
def fileOf (pool : Array CpInfo) (this : Nat) (attrs : Array Attribute := #[]) (ms : Array MethodInfo := #[]) (fl : Nat := 33) (sup : Nat := 0) (ifs : Array Nat := #[]) (fds : Array FieldInfo := #[]) : ClassFile where
  minorVersion := 0
  majorVersion := 65
  constantPool := pool
  accessFlags := fl
  thisClass := this
  superClass := sup
  interfaces := ifs
  fields := fds
  methods := ms
  attributes := attrs
def plain (name : String) (sup : Option ClassId) : Class where
  name := name
  kind := .ordinary
  loader := none
  accessFlags := 33
  super := sup
  interfaces := #[]
  cf := none
  fields := #[]
  methods := #[]
  instanceTypes := #[]
  staticTypes := #[]
  resolved := #[]
  callSites := []
  init := .initialized
  statics := none
  mirror := none

def pool0 : Array CpInfo := pool [(5, u "<init>"), (0, u "()V"), (1, .class_ 10), (1, u "java/lang/Object")] 113

def k0m0 : Method := { name := "<init>", desc := "()V", sig := { parameters := [], returnType := none }, accessFlags := 1, code := none }
/-- java/lang/Object -/
def k0 : Class := { plain "java/lang/Object" none with
  accessFlags := 33
  interfaces := #[]
  cf := some (fileOf pool0 8 #[] #[{ accessFlags := 1, nameIndex := 5, descriptorIndex := 6, attributes := #[] }] 33 0 #[] #[])
  fields := #[]
  methods := #[k0m0]
  instanceTypes := #[]
  staticTypes := #[]
  resolved := Array.replicate 124 none
  statics := none }

def pool1 : Array CpInfo := pool [(2, .class_ 4), (1, u "java/lang/Object"), (0, u "<init>"), (0, u "()V"), (0, .integer 2147483647), (0, .methodref 9 10), (0, .class_ 11), (0, .nameAndType 12 13), (0, u "com/example/hedgerow/hedgerow/model/UtilityTable"), (0, u "strides"), (0, u "([I)[I"), (0, .methodref 15 16), (0, .class_ 17), (0, .nameAndType 18 19), (0, u "com/example/hedgerow/hedgerow/model/UtilityTableStridesPinLaw"), (0, u "expected"), (0, u "([III)I"), (0, .methodref 15 21), (0, .nameAndType 22 19), (0, u "sizeOrOne"), (2, u "law"), (0, u "(IIIIII)Z")] 5

def k1m0 : Method := { name := "<init>", desc := "()V", sig := { parameters := [], returnType := none }, accessFlags := 1, code := none }
def k1c1 : Code := { maxStack := 4, maxLocals := 11, code := code, exceptionTable := #[], attributes := #[] }
def k1m1 : Method := { name := "law", desc := "(IIIIII)Z", sig := { parameters := [.int, .int, .int, .int, .int, .int], returnType := some .boolean }, accessFlags := 9, code := some k1c1 }
def k1c2 : Code := { maxStack := 2, maxLocals := 3, code := method_3_code, exceptionTable := #[], attributes := #[] }
def k1m2 : Method := { name := "sizeOrOne", desc := "([III)I", sig := { parameters := [(.array .int), .int, .int], returnType := some .int }, accessFlags := 10, code := some k1c2 }
def k1c3 : Code := { maxStack := 4, maxLocals := 3, code := method_4_code, exceptionTable := #[], attributes := #[] }
def k1m3 : Method := { name := "expected", desc := "([III)I", sig := { parameters := [(.array .int), .int, .int], returnType := some .int }, accessFlags := 10, code := some k1c3 }
/-- com/example/hedgerow/hedgerow/model/UtilityTableStridesPinLaw -/
def k1 : Class := { plain "com/example/hedgerow/hedgerow/model/UtilityTableStridesPinLaw" (some 0) with
  accessFlags := 49
  interfaces := #[]
  cf := some (fileOf pool1 15 #[] #[{ accessFlags := 1, nameIndex := 5, descriptorIndex := 6, attributes := #[] }, { accessFlags := 9, nameIndex := 25, descriptorIndex := 26, attributes := #[] }, { accessFlags := 10, nameIndex := 22, descriptorIndex := 19, attributes := #[] }, { accessFlags := 10, nameIndex := 18, descriptorIndex := 19, attributes := #[] }] 49 2 #[] #[])
  fields := #[]
  methods := #[k1m0, k1m1, k1m2, k1m3]
  instanceTypes := #[]
  staticTypes := #[]
  resolved := Array.replicate 32 none
  statics := none }

def pool2 : Array CpInfo := pool [(6, .class_ 8), (1, u "java/lang/Object"), (9, .class_ 20), (1, u "com/example/hedgerow/hedgerow/model/UtilityTable"), (0, u "dimensions"), (0, u "Ljava/util/List;"), (2, u "held"), (0, u "[[I"), (6, u "sizes"), (0, u "[I"), (2, u "strides"), (0, u "([I)[I"), (4, u "scale"), (0, u "I"), (2, u "cells"), (0, u "Lcom/example/hedgerow/hedgerow/model/Cells;"), (89, u "NONE"), (27, .class_ 167), (0, u "com/example/hedgerow/hedgerow/model/UtilityTable$Projection"), (100, u "FORBIDDEN"), (72, u "POWERS_OF_TEN"), (0, u "[J"), (112, u "MAX_CELLS"), (2, u "J"), (51, .class_ 511), (0, u "com/example/hedgerow/hedgerow/model/UtilityTable$BestSoFar"), (0, .class_ 513), (0, u "com/example/hedgerow/hedgerow/model/UtilityTable$Projection$Walk"), (0, .class_ 515), (0, u "com/example/hedgerow/hedgerow/model/UtilityTable$Projection$Completions"), (0, .class_ 517), (0, u "com/example/hedgerow/hedgerow/model/UtilityTable$Projection$Moves"), (0, .class_ 519), (0, u "com/example/hedgerow/hedgerow/model/UtilityTable$Projection$LastRun"), (0, .class_ 521), (0, u "com/example/hedgerow/hedgerow/model/UtilityTable$Projection$Plan"), (0, .class_ 523), (0, u "com/example/hedgerow/hedgerow/model/UtilityTable$Projection$Shared")] 63

def k2c0 : Code := { maxStack := 3, maxLocals := 4, code := prog_130_method_42_code, exceptionTable := #[], attributes := #[] }
def k2m0 : Method := { name := "strides", desc := "([I)[I", sig := { parameters := [(.array .int)], returnType := some (.array .int) }, accessFlags := 8, code := some k2c0 }
/-- com/example/hedgerow/hedgerow/model/UtilityTable -/
def k2 : Class := { plain "com/example/hedgerow/hedgerow/model/UtilityTable" (some 0) with
  accessFlags := 49
  interfaces := #[]
  cf := some (fileOf pool2 18 #[.nestMembers #[510, 166, 512, 514, 516, 518, 520, 522]] #[{ accessFlags := 8, nameIndex := 37, descriptorIndex := 38, attributes := #[] }] 49 6 #[] #[{ accessFlags := 26, nameIndex := 455, descriptorIndex := 44, attributes := #[] }, { accessFlags := 26, nameIndex := 268, descriptorIndex := 458, attributes := #[] }, { accessFlags := 26, nameIndex := 341, descriptorIndex := 342, attributes := #[] }, { accessFlags := 26, nameIndex := 138, descriptorIndex := 34, attributes := #[] }, { accessFlags := 18, nameIndex := 21, descriptorIndex := 22, attributes := #[] }, { accessFlags := 18, nameIndex := 25, descriptorIndex := 26, attributes := #[] }, { accessFlags := 18, nameIndex := 33, descriptorIndex := 34, attributes := #[] }, { accessFlags := 18, nameIndex := 37, descriptorIndex := 34, attributes := #[] }, { accessFlags := 18, nameIndex := 43, descriptorIndex := 44, attributes := #[] }, { accessFlags := 18, nameIndex := 47, descriptorIndex := 48, attributes := #[] }])
  fields := #[{ name := "MAX_CELLS", type := .int, accessFlags := 26, slot := 0, constantValue := 0 }, { name := "FORBIDDEN", type := .long, accessFlags := 26, slot := 1, constantValue := 0 }, { name := "POWERS_OF_TEN", type := (.array .long), accessFlags := 26, slot := 2, constantValue := 0 }, { name := "NONE", type := (.array .int), accessFlags := 26, slot := 3, constantValue := 0 }, { name := "dimensions", type := (.object "java/util/List"), accessFlags := 18, slot := 0, constantValue := 0 }, { name := "held", type := (.array (.array .int)), accessFlags := 18, slot := 1, constantValue := 0 }, { name := "sizes", type := (.array .int), accessFlags := 18, slot := 2, constantValue := 0 }, { name := "strides", type := (.array .int), accessFlags := 18, slot := 3, constantValue := 0 }, { name := "scale", type := .int, accessFlags := 18, slot := 4, constantValue := 0 }, { name := "cells", type := (.object "com/example/hedgerow/hedgerow/model/Cells"), accessFlags := 18, slot := 5, constantValue := 0 }]
  methods := #[k2m0]
  instanceTypes := #[(.object "java/util/List"), (.array (.array .int)), (.array .int), (.array .int), .int, (.object "com/example/hedgerow/hedgerow/model/Cells")]
  staticTypes := #[.int, .long, (.array .long), (.array .int)]
  resolved := Array.replicate 587 none
  statics := none }

def pool3 : Array CpInfo := pool [(1, u "java/lang/Cloneable"), (0, .class_ 1), (0, u "java/lang/Object"), (0, .class_ 3)] 3

/-- java/lang/Cloneable -/
def k3 : Class := { plain "java/lang/Cloneable" (some 0) with
  accessFlags := 1537
  interfaces := #[]
  cf := some (fileOf pool3 2 #[] #[] 1537 4 #[] #[])
  fields := #[]
  methods := #[]
  instanceTypes := #[]
  staticTypes := #[]
  resolved := Array.replicate 8 none
  statics := none }

def pool4 : Array CpInfo := pool [(1, u "java/io/Serializable"), (0, .class_ 1), (0, u "java/lang/Object"), (0, .class_ 3)] 3

/-- java/io/Serializable -/
def k4 : Class := { plain "java/io/Serializable" (some 0) with
  accessFlags := 1537
  interfaces := #[]
  cf := some (fileOf pool4 2 #[] #[] 1537 4 #[] #[])
  fields := #[]
  methods := #[]
  instanceTypes := #[]
  staticTypes := #[]
  resolved := Array.replicate 8 none
  statics := none }

/-- the primitive byte -/
def k5 : Class := { plain "byte" none with kind := .primitive 'B', accessFlags := 0x411 }
/-- [B -/
def k6 : Class := { plain "[B" (some 0) with kind := .array 5 .byte, interfaces := #[3, 4], accessFlags := 1041 }

/-- the primitive int -/
def k7 : Class := { plain "int" none with kind := .primitive 'I', accessFlags := 0x411 }
/-- [I -/
def k8 : Class := { plain "[I" (some 0) with kind := .array 7 .int, interfaces := #[3, 4], accessFlags := 1041 }

def heap : Heap := #[]
def classes : Array Class := #[k0, k1, k2, k3, k4, k5, k6, k7, k8]
def interned : List (Array UInt16 × Addr) := []
def slotsUsed : Nat := 0
def theMethod : MethodId := ⟨1, 1⟩
def args0 : Array Value := #[.int 5, .int 5, .int 5, .int 5, .int 5, .int 5]
def aboutOver (below : List Frame) : State where
  vm := { classes := classes, interned := interned.toArray }
  heap := heap
  slotsUsed := slotsUsed
  threads := #[{ frames := .invoking theMethod args0 :: below }]
def below0 : List Frame := [.native { method := ⟨0, 0⟩, args := #[] }]
def about1 : State := aboutOver below0
def p0 : Program := .bare "" "" ""
def e0 : Env := launch0.env 0 0 0
theorem w_frames : about1.frames = Frame.invoking theMethod args0 :: below0 := rfl
set_option maxRecDepth 65536 in
theorem w_args : argsFit about1.vm theMethod args0 = true := by decide +kernel
set_option maxRecDepth 65536 in
theorem w_heap : heapFits about1 = true := by decide +kernel
set_option maxRecDepth 65536 in
theorem w_runnable : about1.curStatus? = some .runnable := by decide +kernel
set_option maxRecDepth 65536 in
theorem w_alone : about1.alone = true := by decide +kernel
set_option maxRecDepth 65536 in
theorem w_named : about1.methodNamed? x = some theMethod := by decide +kernel
set_option maxRecDepth 65536 in
theorem w_hears : about1.hears theMethod below0 = true := by decide +kernel
set_option maxRecDepth 65536 in
theorem w_ripe : about1.ripe theMethod args0 below0 = true := by decide +kernel
theorem w_running : about1.status = .running := rfl
set_option maxRecDepth 65536 in
theorem w_room : about1.hasRoom e0.platform room_1 = true :=
  launch0.hasRoom_least _ room_1 (by decide +kernel) (by decide +kernel) (by decide +kernel) (by decide +kernel) (by decide +kernel) (by decide +kernel)
theorem allAtoms_all (ts : List Jvm.Cond) (a : Array Jvm.Value) (st : Jvm.State) : (allAtoms ts).before a st = ts.all (fun c => c.before a st) := by
  induction ts with
  | nil => rfl
  | cons c t ih =>
    show (Jvm.Cond.and c (allAtoms t)).before a st = _
    rw [Jvm.Cond.before_and, ih, List.all_cons]
def words1 : List Jvm.Cond := Jvm.Cond.code x code maxLocals ret :: tables_1
/-- a 'code' word, met by the world's own term for the bytes: nothing is compared byte by byte -/
theorem code_word {y : MethodName} {bytes : ByteArray} {mx : Nat} {rt : Option FieldType} {a : Array Value} {s : State} {m : MethodId} {meth : Method} {c : Code} (h1 : s.methodNamed? y = some m) (h2 : s.vm.method? m = some meth) (h3 : meth.code = some c) (h4 : c.code = bytes)
    (h5 : (c.maxLocals == mx && c.exceptionTable.isEmpty && decide (c.maxStack ≤ mostOperands) && decide (meth.sig.returnType = rt) && !meth.locks && decide (parseMethodDescriptor y.desc = some meth.sig)) = true) : (Jvm.Cond.code y bytes mx rt).before a s = true := by
  simp only [Bool.and_eq_true, beq_iff_eq, Bool.not_eq_true', decide_eq_true_eq] at h5
  obtain ⟨⟨⟨⟨⟨g1, g2⟩, g3⟩, g4⟩, g5⟩, g6⟩ := h5
  simp [Cond.before, Cond.holds, Cond.value, h1, h2, h3, h4, g1, g2, g3, g4, g5, g6]
def isCode : Jvm.Cond → Bool
  | .code _ _ _ _ => true
  | _ => false
theorem all_split {L : List Jvm.Cond} {P : Jvm.Cond → Bool} (h1 : L.all (fun c => isCode c || P c) = true) (h2 : ∀ c ∈ L.filter isCode, P c = true) : L.all P = true := by
  refine List.all_eq_true.mpr fun c hc => ?_
  have h := List.all_eq_true.mp h1 c hc
  rcases Bool.eq_false_or_eq_true (isCode c) with hi | hi
  · exact h2 c (List.mem_filter.mpr ⟨hc, hi⟩)
  · simpa [hi] using h
set_option maxRecDepth 65536 in
theorem w_c0 : (Jvm.Cond.code x code maxLocals ret).before args0 about1 = true := code_word (m := ⟨1, 1⟩) (meth := k1m1) (c := k1c1) (by decide +kernel) rfl rfl rfl (by decide +kernel)
set_option maxRecDepth 65536 in
theorem w_c1 : (Jvm.Cond.code ({ cls := "com/example/hedgerow/hedgerow/model/UtilityTable", name := "strides", desc := "([I)[I" } : Jvm.MethodName) prog_130_method_42_code (4 : Nat) (Option.some (Jvm.ClassFile.FieldType.array Jvm.ClassFile.FieldType.int))).before args0 about1 = true := code_word (m := ⟨2, 0⟩) (meth := k2m0) (c := k2c0) (by decide +kernel) rfl rfl rfl (by decide +kernel)
set_option maxRecDepth 65536 in
theorem w_c2 : (Jvm.Cond.code ({ cls := "com/example/hedgerow/hedgerow/model/UtilityTableStridesPinLaw", name := "expected", desc := "([III)I" } : Jvm.MethodName) method_4_code (3 : Nat) (Option.some Jvm.ClassFile.FieldType.int)).before args0 about1 = true := code_word (m := ⟨1, 3⟩) (meth := k1m3) (c := k1c3) (by decide +kernel) rfl rfl rfl (by decide +kernel)
set_option maxRecDepth 65536 in
theorem w_c3 : (Jvm.Cond.code ({ cls := "com/example/hedgerow/hedgerow/model/UtilityTableStridesPinLaw", name := "sizeOrOne", desc := "([III)I" } : Jvm.MethodName) method_3_code (3 : Nat) (Option.some Jvm.ClassFile.FieldType.int)).before args0 about1 = true := code_word (m := ⟨1, 2⟩) (meth := k1m2) (c := k1c2) (by decide +kernel) rfl rfl rfl (by decide +kernel)
def codes1 : List Jvm.Cond := [Jvm.Cond.code x code maxLocals ret, Jvm.Cond.code ({ cls := "com/example/hedgerow/hedgerow/model/UtilityTable", name := "strides", desc := "([I)[I" } : Jvm.MethodName) prog_130_method_42_code (4 : Nat) (Option.some (Jvm.ClassFile.FieldType.array Jvm.ClassFile.FieldType.int)), Jvm.Cond.code ({ cls := "com/example/hedgerow/hedgerow/model/UtilityTableStridesPinLaw", name := "expected", desc := "([III)I" } : Jvm.MethodName) method_4_code (3 : Nat) (Option.some Jvm.ClassFile.FieldType.int), Jvm.Cond.code ({ cls := "com/example/hedgerow/hedgerow/model/UtilityTableStridesPinLaw", name := "sizeOrOne", desc := "([III)I" } : Jvm.MethodName) method_3_code (3 : Nat) (Option.some Jvm.ClassFile.FieldType.int)]
set_option maxRecDepth 65536 in
theorem codes_eq : words1.filter isCode = codes1 := rfl
theorem w_codes : ∀ c ∈ words1.filter isCode, c.before args0 about1 = true := by
  rw [codes_eq]
  intro c hc
  simp only [codes1, List.mem_cons, List.not_mem_nil, or_false] at hc
  rcases hc with rfl | rfl | rfl | rfl
  · exact w_c0
  · exact w_c1
  · exact w_c2
  · exact w_c3
set_option maxRecDepth 65536 in
theorem w_t1 : words1.all (fun c => isCode c || c.before args0 about1) = true := by decide +kernel
theorem w_tables : (allAtoms (Jvm.Cond.code x code maxLocals ret :: tables_1)).before args0 about1 = true := by
  rw [allAtoms_all]
  show words1.all (fun c => c.before args0 about1) = true
  refine all_split ?_ w_codes
  rw [w_t1]
set_option maxRecDepth 65536 in
theorem w_case : (Jvm.Cond.and given_1 narrow_1).before args0 about1 = true := by decide +kernel
theorem w_applies : (headSpec (Jvm.Cond.code x code maxLocals ret :: tables_1) room_1).applies x e0.platform about1 = true :=
  (Spec.applies_iff w_frames).mpr ⟨w_running, w_runnable, w_alone, w_named, w_hears, w_ripe, w_room, w_tables⟩
theorem atStart : AtStart classFile x code maxLocals ret World_1 tables_1 room_1 Calls_1 rest_1 Pre_1 launch0 p0 e0 about1 theMethod args0 below0 :=
  ⟨lists_1, trivial, launch0.admits_env _ _ _, launch0.least_env, fairChoices_fair.cas, fairChoices_fair.clock, w_frames, w_args, w_heap, w_applies, trivial, trivial, w_case⟩
end start1
theorem witness_1 : WitnessClaimed_1 := ⟨start1.p0, start1.e0, start1.about1, start1.theMethod, start1.args0, start1.below0, start1.atStart⟩
end Jvm.Pilot.@@N@@
