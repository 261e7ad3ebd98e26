import JvmDerived
import JvmDerived.Pilot.@@N@@Statement
import JvmDerived.Pilot.@@N@@Code
set_option linter.unusedVariables false
set_option linter.unusedSimpArgs false
namespace Jvm.RoadKit
open Sem ClassFile Op Lib Jvm.Stand Jvm.Free Jvm.LawKit
section New
variable {p : Program} {l : Launch} {e : Env} {R : Room} {s : State} {m : MethodId} {args : Array Value} {below : List Frame} {meth : Method} {c : Code} {T : State} {locs : List Loc} {cells slots : Nat}
theorem retI (X : Stand p l e R s m args below meth c T locs cells slots) (hx : p.tables.exec = Jvm.exec) {pc : Nat} {Ls : Array Slot} {z : Int32} {rest : List Value} (hret : meth.sig.returnType = some .int) (hd : decode c.code pc = .ok (.ireturn, 1)) {fs : List Frame}
    (hl : ∀ (f : JFrame) (acts : List Action), f.method = m → f.locked = none → f.entered = [] → (doReturn e (T.setTop f) acts (some (.int z))).1 = T.setFrames fs) : Steps p.tables e below (T.setTop (mkF m pc Ls (.int z :: rest))) (T.setFrames fs) := by
  have hm' : T.vm.method? m = some meth := X.method'
  have hn : narrow .int (.int z) = .int z := rfl
  show Steps p.tables e below (T.setTop { method := m, pc := pc, locals := Ls, stack := _ :: rest, locked := none }) _
  jvm_step X.here [X.here.top, hx, hd, hm', hret, hn]
  first | (intro acts; rw [hl _ acts rfl rfl rfl]) | rw [hl _ _ rfl rfl rfl]
  exact Steps.refl _
/-- the run from A comes to its end, and there Q holds -/
def own_G (tb : Tables) (e : Env) (below : List Frame) (s : State) (Q : Option Value → Heap → List Loc → Prop) (C S : Nat) (A : State) : Prop :=
  ∃ s₂ o, Steps tb e below A s₂ ∧ s₂.status = .running ∧ Ended s₂ below o ∧ ∃ v L, o = .returned v ∧ Q v s₂.heap L ∧ FrameEnd s o s₂ L C S
theorem own_by {tb : Tables} {Q : Option Value → Heap → List Loc → Prop} {C S : Nat} {A B : State} (st : ∀ t, Steps tb e below B t → Steps tb e below A t) (k : own_G tb e below s Q C S B) : own_G tb e below s Q C S A := by
  obtain ⟨s₂, o, h, r⟩ := k
  exact ⟨s₂, o, st _ h, r⟩
theorem own_end (X : Stand p l e R s m args below meth c T locs cells slots) {v : Option Value} (hv : meth.sig.returnType = none → v = none) (hlk : meth.locks = false) {Q : Option Value → Heap → List Loc → Prop} {C S : Nat} {A : State}
    (st : ∀ fs, (∀ (f : JFrame) (acts : List Action), f.method = m → f.locked = none → f.entered = [] → (doReturn e (T.setTop f) acts v).1 = T.setFrames fs) → Steps p.tables e below A (T.setFrames fs))
    (hQ : Q v T.heap locs) (hc : cells ≤ C) (hs : slots ≤ S) : own_G p.tables e below s Q C S A := by
  obtain ⟨fs, hr, hrun, hended, hW, hsame⟩ := X.leave hv hlk
  exact ⟨_, _, st fs hr, hrun, hended, _, _, rfl, hQ, ⟨_, rfl⟩, hW, hsame.mono hc hs⟩
theorem own_lremM {tb : Tables} [Ours tb] {target : State} {g : JFrame} (h : At T m c below) (hx : tb.exec = Jvm.exec) (hg : g.method = m) {x y : Int64} {rest : List Value} (hd : decode c.code g.pc = .ok (.lrem, 1)) (hs : g.stack = .long y :: .long x :: rest) (hy : y ≠ 0)
    (hr : Steps tb e below (T.setTop { g with pc := g.pc + 1, stack := .long (x % y) :: rest }) target) : Steps tb e below (T.setTop g) target := by
  have q : x - x / y * y = x % y := lrem_mod x y
  exact XT.lrem h hx hg hd hs hy (by rw [q]; exact hr)
variable {Z : State} {a0 : Array Value} {h h' : Heap} {a b : Addr} {ty : FieldType} {n : Nat} {f : Nat → Value} {sl : Nat} {v : Value} {ws : List Addr}
/-- the array at a has n places, place k holds f k -/
def own_A (Z : State) (h : Heap) (a : Addr) (ty : FieldType) (n : Nat) (f : Nat → Value) : Prop := ∃ c : Cell, Arr Z h a c ty ∧ c.slots.size = n ∧ ∀ k, k < n → c.slots[k]? = some (f k)
abbrev own_AJ (Z : State) (h : Heap) (a : Addr) (n : Nat) (F : Nat → Int64) : Prop := own_A Z h a .long n (fun k => .long (F k))
abbrev own_AI (Z : State) (h : Heap) (a : Addr) (n : Nat) (F : Nat → Int32) : Prop := own_A Z h a .int n (fun k => .int (F k))
abbrev own_AB (Z : State) (h : Heap) (a : Addr) (n : Nat) (F : Nat → Int32) : Prop := own_A Z h a .byte n (fun k => .int (F k))
def own_upd {α : Type} (f : Nat → α) (k : Nat) (x : α) : Nat → α := fun i => if i = k then x else f i
theorem own_A.lt (F : own_A Z h a ty n f) : a < h.size := by obtain ⟨c, A, -⟩ := F; exact A.lt
theorem own_A.ext (F : own_A Z h a ty n f) (E : Ext h h') : own_A Z h' a ty n f := by obtain ⟨c, A, r⟩ := F; exact ⟨c, A.ext E, r⟩
theorem own_A.other (F : own_A Z h b ty n f) (W : Wr h h' a sl v) (q : b ≠ a) : own_A Z h' b ty n f := by obtain ⟨c, A, r⟩ := F; exact ⟨c, A.other W q, r⟩
theorem own_A.keep (F : own_A Z h a ty n f) (K : Keep h h' ws) (q : a ∉ ws) : own_A Z h' a ty n f := by obtain ⟨c, A, r⟩ := F; exact ⟨c, ⟨K.2.1 a c A.1 q, A.2⟩, r⟩
theorem own_A.cast {f' : Nat → Value} (F : own_A Z h a ty n f) (q : ∀ k, k < n → f k = f' k) : own_A Z h a ty n f' := by obtain ⟨c, A, S, H⟩ := F; exact ⟨c, A, S, fun k hk => by rw [H k hk, q k hk]⟩
theorem own_idx {j : Int32} {k n : Nat} (hk : j.toInt = k) (hn : k < n) {c : Cell} (S : c.slots.size = n) : ¬ (j < 0 ∨ c.slots.size ≤ j.toNatClampNeg) ∧ j.toNatClampNeg = k := by
  have e : j.toNatClampNeg = k := by show j.toInt.toNat = k; rw [hk]; rfl
  refine ⟨?_, e⟩
  rw [e, S]
  rintro (q | q)
  · rw [Int32.lt_iff_toInt_lt] at q; have : (0 : Int32).toInt = 0 := by decide
    omega
  · omega
theorem own_A.set {c : Cell} (A : Arr Z h a c ty) (S : c.slots.size = n) (H : ∀ k, k < n → c.slots[k]? = some (f k)) {j : Nat} (W : Wr h h' a j v) (hj : j < n) {f' : Nat → Value} (q : ∀ k, k < n → f' k = if k = j then v else f k) : own_A Z h' a ty n f' := by
  refine ⟨c.setSlot j v, A.same W, by rw [sz_set]; exact S, fun i hi => ?_⟩
  rw [q i hi]
  by_cases e : i = j
  · subst e; simp [Cell.setSlot, S, hi]
  · rw [if_neg e, ← H i hi]; show (c.slots.setIfInBounds j v)[i]? = _; exact Array.getElem?_setIfInBounds_ne (Ne.symm e)
theorem own_ldJ (X : Stand p l e R s m args below meth c T locs cells slots) (hx : p.tables.exec = Jvm.exec) (hZ : Z.Warmed39 s.vm) (eT : T.heap = h) {F : Nat → Int64} (V : own_AJ Z h a n F) {j : Int32} {k : Nat} (hk : j.toInt = k) (hn : k < n) {g : JFrame} (hg : g.method = m) {rest : List Value} (hs : g.stack = .int j :: .ref a :: rest) (hd : decode c.code g.pc = .ok (.laload, 1)) :
    ∀ target, Steps p.tables e below (T.setTop { g with pc := g.pc + 1, stack := .long (F k) :: rest }) target → Steps p.tables e below (T.setTop g) target := by
  obtain ⟨c, A, S, H⟩ := V
  obtain ⟨q, e'⟩ := own_idx hk hn S
  intro target hr
  exact X.laload hx (by rw [eT]; exact A.1) (State.isArrayOf_alike hZ.alike A.2.1) A.2.2 q (v := .long (F k)) (by rw [e']; exact H k hn) hg hs hd target hr
theorem own_ldI (X : Stand p l e R s m args below meth c T locs cells slots) (hx : p.tables.exec = Jvm.exec) (hZ : Z.Warmed39 s.vm) (eT : T.heap = h) {F : Nat → Int32} (V : own_AI Z h a n F) {j : Int32} {k : Nat} (hk : j.toInt = k) (hn : k < n) {g : JFrame} (hg : g.method = m) {rest : List Value} (hs : g.stack = .int j :: .ref a :: rest) (hd : decode c.code g.pc = .ok (.iaload, 1)) :
    ∀ target, Steps p.tables e below (T.setTop { g with pc := g.pc + 1, stack := .int (F k) :: rest }) target → Steps p.tables e below (T.setTop g) target := by
  obtain ⟨c, A, S, H⟩ := V
  obtain ⟨q, e'⟩ := own_idx hk hn S
  intro target hr
  exact X.iaload hx (by rw [eT]; exact A.1) (State.isArrayOf_alike hZ.alike A.2.1) A.2.2 q (v := .int (F k)) (by rw [e']; exact H k hn) hg hs hd target hr
theorem own_ldB (X : Stand p l e R s m args below meth c T locs cells slots) (hx : p.tables.exec = Jvm.exec) (hZ : Z.Warmed39 s.vm) (eT : T.heap = h) {F : Nat → Int32} (V : own_AB Z h a n F) {j : Int32} {k : Nat} (hk : j.toInt = k) (hn : k < n) {g : JFrame} (hg : g.method = m) {rest : List Value} (hs : g.stack = .int j :: .ref a :: rest) (hd : decode c.code g.pc = .ok (.baload, 1)) :
    ∀ target, Steps p.tables e below (T.setTop { g with pc := g.pc + 1, stack := .int (F k) :: rest }) target → Steps p.tables e below (T.setTop g) target := by
  obtain ⟨c, A, S, H⟩ := V
  obtain ⟨q, e'⟩ := own_idx hk hn S
  intro target hr
  exact X.baloadBytes hx (by rw [eT]; exact A.1) (State.isArrayOf_alike hZ.alike A.2.1) A.2.2 q (v := .int (F k)) (by rw [e']; exact H k hn) hg hs hd target hr
theorem own_stJ (X : Stand p l e R s m args below meth c T locs cells slots) (hx : p.tables.exec = Jvm.exec) (hZ : Z.Warmed39 s.vm) (eT : T.heap = h) {F : Nat → Int64} (V : own_AJ Z h a n F) {j : Int32} {x : Int64} {k : Nat} (hk : j.toInt = k) (hn : k < n) {g : JFrame} (hg : g.method = m) {rest : List Value} (hs : g.stack = .long x :: .int j :: .ref a :: rest) (hd : decode c.code g.pc = .ok (.lastore, 1)) :
    ∃ T' h', Stand p l e R s m args below meth c T' (locs ++ [⟨a, j.toNatClampNeg⟩]) cells slots ∧ T'.heap = h' ∧ Wr h h' a j.toNatClampNeg (.long x) ∧ own_AJ Z h' a n (own_upd F k x) ∧ ∀ target, Steps p.tables e below (T'.setTop { g with pc := g.pc + 1, stack := rest }) target → Steps p.tables e below (T.setTop g) target := by
  obtain ⟨c, A, S, H⟩ := V
  obtain ⟨q, e'⟩ := own_idx hk hn S
  obtain ⟨T', h', X', e1, W, st⟩ := stJ X hx hZ eT A q hg hs hd
  exact ⟨T', h', X', e1, W, own_A.set A S H W (by rw [e']; exact hn) (fun i _ => by rw [e']; show Value.long (if i = k then x else F i) = _; by_cases z : i = k <;> simp [z]), st⟩
theorem own_stI (X : Stand p l e R s m args below meth c T locs cells slots) (hx : p.tables.exec = Jvm.exec) (hZ : Z.Warmed39 s.vm) (eT : T.heap = h) {F : Nat → Int32} (V : own_AI Z h a n F) {j : Int32} {x : Int32} {k : Nat} (hk : j.toInt = k) (hn : k < n) {g : JFrame} (hg : g.method = m) {rest : List Value} (hs : g.stack = .int x :: .int j :: .ref a :: rest) (hd : decode c.code g.pc = .ok (.iastore, 1)) :
    ∃ T' h', Stand p l e R s m args below meth c T' (locs ++ [⟨a, j.toNatClampNeg⟩]) cells slots ∧ T'.heap = h' ∧ Wr h h' a j.toNatClampNeg (.int x) ∧ own_AI Z h' a n (own_upd F k x) ∧ ∀ target, Steps p.tables e below (T'.setTop { g with pc := g.pc + 1, stack := rest }) target → Steps p.tables e below (T.setTop g) target := by
  obtain ⟨c, A, S, H⟩ := V
  obtain ⟨q, e'⟩ := own_idx hk hn S
  obtain ⟨T', h', X', e1, W, st⟩ := stI X hx hZ eT A q hg hs hd
  exact ⟨T', h', X', e1, W, own_A.set A S H W (by rw [e']; exact hn) (fun i _ => by rw [e']; show Value.int (if i = k then x else F i) = _; by_cases z : i = k <;> simp [z]), st⟩
theorem own_stB (X : Stand p l e R s m args below meth c T locs cells slots) (hx : p.tables.exec = Jvm.exec) (hZ : Z.Warmed39 s.vm) (eT : T.heap = h) {F : Nat → Int32} (V : own_AB Z h a n F) {j : Int32} {x : Int32} {k : Nat} (hk : j.toInt = k) (hn : k < n) {g : JFrame} (hg : g.method = m) {rest : List Value} (hs : g.stack = .int x :: .int j :: .ref a :: rest) (hd : decode c.code g.pc = .ok (.bastore, 1)) :
    ∃ T' h', Stand p l e R s m args below meth c T' (locs ++ [⟨a, j.toNatClampNeg⟩]) cells slots ∧ T'.heap = h' ∧ Wr h h' a j.toNatClampNeg (.int (nar .byte x)) ∧ own_AB Z h' a n (own_upd F k (nar .byte x)) ∧ ∀ target, Steps p.tables e below (T'.setTop { g with pc := g.pc + 1, stack := rest }) target → Steps p.tables e below (T.setTop g) target := by
  obtain ⟨c, A, S, H⟩ := V
  obtain ⟨q, e'⟩ := own_idx hk hn S
  obtain ⟨T', h', X', e1, W, st⟩ := stB X hx hZ eT A q hg hs hd
  exact ⟨T', h', X', e1, W, own_A.set A S H W (by rw [e']; exact hn) (fun i _ => by rw [e']; show Value.int (if i = k then nar .byte x else F i) = _; by_cases z : i = k <;> simp [z]), st⟩
theorem own_newA {cA : ClassId} {z : Int32} {N : Nat} (A : Arr Z h a (newA cA ty z) ty) (hz : z.toInt = N) : own_A Z h a ty N (fun _ => defaultValue ty) := by
  have e : z.toNatClampNeg = N := by show z.toInt.toNat = N; rw [hz]; rfl
  refine ⟨_, A, by rw [sz_new]; exact e, fun k hk => ?_⟩
  show (Array.replicate z.toNatClampNeg (defaultValue ty))[k]? = _
  rw [e]; simp [hk]
theorem own_neg {z : Int32} {N : Nat} (hz : z.toInt = N) : ¬ z < 0 ∧ z.toNatClampNeg = N := by
  refine ⟨fun q => ?_, by show z.toInt.toNat = N; rw [hz]; rfl⟩
  rw [Int32.lt_iff_toInt_lt] at q; have : (0 : Int32).toInt = 0 := by decide
  omega
theorem own_newJ (X : Stand p l e R s m args below meth c T locs cells slots) (hx : p.tables.exec = Jvm.exec) (hZ : Z.Warmed39 s.vm) (w : (Cond.arrayClass .long).before a0 Z = true) (eT : T.heap = h) {g : JFrame} (hg : g.method = m) (hd : decode c.code g.pc = .ok (.newarray .long, 2)) {z : Int32} {rest : List Value} (hs : g.stack = .int z :: rest)
    {N : Nat} (hz : z.toInt = N) {cap : Nat} (hcap : N ≤ cap) (hb : cap * 8 ≤ 536870912) (hc : cells + 1 ≤ R.cells) (hl : slots + cap ≤ R.slots) :
    ∃ T' h', Stand p l e R s m args below meth c T' locs (cells + 1) (slots + cap) ∧ T'.heap = h' ∧ Ext h h' ∧ own_AJ Z h' h.size N (fun _ => 0) ∧ ∀ target, Steps p.tables e below (T'.setTop { g with pc := g.pc + 2, stack := .ref h.size :: rest }) target → Steps p.tables e below (T.setTop g) target := by
  obtain ⟨q1, q2⟩ := own_neg hz
  obtain ⟨T', h', cA, X', e1, E, A, st⟩ := newP X hx hZ (aty := .long) w eT hg hd hs q1 (cap := cap) (by rw [q2]; exact hcap) hb hc hl
  exact ⟨T', h', X', e1, E, own_newA A hz, st⟩
theorem own_newI (X : Stand p l e R s m args below meth c T locs cells slots) (hx : p.tables.exec = Jvm.exec) (hZ : Z.Warmed39 s.vm) (w : (Cond.arrayClass .int).before a0 Z = true) (eT : T.heap = h) {g : JFrame} (hg : g.method = m) (hd : decode c.code g.pc = .ok (.newarray .int, 2)) {z : Int32} {rest : List Value} (hs : g.stack = .int z :: rest)
    {N : Nat} (hz : z.toInt = N) {cap : Nat} (hcap : N ≤ cap) (hb : cap * 8 ≤ 536870912) (hc : cells + 1 ≤ R.cells) (hl : slots + cap ≤ R.slots) :
    ∃ T' h', Stand p l e R s m args below meth c T' locs (cells + 1) (slots + cap) ∧ T'.heap = h' ∧ Ext h h' ∧ own_AI Z h' h.size N (fun _ => 0) ∧ ∀ target, Steps p.tables e below (T'.setTop { g with pc := g.pc + 2, stack := .ref h.size :: rest }) target → Steps p.tables e below (T.setTop g) target := by
  obtain ⟨q1, q2⟩ := own_neg hz
  obtain ⟨T', h', cA, X', e1, E, A, st⟩ := newP X hx hZ (aty := .int) w eT hg hd hs q1 (cap := cap) (by rw [q2]; exact hcap) hb hc hl
  exact ⟨T', h', X', e1, E, own_newA A hz, st⟩
theorem own_newB (X : Stand p l e R s m args below meth c T locs cells slots) (hx : p.tables.exec = Jvm.exec) (hZ : Z.Warmed39 s.vm) (w : (Cond.arrayClass .byte).before a0 Z = true) (eT : T.heap = h) {g : JFrame} (hg : g.method = m) (hd : decode c.code g.pc = .ok (.newarray .byte, 2)) {z : Int32} {rest : List Value} (hs : g.stack = .int z :: rest)
    {N : Nat} (hz : z.toInt = N) {cap : Nat} (hcap : N ≤ cap) (hb : cap * 8 ≤ 536870912) (hc : cells + 1 ≤ R.cells) (hl : slots + cap ≤ R.slots) :
    ∃ T' h', Stand p l e R s m args below meth c T' locs (cells + 1) (slots + cap) ∧ T'.heap = h' ∧ Ext h h' ∧ own_AB Z h' h.size N (fun _ => 0) ∧ ∀ target, Steps p.tables e below (T'.setTop { g with pc := g.pc + 2, stack := .ref h.size :: rest }) target → Steps p.tables e below (T.setTop g) target := by
  obtain ⟨q1, q2⟩ := own_neg hz
  obtain ⟨T', h', cA, X', e1, E, A, st⟩ := newP X hx hZ (aty := .byte) w eT hg hd hs q1 (cap := cap) (by rw [q2]; exact hcap) hb hc hl
  exact ⟨T', h', X', e1, E, own_newA A hz, st⟩
theorem own_len (X : Stand p l e R s m args below meth c T locs cells slots) (hx : p.tables.exec = Jvm.exec) (hZ : Z.Warmed39 s.vm) (eT : T.heap = h) (V : own_A Z h a ty n f) {z : Int32} (hz : z.toInt = n) {g : JFrame} (hg : g.method = m) {rest : List Value} (hs : g.stack = .ref a :: rest) (hd : decode c.code g.pc = .ok (.arraylength, 1)) :
    ∀ target, Steps p.tables e below (T.setTop { g with pc := g.pc + 1, stack := .int z :: rest }) target → Steps p.tables e below (T.setTop g) target := by
  obtain ⟨c, A, S, H⟩ := V
  obtain ⟨q1, q2⟩ := own_neg hz
  intro target hr
  exact X.arraylength hx (by rw [eT]; exact A.1) (State.isArrayOf_alike hZ.alike A.2.1) hg hs hd target (by rw [len_of (S.trans q2.symm) q1]; exact hr)
theorem own_selp {y : MethodName} {k : Nat} {Z : State} {a0 : Array Value} (hZ : Z.Warmed39 s.vm) (wi : (Cond.instantiable y.cls k).before a0 Z = true) (wp : (Cond.privateMethod y).before a0 Z = true) (wm : (Cond.instanceMethod y).before a0 Z = true) (hy : y.cls ≠ "java/lang/invoke/MethodHandle" ∧ y.cls ≠ "java/lang/invoke/VarHandle") : (Cond.selects y.cls y y).before args s = true := by
  obtain ⟨c, k, h1, h2, -, h4, -⟩ := Cond.instantiable_spec (mv (args := args) hZ wi)
  rw [Bool.or_eq_false_iff] at h4
  exact Jvm.Stand.selects_self_of_private h1 h2 h4.1 (Cond.privateMethod_at (mvP hZ wp (args := #[]))) (mv hZ wm) hy
end New
end Jvm.RoadKit
namespace Jvm.Pilot.@@N@@
open Jvm Jvm.ClassFile Sem Op Lib Jvm.Free Jvm.Stand Jvm.LawKit Jvm.RoadKit Bundle Jvm.Pilot.@@N@@.Jvm.D
def own_min (a b : Int32) : Int32 := if b < a then b else a
def own_hit (F : Nat → Int32) (p q : Nat) (v : Int32) (k : Nat) : Int32 := if p ≤ k ∧ k < q ∧ (F k &&& (255 : Int32)) = v then 1 else 0
def own_find (F : Nat → Int32) (v : Int32) : Nat → Nat → Int32
  | 0, _ => -1
  | n + 1, i => if (F i &&& (255 : Int32)) = v then Int32.ofNat i else own_find F v n (i + 1)
def own_ex (F : Nat → Int32) (p q : Nat) (v : Int32) : Int32 := if own_hit F p q v 0 = (0 : Int32) then (if own_hit F p q v 1 = (0 : Int32) then (if own_hit F p q v 2 = (0 : Int32) then (if own_hit F p q v 3 = (0 : Int32) then -1 else 3) else 2) else 1) else 0
theorem own_nat {x : Int32} {a : Nat} (h : x.toInt = a) : x = Int32.ofNat a := by
  have r := rng32 x
  rw [← Int32.toInt_inj, h, Int32.toInt_ofNat_of_lt (by omega)]
theorem own_lt {x y : Int32} {a b : Nat} (hx : x.toInt = a) (hy : y.toInt = b) : x < y ↔ a < b := by
  rw [Int32.lt_iff_toInt_lt]; omega
theorem own_suc {x : Int32} {a : Nat} (hx : x.toInt = a) (h : a < 100) : (x + (1 : Int32)).toInt = ((a + 1 : Nat) : Int) := by
  have q := c_iadd x (1 : Int32)
  have r := rng32 (x + (1 : Int32))
  have k : (1 : Int32).toInt = 1 := by decide
  omega
theorem own_msk (x : Int32) : ∃ a : Nat, (x &&& (7 : Int32)).toInt = a ∧ a < 8 := by
  have h := c_mask x (7 : Int32) 3 (by decide) (by decide)
  exact ⟨(x &&& (7 : Int32)).toInt.toNat, by omega, by omega⟩
theorem own_mskn (x : Int32) : ¬ (x &&& (7 : Int32)) < (0 : Int32) := by
  obtain ⟨a, h, -⟩ := own_msk x
  rw [Int32.lt_iff_toInt_lt, h, show (0 : Int32).toInt = 0 by decide]; omega
theorem own_minN {x y : Int32} {a b : Nat} (hx : x.toInt = a) (hy : y.toInt = b) : (own_min x y).toInt = ((min a b : Nat) : Int) := by
  unfold own_min
  by_cases q : b < a
  · rw [if_pos ((own_lt hy hx).mpr q), hy, Nat.min_eq_right (by omega)]
  · rw [if_neg (fun z => q ((own_lt hy hx).mp z)), hx, Nat.min_eq_left (by omega)]
theorem own_pq {lm : Int32} {x y : Int32} (h : lm = own_min (4 : Int32) (x &&& (7 : Int32))) : ∃ p q : Nat, ((0 : Int32) + own_min (y &&& (7 : Int32)) (lm - (0 : Int32))).toInt = p ∧ lm.toInt = q ∧ p ≤ q ∧ q ≤ 4 := by
  obtain ⟨a, ha, -⟩ := own_msk x
  obtain ⟨b, hb, -⟩ := own_msk y
  have e1 : lm.toInt = ((min 4 a : Nat) : Int) := by rw [h]; exact own_minN (show (4 : Int32).toInt = (4 : Nat) by decide) ha
  have e2 : lm - (0 : Int32) = lm := by simp
  have e3 : ((0 : Int32) + own_min (y &&& (7 : Int32)) lm) = own_min (y &&& (7 : Int32)) lm := by simp
  refine ⟨min b (min 4 a), min 4 a, ?_, e1, Nat.min_le_right _ _, Nat.min_le_left _ _⟩
  rw [e2, e3]; exact own_minN hb e1
theorem own_in {x : Int32} {p : Nat} (h : x.toInt = p) (h4 : p ≤ 4) : ¬ x < (0 : Int32) ∧ ¬ (4 : Int32) < x := by
  rw [Int32.lt_iff_toInt_lt, Int32.lt_iff_toInt_lt, h, show (0 : Int32).toInt = 0 by decide, show (4 : Int32).toInt = 4 by decide]; omega
theorem own_fin (F : Nat → Int32) (v : Int32) (p q : Nat) (h : p ≤ q) (h4 : q ≤ 4) : own_find F v (q - p) p = own_ex F p q v := by
  have hp : p = 0 ∨ p = 1 ∨ p = 2 ∨ p = 3 ∨ p = 4 := by omega
  have hq : q = 0 ∨ q = 1 ∨ q = 2 ∨ q = 3 ∨ q = 4 := by omega
  by_cases h0 : F 0 &&& (255 : Int32) = v <;> by_cases h1 : F 1 &&& (255 : Int32) = v <;> by_cases h2 : F 2 &&& (255 : Int32) = v <;> by_cases h3 : F 3 &&& (255 : Int32) = v <;>
  rcases hp with rfl | rfl | rfl | rfl | rfl <;> rcases hq with rfl | rfl | rfl | rfl | rfl <;> first | (exfalso; omega) | (simp [own_find, own_ex, own_hit, h0, h1, h2, h3] <;> rfl)
theorem own_d6_0 : decode jdk_29_method_69_code 0 = .ok (.iload_n 0, 1) := by decide +kernel
theorem own_d6_1 : decode jdk_29_method_69_code 1 = .ok (.iload_n 1, 1) := by decide +kernel
theorem own_d6_2 : decode jdk_29_method_69_code 2 = .ok (.if_icmp .gt 7, 3) := by decide +kernel
theorem own_d6_9 : decode jdk_29_method_69_code 9 = .ok (.iload_n 1, 1) := by decide +kernel
theorem own_d6_10 : decode jdk_29_method_69_code 10 = .ok (.ireturn, 1) := by decide +kernel
theorem own_d6_5 : decode jdk_29_method_69_code 5 = .ok (.iload_n 0, 1) := by decide +kernel
theorem own_d6_6 : decode jdk_29_method_69_code 6 = .ok (.goto 4, 3) := by decide +kernel
theorem own_ef1 (m : MethodId) (x0 : Int32) (x1 : Int32) : entryFrame m #[(.int x0), (.int x1)] 2 = mkF m 0 #[.val (.int x0), .val (.int x1)] [] := by first | (simp [entryFrame, mkF, argsToLocals, Value.category]; done) | rfl
def own_Q1 (Z : State) (p0 : Int32) (p1 : Int32) (h0 : Heap) (n0 : Nat) (v : Option Value) (h : Heap) (L : List Loc) : Prop := v = some (.int (own_min p0 p1)) ∧ Fr n0 L ∧ h = h0
set_option maxRecDepth 65536 in
set_option maxHeartbeats 40000000 in
theorem rm1 (l : Launch) (Z : State) (aw : Array Value) (hw : ∀ d ∈ tables_1, d.before aw Z = true) (ws : List Jvm.Cond) (p0 : Int32) (p1 : Int32) (h0 : Heap) (n0 : Nat) (Z0 : n0 ≤ h0.size) :
    MetFree l (⟨"java/lang/Math", "min", "(II)I"⟩ : MethodName) (head1 (Jvm.Cond.code (⟨"java/lang/Math", "min", "(II)I"⟩ : MethodName) jdk_29_method_69_code 2 (some .int) :: ws) ({ frames := 0, cells := 0, slots := 0, locals := 0 } : Room)) (fun a U => a = #[(.int p0), (.int p1)] ∧ Z.Warmed39 U.vm ∧ U.heap = h0) (fun _ _ _ _ _ => True) (fun _ U o U' => ∃ v L, o = .returned v ∧ own_Q1 Z p0 p1 h0 n0 v U'.heap L ∧ FrameEnd U o U' L ({ frames := 0, cells := 0, slots := 0, locals := 0 } : Room).cells ({ frames := 0, cells := 0, slots := 0, locals := 0 } : Room).slots) := by
  refine MetFree.of_bodySF (Jvm.Free.JP.mathPlain rfl (by decide +kernel)) hisR ?_
  intro p e s m args below meth c s₁ Bd hml0 hP hK
  obtain ⟨rfl, hZ, hh⟩ := hP
  have hx := Bd.exec
  have hby := Bd.bytes
  have hml : c.maxLocals = 2 := hml0
  have hown : s.vm.findClass "java/lang/Math" = some m.cls := findClass_of_methodNamed Bd.named
  have hnm := (name_of_methodNamed Bd.named Bd.method).1
  have X0 : Stand p l e ({ frames := 0, cells := 0, slots := 0, locals := 0 } : Room) s m #[(.int p0), (.int p1)] below meth c s₁ [] 0 0 := Stand.of_body Bd
  have e0 : s₁.heap = h0 := by rw [← hh, Bd.state]; rfl
  have N0 := Fr.nil n0
  show own_G p.tables e below s (own_Q1 Z p0 p1 h0 n0) ({ frames := 0, cells := 0, slots := 0, locals := 0 } : Room).cells ({ frames := 0, cells := 0, slots := 0, locals := 0 } : Room).slots (s₁.setTop (entryFrame m #[(.int p0), (.int p1)] 2))
  refine own_by (fun _ k => castTop (own_ef1 m p0 p1) k) ?_
  show own_G _ _ _ _ _ _ _ (s₁.setTop (mkF m 0 #[.val (.int p0), .val (.int p1)] []))
  refine own_by (fun _ k => XS.iloadN X0.here hx rfl (hb hby own_d6_0) rfl  k) ?_
  show own_G _ _ _ _ _ _ _ (s₁.setTop (mkF m 1 #[.val (.int p0), .val (.int p1)] [(.int p0)]))
  refine own_by (fun _ k => XS.iloadN X0.here hx rfl (hb hby own_d6_1) rfl  k) ?_
  show own_G _ _ _ _ _ _ _ (s₁.setTop (mkF m 2 #[.val (.int p0), .val (.int p1)] [(.int p1), (.int p0)]))
  by_cases hc2 : p1 < p0
  · refine own_by (fun _ k => XS.icmpYes X0.here hx rfl (pc0 := 2) (pc' := 9) rfl (hb hby own_d6_2) rfl (XT.ii_gt_t hc2) (by decide) (by decide) k) ?_
    show own_G _ _ _ _ _ _ _ (s₁.setTop (mkF m 9 #[.val (.int p0), .val (.int p1)] []))
    refine own_by (fun _ k => XS.iloadN X0.here hx rfl (hb hby own_d6_9) rfl  k) ?_
    show own_G _ _ _ _ _ _ _ (s₁.setTop (mkF m 10 #[.val (.int p0), .val (.int p1)] [(.int p1)]))
    exact own_end X0 (v := some (.int p1)) (fun h => by rw [Bd.returns] at h; cases h) (BodyLoose.notSynchronized Bd) (fun fs hr => retI X0 hx Bd.returns (hb hby own_d6_10) hr) (by rw [e0]; exact ⟨(by simp only [own_min, if_pos hc2]; first | done | rfl), N0, rfl⟩) (by decide) (by decide)
  · refine own_by (fun _ k => XS.icmpNo X0.here hx rfl (hb hby own_d6_2) rfl (XT.ii_gt_f hc2) k) ?_
    show own_G _ _ _ _ _ _ _ (s₁.setTop (mkF m 5 #[.val (.int p0), .val (.int p1)] []))
    refine own_by (fun _ k => XS.iloadN X0.here hx rfl (hb hby own_d6_5) rfl  k) ?_
    show own_G _ _ _ _ _ _ _ (s₁.setTop (mkF m 6 #[.val (.int p0), .val (.int p1)] [(.int p0)]))
    refine own_by (fun _ k => XS.goto X0.here hx rfl (pc0 := 6) (pc' := 10) rfl (hb hby own_d6_6) (by decide) (by decide) k) ?_
    show own_G _ _ _ _ _ _ _ (s₁.setTop (mkF m 10 #[.val (.int p0), .val (.int p1)] [(.int p0)]))
    exact own_end X0 (v := some (.int p0)) (fun h => by rw [Bd.returns] at h; cases h) (BodyLoose.notSynchronized Bd) (fun fs hr => retI X0 hx Bd.returns (hb hby own_d6_10) hr) (by rw [e0]; exact ⟨(by simp only [own_min, if_neg hc2]; first | done | rfl), N0, rfl⟩) (by decide) (by decide)
theorem own_d4_0 : decode prog_29_method_4_code 0 = .ok (.aload_n 1, 1) := by decide +kernel
theorem own_d4_1 : decode prog_29_method_4_code 1 = .ok (.ifnonnull 13, 3) := by decide +kernel
theorem own_d4_14 : decode prog_29_method_4_code 14 = .ok (.iload_n 3, 1) := by decide +kernel
theorem own_d4_15 : decode prog_29_method_4_code 15 = .ok (.ifCond .lt 9, 3) := by decide +kernel
theorem own_d4_18 : decode prog_29_method_4_code 18 = .ok (.iload_n 3, 1) := by decide +kernel
theorem own_d4_19 : decode prog_29_method_4_code 19 = .ok (.aload_n 1, 1) := by decide +kernel
theorem own_d4_20 : decode prog_29_method_4_code 20 = .ok (.arraylength, 1) := by decide +kernel
theorem own_d4_21 : decode prog_29_method_4_code 21 = .ok (.if_icmp .le 19, 3) := by decide +kernel
theorem own_d4_40 : decode prog_29_method_4_code 40 = .ok (.aload_n 0, 1) := by decide +kernel
theorem own_d4_41 : decode prog_29_method_4_code 41 = .ok (.aload_n 1, 1) := by decide +kernel
theorem own_d4_42 : decode prog_29_method_4_code 42 = .ok (.putfield 29, 3) := by decide +kernel
theorem own_d4_45 : decode prog_29_method_4_code 45 = .ok (.aload_n 0, 1) := by decide +kernel
theorem own_d4_46 : decode prog_29_method_4_code 46 = .ok (.iload_n 2, 1) := by decide +kernel
theorem own_d4_47 : decode prog_29_method_4_code 47 = .ok (.putfield 33, 3) := by decide +kernel
theorem own_d4_50 : decode prog_29_method_4_code 50 = .ok (.aload_n 0, 1) := by decide +kernel
theorem own_d4_51 : decode prog_29_method_4_code 51 = .ok (.iload_n 3, 1) := by decide +kernel
theorem own_d4_52 : decode prog_29_method_4_code 52 = .ok (.putfield 37, 3) := by decide +kernel
theorem own_d4_55 : decode prog_29_method_4_code 55 = .ok (.return_, 1) := by decide +kernel
theorem own_pn0 : plainName "com/example/wirelore/wirelore/dissection/ByteReader" = true := by first | (simp [plainName, overriddenIn]; done) | decide +kernel
theorem own_ef2 (m : MethodId) (x0 : Addr) (x1 : Addr) (x2 : Int32) (x3 : Int32) : entryFrame m #[(.ref x0), (.ref x1), (.int x2), (.int x3)] 4 = mkF m 0 #[.val (.ref x0), .val (.ref x1), .val (.int x2), .val (.int x3)] [] := by first | (simp [entryFrame, mkF, argsToLocals, Value.category]; done) | rfl
def own_Q2 (Z : State) (a0 : Addr) (a1 : Addr) (p2 : Int32) (p3 : Int32) (u0 : Value) (u1 : Value) (u2 : Value) (F : Nat → Int32) (h0 : Heap) (n0 : Nat) (v : Option Value) (h : Heap) (L : List Loc) : Prop := v = none ∧ Fr n0 L ∧ Keep h0 h [a0] ∧ Exa Z h a0 "com/example/wirelore/wirelore/dissection/ByteReader" ∧ Fld Z h a0 "com/example/wirelore/wirelore/dissection/ByteReader" "input" "[B" (.ref a1) ∧ Fld Z h a0 "com/example/wirelore/wirelore/dissection/ByteReader" "position" "I" (.int p2) ∧ Fld Z h a0 "com/example/wirelore/wirelore/dissection/ByteReader" "limit" "I" (.int p3)
set_option maxRecDepth 65536 in
set_option maxHeartbeats 40000000 in
theorem rm2 (l : Launch) (Z : State) (aw : Array Value) (hw : ∀ d ∈ tables_1, d.before aw Z = true) (ws : List Jvm.Cond) (a0 : Addr) (a1 : Addr) (p2 : Int32) (p3 : Int32) (u0 : Value) (u1 : Value) (u2 : Value) (F : Nat → Int32) (h0 : Heap) (n0 : Nat) (Z0 : n0 ≤ h0.size) (H0_ : Exa Z h0 a0 "com/example/wirelore/wirelore/dissection/ByteReader") (H1_ : Fld Z h0 a0 "com/example/wirelore/wirelore/dissection/ByteReader" "input" "[B" u0) (H2_ : Fld Z h0 a0 "com/example/wirelore/wirelore/dissection/ByteReader" "position" "I" u1) (H3_ : Fld Z h0 a0 "com/example/wirelore/wirelore/dissection/ByteReader" "limit" "I" u2) (H4_ : own_AB Z h0 a1 4 F) (g_a0 : n0 ≤ a0) (ne_a1_a0 : a1 ≠ a0) (h1 : ¬ (p3 < (0 : Int32))) (h2 : ¬ ((4 : Int32) < p3)) :
    MetFree l (⟨"com/example/wirelore/wirelore/dissection/ByteReader", "read", "([BII)V"⟩ : MethodName) (head1 (Jvm.Cond.code (⟨"com/example/wirelore/wirelore/dissection/ByteReader", "read", "([BII)V"⟩ : MethodName) prog_29_method_4_code 4 none :: ws) ({ frames := 0, cells := 0, slots := 0, locals := 0 } : Room)) (fun a U => a = #[(.ref a0), (.ref a1), (.int p2), (.int p3)] ∧ Z.Warmed39 U.vm ∧ U.heap = h0) (fun _ _ _ _ _ => True) (fun _ U o U' => ∃ v L, o = .returned v ∧ own_Q2 Z a0 a1 p2 p3 u0 u1 u2 F h0 n0 v U'.heap L ∧ FrameEnd U o U' L ({ frames := 0, cells := 0, slots := 0, locals := 0 } : Room).cells ({ frames := 0, cells := 0, slots := 0, locals := 0 } : Room).slots) := by
  refine MetFree.of_bodySF (plainFor_of_name own_pn0) hisR ?_
  intro p e s m args below meth c s₁ Bd hml0 hP hK
  obtain ⟨rfl, hZ, hh⟩ := hP
  have hx := Bd.exec
  have hby := Bd.bytes
  have hml : c.maxLocals = 4 := hml0
  have hown : s.vm.findClass "com/example/wirelore/wirelore/dissection/ByteReader" = some m.cls := findClass_of_methodNamed Bd.named
  have hnm := (name_of_methodNamed Bd.named Bd.method).1
  have X0 : Stand p l e ({ frames := 0, cells := 0, slots := 0, locals := 0 } : Room) s m #[(.ref a0), (.ref a1), (.int p2), (.int p3)] below meth c s₁ [] 0 0 := Stand.of_body Bd
  have e0 : s₁.heap = h0 := by rw [← hh, Bd.state]; rfl
  have N0 := Fr.nil n0
  show own_G p.tables e below s (own_Q2 Z a0 a1 p2 p3 u0 u1 u2 F h0 n0) ({ frames := 0, cells := 0, slots := 0, locals := 0 } : Room).cells ({ frames := 0, cells := 0, slots := 0, locals := 0 } : Room).slots (s₁.setTop (entryFrame m #[(.ref a0), (.ref a1), (.int p2), (.int p3)] 4))
  refine own_by (fun _ k => castTop (own_ef2 m a0 a1 p2 p3) k) ?_
  show own_G _ _ _ _ _ _ _ (s₁.setTop (mkF m 0 #[.val (.ref a0), .val (.ref a1), .val (.int p2), .val (.int p3)] []))
  refine own_by (fun _ k => XS.aloadN X0.here hx rfl (hb hby own_d4_0) rfl rfl k) ?_
  show own_G _ _ _ _ _ _ _ (s₁.setTop (mkF m 1 #[.val (.ref a0), .val (.ref a1), .val (.int p2), .val (.int p3)] [(.ref a1)]))
  refine own_by (fun _ k => XT.ifnonnullYes X0.here hx rfl (pc0 := 1) (pc' := 14) rfl (hb hby own_d4_1) rfl (by decide) (by decide) k) ?_
  show own_G _ _ _ _ _ _ _ (s₁.setTop (mkF m 14 #[.val (.ref a0), .val (.ref a1), .val (.int p2), .val (.int p3)] []))
  refine own_by (fun _ k => XS.iloadN X0.here hx rfl (hb hby own_d4_14) rfl  k) ?_
  show own_G _ _ _ _ _ _ _ (s₁.setTop (mkF m 15 #[.val (.ref a0), .val (.ref a1), .val (.int p2), .val (.int p3)] [(.int p3)]))
  have hc15 : ¬ (p3 < (0 : Int32)) := h1
  refine own_by (fun _ k => XS.ifNo X0.here hx rfl (hb hby own_d4_15) rfl (XT.i0_lt_f hc15) k) ?_
  show own_G _ _ _ _ _ _ _ (s₁.setTop (mkF m 18 #[.val (.ref a0), .val (.ref a1), .val (.int p2), .val (.int p3)] []))
  refine own_by (fun _ k => XS.iloadN X0.here hx rfl (hb hby own_d4_18) rfl  k) ?_
  show own_G _ _ _ _ _ _ _ (s₁.setTop (mkF m 19 #[.val (.ref a0), .val (.ref a1), .val (.int p2), .val (.int p3)] [(.int p3)]))
  refine own_by (fun _ k => XS.aloadN X0.here hx rfl (hb hby own_d4_19) rfl rfl k) ?_
  show own_G _ _ _ _ _ _ _ (s₁.setTop (mkF m 20 #[.val (.ref a0), .val (.ref a1), .val (.int p2), .val (.int p3)] [(.ref a1), (.int p3)]))
  refine own_by (own_len X0 hx hZ e0 H4_ (z := (4 : Int32)) (by decide) (g := (mkF m 20 #[.val (.ref a0), .val (.ref a1), .val (.int p2), .val (.int p3)] [(.ref a1), (.int p3)])) rfl rfl (hb hby own_d4_20)) ?_
  show own_G _ _ _ _ _ _ _ (s₁.setTop (mkF m 21 #[.val (.ref a0), .val (.ref a1), .val (.int p2), .val (.int p3)] [(.int (4 : Int32)), (.int p3)]))
  have hc21 : ¬ ((4 : Int32) < p3) := h2
  refine own_by (fun _ k => XS.icmpYes X0.here hx rfl (pc0 := 21) (pc' := 40) rfl (hb hby own_d4_21) rfl (XT.ii_le_t hc21) (by decide) (by decide) k) ?_
  show own_G _ _ _ _ _ _ _ (s₁.setTop (mkF m 40 #[.val (.ref a0), .val (.ref a1), .val (.int p2), .val (.int p3)] []))
  refine own_by (fun _ k => XS.aloadN X0.here hx rfl (hb hby own_d4_40) rfl rfl k) ?_
  show own_G _ _ _ _ _ _ _ (s₁.setTop (mkF m 41 #[.val (.ref a0), .val (.ref a1), .val (.int p2), .val (.int p3)] [(.ref a0)]))
  refine own_by (fun _ k => XS.aloadN X0.here hx rfl (hb hby own_d4_41) rfl rfl k) ?_
  show own_G _ _ _ _ _ _ _ (s₁.setTop (mkF m 42 #[.val (.ref a0), .val (.ref a1), .val (.int p2), .val (.int p3)] [(.ref a1), (.ref a0)]))
  obtain ⟨T1, h1, X1, e1, W1, st1⟩ := putF X0 hx hZ hown (host := "") (Or.inl (hw _ (List.mem_of_getElem? (i := 17) rfl))) Via.refl e0 H1_ H0_ (Or.inl (hw _ (List.mem_of_getElem? (i := 18) rfl))) (hw _ (List.mem_of_getElem? (i := 2) rfl)) (ty := (.array .byte)) (by decide) rfl rfl (g := (mkF m 42 #[.val (.ref a0), .val (.ref a1), .val (.int p2), .val (.int p3)] [(.ref a1), (.ref a0)])) rfl rfl (hb hby own_d4_42)
  refine own_by st1 ?_
  have F2_0 := H0_.wr W1
  have F2_1 := H1_.same W1
  have F2_2 := H2_.other W1 (Or.inr (slot_ne (Or.inl (hw _ (List.mem_of_getElem? (i := 20) rfl))) (Or.inl (hw _ (List.mem_of_getElem? (i := 18) rfl))) (by decide) (t := .int) (t' := (.array .byte)) (by decide) (by decide)))
  have F2_3 := H3_.other W1 (Or.inr (slot_ne (Or.inl (hw _ (List.mem_of_getElem? (i := 22) rfl))) (Or.inl (hw _ (List.mem_of_getElem? (i := 18) rfl))) (by decide) (t := .int) (t' := (.array .byte)) (by decide) (by decide)))
  have F2_4 := H4_.other W1 ne_a1_a0
  have N1 := Fr.snoc X1 N0 g_a0
  have Z3 : n0 ≤ h1.size := Nat.le_trans Z0 (Nat.le_of_eq W1.size.symm)
  have K1 := (Keep.refl h0 [a0]).wr W1 (Or.inl (List.mem_of_getElem? (i := 0) rfl))
  show own_G _ _ _ _ _ _ _ (T1.setTop (mkF m 45 #[.val (.ref a0), .val (.ref a1), .val (.int p2), .val (.int p3)] []))
  refine own_by (fun _ k => XS.aloadN X1.here hx rfl (hb hby own_d4_45) rfl rfl k) ?_
  show own_G _ _ _ _ _ _ _ (T1.setTop (mkF m 46 #[.val (.ref a0), .val (.ref a1), .val (.int p2), .val (.int p3)] [(.ref a0)]))
  refine own_by (fun _ k => XS.iloadN X1.here hx rfl (hb hby own_d4_46) rfl  k) ?_
  show own_G _ _ _ _ _ _ _ (T1.setTop (mkF m 47 #[.val (.ref a0), .val (.ref a1), .val (.int p2), .val (.int p3)] [(.int p2), (.ref a0)]))
  obtain ⟨T4, h4, X4, e4, W4, st4⟩ := putF X1 hx hZ hown (host := "") (Or.inl (hw _ (List.mem_of_getElem? (i := 19) rfl))) Via.refl e1 F2_2 F2_0 (Or.inl (hw _ (List.mem_of_getElem? (i := 20) rfl))) (hw _ (List.mem_of_getElem? (i := 2) rfl)) (ty := .int) (by decide) rfl rfl (g := (mkF m 47 #[.val (.ref a0), .val (.ref a1), .val (.int p2), .val (.int p3)] [(.int p2), (.ref a0)])) rfl rfl (hb hby own_d4_47)
  refine own_by st4 ?_
  have F5_0 := F2_0.wr W4
  have F5_1 := F2_1.other W4 (Or.inr (slot_ne (Or.inl (hw _ (List.mem_of_getElem? (i := 18) rfl))) (Or.inl (hw _ (List.mem_of_getElem? (i := 20) rfl))) (by decide) (t := (.array .byte)) (t' := .int) (by decide) (by decide)))
  have F5_2 := F2_2.same W4
  have F5_3 := F2_3.other W4 (Or.inr (slot_ne (Or.inl (hw _ (List.mem_of_getElem? (i := 22) rfl))) (Or.inl (hw _ (List.mem_of_getElem? (i := 20) rfl))) (by decide) (t := .int) (t' := .int) (by decide) (by decide)))
  have F5_4 := F2_4.other W4 ne_a1_a0
  have N4 := Fr.snoc X4 N1 g_a0
  have Z6 : n0 ≤ h4.size := Nat.le_trans Z3 (Nat.le_of_eq W4.size.symm)
  have K4 := K1.wr W4 (Or.inl (List.mem_of_getElem? (i := 0) rfl))
  show own_G _ _ _ _ _ _ _ (T4.setTop (mkF m 50 #[.val (.ref a0), .val (.ref a1), .val (.int p2), .val (.int p3)] []))
  refine own_by (fun _ k => XS.aloadN X4.here hx rfl (hb hby own_d4_50) rfl rfl k) ?_
  show own_G _ _ _ _ _ _ _ (T4.setTop (mkF m 51 #[.val (.ref a0), .val (.ref a1), .val (.int p2), .val (.int p3)] [(.ref a0)]))
  refine own_by (fun _ k => XS.iloadN X4.here hx rfl (hb hby own_d4_51) rfl  k) ?_
  show own_G _ _ _ _ _ _ _ (T4.setTop (mkF m 52 #[.val (.ref a0), .val (.ref a1), .val (.int p2), .val (.int p3)] [(.int p3), (.ref a0)]))
  obtain ⟨T7, h7, X7, e7, W7, st7⟩ := putF X4 hx hZ hown (host := "") (Or.inl (hw _ (List.mem_of_getElem? (i := 21) rfl))) Via.refl e4 F5_3 F5_0 (Or.inl (hw _ (List.mem_of_getElem? (i := 22) rfl))) (hw _ (List.mem_of_getElem? (i := 2) rfl)) (ty := .int) (by decide) rfl rfl (g := (mkF m 52 #[.val (.ref a0), .val (.ref a1), .val (.int p2), .val (.int p3)] [(.int p3), (.ref a0)])) rfl rfl (hb hby own_d4_52)
  refine own_by st7 ?_
  have F8_0 := F5_0.wr W7
  have F8_1 := F5_1.other W7 (Or.inr (slot_ne (Or.inl (hw _ (List.mem_of_getElem? (i := 18) rfl))) (Or.inl (hw _ (List.mem_of_getElem? (i := 22) rfl))) (by decide) (t := (.array .byte)) (t' := .int) (by decide) (by decide)))
  have F8_2 := F5_2.other W7 (Or.inr (slot_ne (Or.inl (hw _ (List.mem_of_getElem? (i := 20) rfl))) (Or.inl (hw _ (List.mem_of_getElem? (i := 22) rfl))) (by decide) (t := .int) (t' := .int) (by decide) (by decide)))
  have F8_3 := F5_3.same W7
  have F8_4 := F5_4.other W7 ne_a1_a0
  have N7 := Fr.snoc X7 N4 g_a0
  have Z9 : n0 ≤ h7.size := Nat.le_trans Z6 (Nat.le_of_eq W7.size.symm)
  have K7 := K4.wr W7 (Or.inl (List.mem_of_getElem? (i := 0) rfl))
  show own_G _ _ _ _ _ _ _ (T7.setTop (mkF m 55 #[.val (.ref a0), .val (.ref a1), .val (.int p2), .val (.int p3)] []))
  exact own_end X7 (v := none) (fun _ => rfl) (BodyLoose.notSynchronized Bd) (fun fs hr => X7.returnOut hx Bd.returns (hb hby own_d4_55) hr) (by rw [e7]; exact ⟨rfl, N7, K7, F8_0, F8_1, F8_2, F8_3⟩) (by decide) (by decide)
theorem own_d2_0 : decode prog_29_method_2_code 0 = .ok (.aload_n 0, 1) := by decide +kernel
theorem own_d2_1 : decode prog_29_method_2_code 1 = .ok (.invokespecial 7, 3) := by decide +kernel
theorem own_d2_4 : decode prog_29_method_2_code 4 = .ok (.aload_n 0, 1) := by decide +kernel
theorem own_d2_5 : decode prog_29_method_2_code 5 = .ok (.aload_n 1, 1) := by decide +kernel
theorem own_d2_6 : decode prog_29_method_2_code 6 = .ok (.iload_n 2, 1) := by decide +kernel
theorem own_d2_7 : decode prog_29_method_2_code 7 = .ok (.iload_n 3, 1) := by decide +kernel
theorem own_d2_8 : decode prog_29_method_2_code 8 = .ok (.invokevirtual 12, 3) := by decide +kernel
theorem own_pd0 : parseMethodDescriptor "([BII)V" = some ⟨[(.array .byte), .int, .int], none⟩ := by decide +kernel
theorem own_d2_11 : decode prog_29_method_2_code 11 = .ok (.return_, 1) := by decide +kernel
theorem own_ef3 (m : MethodId) (x0 : Addr) (x1 : Addr) (x2 : Int32) (x3 : Int32) : entryFrame m #[(.ref x0), (.ref x1), (.int x2), (.int x3)] 4 = mkF m 0 #[.val (.ref x0), .val (.ref x1), .val (.int x2), .val (.int x3)] [] := by first | (simp [entryFrame, mkF, argsToLocals, Value.category]; done) | rfl
def own_Q3 (Z : State) (a0 : Addr) (a1 : Addr) (p2 : Int32) (p3 : Int32) (F : Nat → Int32) (h0 : Heap) (n0 : Nat) (v : Option Value) (h : Heap) (L : List Loc) : Prop := v = none ∧ Fr n0 L ∧ Keep h0 h [a0] ∧ Exa Z h a0 "com/example/wirelore/wirelore/dissection/ByteReader" ∧ Fld Z h a0 "com/example/wirelore/wirelore/dissection/ByteReader" "input" "[B" (.ref a1) ∧ Fld Z h a0 "com/example/wirelore/wirelore/dissection/ByteReader" "position" "I" (.int p2) ∧ Fld Z h a0 "com/example/wirelore/wirelore/dissection/ByteReader" "limit" "I" (.int p3)
set_option maxRecDepth 65536 in
set_option maxHeartbeats 40000000 in
theorem rm3 (l : Launch) (Z : State) (aw : Array Value) (hw : ∀ d ∈ tables_1, d.before aw Z = true) (ws : List Jvm.Cond) (a0 : Addr) (a1 : Addr) (p2 : Int32) (p3 : Int32) (F : Nat → Int32) (h0 : Heap) (n0 : Nat) (Z0 : n0 ≤ h0.size) (H0_ : Exa Z h0 a0 "com/example/wirelore/wirelore/dissection/ByteReader") (H1_ : Fld Z h0 a0 "com/example/wirelore/wirelore/dissection/ByteReader" "input" "[B" .null) (H2_ : Fld Z h0 a0 "com/example/wirelore/wirelore/dissection/ByteReader" "position" "I" (.int (0 : Int32))) (H3_ : Fld Z h0 a0 "com/example/wirelore/wirelore/dissection/ByteReader" "limit" "I" (.int (0 : Int32))) (H4_ : own_AB Z h0 a1 4 F) (g_a0 : n0 ≤ a0) (ne_a1_a0 : a1 ≠ a0) (h1 : ¬ (p3 < (0 : Int32))) (h2 : ¬ ((4 : Int32) < p3)) :
    MetFree l (⟨"com/example/wirelore/wirelore/dissection/ByteReader", "<init>", "([BII)V"⟩ : MethodName) (head1 (Jvm.Cond.code (⟨"com/example/wirelore/wirelore/dissection/ByteReader", "<init>", "([BII)V"⟩ : MethodName) prog_29_method_2_code 4 none :: ws) ({ frames := 1, cells := 0, slots := 0, locals := 15 } : Room)) (fun a U => a = #[(.ref a0), (.ref a1), (.int p2), (.int p3)] ∧ Z.Warmed39 U.vm ∧ U.heap = h0) (fun _ _ _ _ _ => True) (fun _ U o U' => ∃ v L, o = .returned v ∧ own_Q3 Z a0 a1 p2 p3 F h0 n0 v U'.heap L ∧ FrameEnd U o U' L ({ frames := 1, cells := 0, slots := 0, locals := 15 } : Room).cells ({ frames := 1, cells := 0, slots := 0, locals := 15 } : Room).slots) := by
  refine MetFree.of_bodySF (plainFor_of_name own_pn0) hisR ?_
  intro p e s m args below meth c s₁ Bd hml0 hP hK
  obtain ⟨rfl, hZ, hh⟩ := hP
  have hx := Bd.exec
  have hby := Bd.bytes
  have hml : c.maxLocals = 4 := hml0
  have hown : s.vm.findClass "com/example/wirelore/wirelore/dissection/ByteReader" = some m.cls := findClass_of_methodNamed Bd.named
  have hnm := (name_of_methodNamed Bd.named Bd.method).1
  have X0 : Stand p l e ({ frames := 1, cells := 0, slots := 0, locals := 15 } : Room) s m #[(.ref a0), (.ref a1), (.int p2), (.int p3)] below meth c s₁ [] 0 0 := Stand.of_body Bd
  have e0 : s₁.heap = h0 := by rw [← hh, Bd.state]; rfl
  have N0 := Fr.nil n0
  show own_G p.tables e below s (own_Q3 Z a0 a1 p2 p3 F h0 n0) ({ frames := 1, cells := 0, slots := 0, locals := 15 } : Room).cells ({ frames := 1, cells := 0, slots := 0, locals := 15 } : Room).slots (s₁.setTop (entryFrame m #[(.ref a0), (.ref a1), (.int p2), (.int p3)] 4))
  refine own_by (fun _ k => castTop (own_ef3 m a0 a1 p2 p3) k) ?_
  show own_G _ _ _ _ _ _ _ (s₁.setTop (mkF m 0 #[.val (.ref a0), .val (.ref a1), .val (.int p2), .val (.int p3)] []))
  refine own_by (fun _ k => XS.aloadN X0.here hx rfl (hb hby own_d2_0) rfl rfl k) ?_
  show own_G _ _ _ _ _ _ _ (s₁.setTop (mkF m 1 #[.val (.ref a0), .val (.ref a1), .val (.int p2), .val (.int p3)] [(.ref a0)]))
  obtain ⟨T10, X10, e10, st10⟩ := initO X0 hx hZ hown (hw _ (List.mem_of_getElem? (i := 10) rfl)) (hw _ (List.mem_of_getElem? (i := 11) rfl)) (hw _ (List.mem_of_getElem? (i := 12) rfl)) e0 (g := (mkF m 1 #[.val (.ref a0), .val (.ref a1), .val (.int p2), .val (.int p3)] [(.ref a0)])) rfl (by rw [hml]; rfl) rfl (hb hby own_d2_1) (by decide) (W := 0) (by show 2 * 0 + _ ≤ _; exact Nat.le_of_eq rfl) (by decide)
  refine own_by st10 ?_
  show own_G _ _ _ _ _ _ _ (T10.setTop (mkF m 4 #[.val (.ref a0), .val (.ref a1), .val (.int p2), .val (.int p3)] []))
  refine own_by (fun _ k => XS.aloadN X10.here hx rfl (hb hby own_d2_4) rfl rfl k) ?_
  show own_G _ _ _ _ _ _ _ (T10.setTop (mkF m 5 #[.val (.ref a0), .val (.ref a1), .val (.int p2), .val (.int p3)] [(.ref a0)]))
  refine own_by (fun _ k => XS.aloadN X10.here hx rfl (hb hby own_d2_5) rfl rfl k) ?_
  show own_G _ _ _ _ _ _ _ (T10.setTop (mkF m 6 #[.val (.ref a0), .val (.ref a1), .val (.int p2), .val (.int p3)] [(.ref a1), (.ref a0)]))
  refine own_by (fun _ k => XS.iloadN X10.here hx rfl (hb hby own_d2_6) rfl  k) ?_
  show own_G _ _ _ _ _ _ _ (T10.setTop (mkF m 7 #[.val (.ref a0), .val (.ref a1), .val (.int p2), .val (.int p3)] [(.int p2), (.ref a1), (.ref a0)]))
  refine own_by (fun _ k => XS.iloadN X10.here hx rfl (hb hby own_d2_7) rfl  k) ?_
  show own_G _ _ _ _ _ _ _ (T10.setTop (mkF m 8 #[.val (.ref a0), .val (.ref a1), .val (.int p2), .val (.int p3)] [(.int p3), (.int p2), (.ref a1), (.ref a0)]))
  obtain ⟨cq11, q11, q11'⟩ := H0_.cell
  obtain ⟨_, _, ⟨T11, L11, k11, n11⟩, -, X11, ⟨Lc11, hQ11, l11, y11, z11⟩, st11⟩ := X10.privateBack hx (y := (⟨"com/example/wirelore/wirelore/dissection/ByteReader", "read", "([BII)V"⟩ : MethodName)) hown (mvT hZ (hw _ (List.mem_of_getElem? (i := 13) rfl))) (mvT hZ (hw _ (List.mem_of_getElem? (i := 14) rfl))) (own_selp hZ (hw _ (List.mem_of_getElem? (i := 2) rfl)) (hw _ (List.mem_of_getElem? (i := 15) rfl)) (hw _ (List.mem_of_getElem? (i := 14) rfl)) (by decide)) (Cond.privateMethod_at (mvP hZ (hw _ (List.mem_of_getElem? (i := 15) rfl)) (args := #[]))) (mvT hZ (hw _ (List.mem_of_getElem? (i := 16) rfl))) (by decide) (backOf (W := 0) (rm2 l Z aw hw [] a0 a1 p2 p3 .null (.int (0 : Int32)) (.int (0 : Int32)) F h0 n0 Z0 H0_ H1_ H2_ H3_ H4_ g_a0 ne_a1_a0 h1 h2) hZ (hw _ (List.mem_of_getElem? (i := 16) rfl)) (hw _ (List.mem_of_getElem? (i := 3) rfl)) (by decide) (by decide)) (g := (mkF m 8 #[.val (.ref a0), .val (.ref a1), .val (.int p2), .val (.int p3)] [(.int p3), (.int p2), (.ref a1), (.ref a0)])) rfl (by rw [hml]; rfl) (Steps.refl _) (a := a0) (by rw [e10]; exact q11) q11' (argsL := [(.ref a1), (.int p2), (.int p3)]) (rest := []) (lenOf own_pd0 rfl) rfl (by show 2 * 0 + _ ≤ _; exact Nat.le_of_eq rfl) (hb hby own_d2_8) (fun _ _ => ⟨rfl, e10, (by decide : 0 + 0 ≤ _), (by decide : 0 + 0 ≤ _)⟩)
  dsimp only [Pt.U, Pt.locs, Pt.cells, Pt.slots] at X11 l11 y11 z11 st11 hQ11
  subst l11 y11 z11
  obtain ⟨h11, e11⟩ : ∃ h, T11.heap = h := ⟨_, rfl⟩
  rw [e11] at hQ11
  obtain ⟨rfl, Nq11, K11, G11_0, G11_1, G11_2, G11_3⟩ := hQ11
  have N11 := Fr.app N0 Nq11
  have F12_0 := H0_.keep K11
  have F12_4 := H4_.keep K11 (ninS ne_a1_a0 nin0)
  have Z13 : n0 ≤ h11.size := Nat.le_trans Z0 K11.1
  have Kt11 := (Keep.refl h0 [a0]).trans K11 (allS (Or.inl (List.mem_of_getElem? (i := 0) rfl)) all0)
  refine own_by (fun _ k => st11.trans k) ?_
  show own_G _ _ _ _ _ _ _ (T11.setTop (mkF m 11 #[.val (.ref a0), .val (.ref a1), .val (.int p2), .val (.int p3)] []))
  exact own_end X11 (v := none) (fun _ => rfl) (BodyLoose.notSynchronized Bd) (fun fs hr => X11.returnOut hx Bd.returns (hb hby own_d2_11) hr) (by rw [e11]; exact ⟨rfl, N11, Kt11, G11_0, G11_1, G11_2, G11_3⟩) (by decide) (by decide)
theorem own_d1_0 : decode prog_29_method_1_code 0 = .ok (.aload_n 0, 1) := by decide +kernel
theorem own_d1_1 : decode prog_29_method_1_code 1 = .ok (.aload_n 1, 1) := by decide +kernel
theorem own_d1_2 : decode prog_29_method_1_code 2 = .ok (.iconst 0, 1) := by decide +kernel
theorem own_d1_3 : decode prog_29_method_1_code 3 = .ok (.aload_n 1, 1) := by decide +kernel
theorem own_d1_4 : decode prog_29_method_1_code 4 = .ok (.ifnonnull 7, 3) := by decide +kernel
theorem own_d1_11 : decode prog_29_method_1_code 11 = .ok (.aload_n 1, 1) := by decide +kernel
theorem own_d1_12 : decode prog_29_method_1_code 12 = .ok (.arraylength, 1) := by decide +kernel
theorem own_d1_13 : decode prog_29_method_1_code 13 = .ok (.invokespecial 1, 3) := by decide +kernel
theorem own_d1_16 : decode prog_29_method_1_code 16 = .ok (.return_, 1) := by decide +kernel
theorem own_ef4 (m : MethodId) (x0 : Addr) (x1 : Addr) : entryFrame m #[(.ref x0), (.ref x1)] 2 = mkF m 0 #[.val (.ref x0), .val (.ref x1)] [] := by first | (simp [entryFrame, mkF, argsToLocals, Value.category]; done) | rfl
def own_Q4 (Z : State) (a0 : Addr) (a1 : Addr) (F : Nat → Int32) (h0 : Heap) (n0 : Nat) (v : Option Value) (h : Heap) (L : List Loc) : Prop := v = none ∧ Fr n0 L ∧ Keep h0 h [a0] ∧ Exa Z h a0 "com/example/wirelore/wirelore/dissection/ByteReader" ∧ Fld Z h a0 "com/example/wirelore/wirelore/dissection/ByteReader" "input" "[B" (.ref a1) ∧ Fld Z h a0 "com/example/wirelore/wirelore/dissection/ByteReader" "position" "I" (.int (0 : Int32)) ∧ Fld Z h a0 "com/example/wirelore/wirelore/dissection/ByteReader" "limit" "I" (.int (4 : Int32))
set_option maxRecDepth 65536 in
set_option maxHeartbeats 40000000 in
theorem rm4 (l : Launch) (Z : State) (aw : Array Value) (hw : ∀ d ∈ tables_1, d.before aw Z = true) (ws : List Jvm.Cond) (a0 : Addr) (a1 : Addr) (F : Nat → Int32) (h0 : Heap) (n0 : Nat) (Z0 : n0 ≤ h0.size) (H0_ : Exa Z h0 a0 "com/example/wirelore/wirelore/dissection/ByteReader") (H1_ : Fld Z h0 a0 "com/example/wirelore/wirelore/dissection/ByteReader" "input" "[B" .null) (H2_ : Fld Z h0 a0 "com/example/wirelore/wirelore/dissection/ByteReader" "position" "I" (.int (0 : Int32))) (H3_ : Fld Z h0 a0 "com/example/wirelore/wirelore/dissection/ByteReader" "limit" "I" (.int (0 : Int32))) (H4_ : own_AB Z h0 a1 4 F) (g_a0 : n0 ≤ a0) (ne_a1_a0 : a1 ≠ a0) :
    MetFree l (⟨"com/example/wirelore/wirelore/dissection/ByteReader", "<init>", "([B)V"⟩ : MethodName) (head1 (Jvm.Cond.code (⟨"com/example/wirelore/wirelore/dissection/ByteReader", "<init>", "([B)V"⟩ : MethodName) prog_29_method_1_code 2 none :: ws) ({ frames := 2, cells := 0, slots := 0, locals := 30 } : Room)) (fun a U => a = #[(.ref a0), (.ref a1)] ∧ Z.Warmed39 U.vm ∧ U.heap = h0) (fun _ _ _ _ _ => True) (fun _ U o U' => ∃ v L, o = .returned v ∧ own_Q4 Z a0 a1 F h0 n0 v U'.heap L ∧ FrameEnd U o U' L ({ frames := 2, cells := 0, slots := 0, locals := 30 } : Room).cells ({ frames := 2, cells := 0, slots := 0, locals := 30 } : Room).slots) := by
  refine MetFree.of_bodySF (plainFor_of_name own_pn0) hisR ?_
  intro p e s m args below meth c s₁ Bd hml0 hP hK
  obtain ⟨rfl, hZ, hh⟩ := hP
  have hx := Bd.exec
  have hby := Bd.bytes
  have hml : c.maxLocals = 2 := hml0
  have hown : s.vm.findClass "com/example/wirelore/wirelore/dissection/ByteReader" = some m.cls := findClass_of_methodNamed Bd.named
  have hnm := (name_of_methodNamed Bd.named Bd.method).1
  have X0 : Stand p l e ({ frames := 2, cells := 0, slots := 0, locals := 30 } : Room) s m #[(.ref a0), (.ref a1)] below meth c s₁ [] 0 0 := Stand.of_body Bd
  have e0 : s₁.heap = h0 := by rw [← hh, Bd.state]; rfl
  have N0 := Fr.nil n0
  show own_G p.tables e below s (own_Q4 Z a0 a1 F h0 n0) ({ frames := 2, cells := 0, slots := 0, locals := 30 } : Room).cells ({ frames := 2, cells := 0, slots := 0, locals := 30 } : Room).slots (s₁.setTop (entryFrame m #[(.ref a0), (.ref a1)] 2))
  refine own_by (fun _ k => castTop (own_ef4 m a0 a1) k) ?_
  show own_G _ _ _ _ _ _ _ (s₁.setTop (mkF m 0 #[.val (.ref a0), .val (.ref a1)] []))
  refine own_by (fun _ k => XS.aloadN X0.here hx rfl (hb hby own_d1_0) rfl rfl k) ?_
  show own_G _ _ _ _ _ _ _ (s₁.setTop (mkF m 1 #[.val (.ref a0), .val (.ref a1)] [(.ref a0)]))
  refine own_by (fun _ k => XS.aloadN X0.here hx rfl (hb hby own_d1_1) rfl rfl k) ?_
  show own_G _ _ _ _ _ _ _ (s₁.setTop (mkF m 2 #[.val (.ref a0), .val (.ref a1)] [(.ref a1), (.ref a0)]))
  refine own_by (fun _ k => XS.iconst X0.here hx rfl (hb hby own_d1_2) k) ?_
  show own_G _ _ _ _ _ _ _ (s₁.setTop (mkF m 3 #[.val (.ref a0), .val (.ref a1)] [(.int (0 : Int32)), (.ref a1), (.ref a0)]))
  refine own_by (fun _ k => XS.aloadN X0.here hx rfl (hb hby own_d1_3) rfl rfl k) ?_
  show own_G _ _ _ _ _ _ _ (s₁.setTop (mkF m 4 #[.val (.ref a0), .val (.ref a1)] [(.ref a1), (.int (0 : Int32)), (.ref a1), (.ref a0)]))
  refine own_by (fun _ k => XT.ifnonnullYes X0.here hx rfl (pc0 := 4) (pc' := 11) rfl (hb hby own_d1_4) rfl (by decide) (by decide) k) ?_
  show own_G _ _ _ _ _ _ _ (s₁.setTop (mkF m 11 #[.val (.ref a0), .val (.ref a1)] [(.int (0 : Int32)), (.ref a1), (.ref a0)]))
  refine own_by (fun _ k => XS.aloadN X0.here hx rfl (hb hby own_d1_11) rfl rfl k) ?_
  show own_G _ _ _ _ _ _ _ (s₁.setTop (mkF m 12 #[.val (.ref a0), .val (.ref a1)] [(.ref a1), (.int (0 : Int32)), (.ref a1), (.ref a0)]))
  refine own_by (own_len X0 hx hZ e0 H4_ (z := (4 : Int32)) (by decide) (g := (mkF m 12 #[.val (.ref a0), .val (.ref a1)] [(.ref a1), (.int (0 : Int32)), (.ref a1), (.ref a0)])) rfl rfl (hb hby own_d1_12)) ?_
  show own_G _ _ _ _ _ _ _ (s₁.setTop (mkF m 13 #[.val (.ref a0), .val (.ref a1)] [(.int (4 : Int32)), (.int (0 : Int32)), (.ref a1), (.ref a0)]))
  obtain ⟨_, _, ⟨T14, L14, k14, n14⟩, -, X14, ⟨Lc14, hQ14, l14, y14, z14⟩, st14⟩ := X0.specialBack hx (y := (⟨"com/example/wirelore/wirelore/dissection/ByteReader", "<init>", "([BII)V"⟩ : MethodName)) rfl hown (mvT hZ (hw _ (List.mem_of_getElem? (i := 7) rfl))) (mvT hZ (hw _ (List.mem_of_getElem? (i := 8) rfl))) (mvT hZ (hw _ (List.mem_of_getElem? (i := 9) rfl))) (by decide) (backOf (W := 0) (rm3 l Z aw hw [] a0 a1 (0 : Int32) (4 : Int32) F h0 n0 Z0 H0_ H1_ H2_ H3_ H4_ g_a0 ne_a1_a0 (by decide) (by decide)) hZ (hw _ (List.mem_of_getElem? (i := 9) rfl)) (hw _ (List.mem_of_getElem? (i := 3) rfl)) (by decide) (by decide)) (g := (mkF m 13 #[.val (.ref a0), .val (.ref a1)] [(.int (4 : Int32)), (.int (0 : Int32)), (.ref a1), (.ref a0)])) rfl (by rw [hml]; rfl) (Steps.refl _) (a := a0) (argsL := [(.ref a1), (.int (0 : Int32)), (.int (4 : Int32))]) (rest := []) (lenOf own_pd0 rfl) rfl (by show 2 * 0 + _ ≤ _; exact Nat.le_of_eq rfl) (hb hby own_d1_13) (fun _ _ => ⟨rfl, e0, (by decide : 0 + 0 ≤ _), (by decide : 0 + 0 ≤ _)⟩)
  dsimp only [Pt.U, Pt.locs, Pt.cells, Pt.slots] at X14 l14 y14 z14 st14 hQ14
  subst l14 y14 z14
  obtain ⟨h14, e14⟩ : ∃ h, T14.heap = h := ⟨_, rfl⟩
  rw [e14] at hQ14
  obtain ⟨rfl, Nq14, K14, G14_0, G14_1, G14_2, G14_3⟩ := hQ14
  have N14 := Fr.app N0 Nq14
  have F15_0 := H0_.keep K14
  have F15_4 := H4_.keep K14 (ninS ne_a1_a0 nin0)
  have Z16 : n0 ≤ h14.size := Nat.le_trans Z0 K14.1
  have Kt14 := (Keep.refl h0 [a0]).trans K14 (allS (Or.inl (List.mem_of_getElem? (i := 0) rfl)) all0)
  refine own_by (fun _ k => st14.trans k) ?_
  show own_G _ _ _ _ _ _ _ (T14.setTop (mkF m 16 #[.val (.ref a0), .val (.ref a1)] []))
  exact own_end X14 (v := none) (fun _ => rfl) (BodyLoose.notSynchronized Bd) (fun fs hr => X14.returnOut hx Bd.returns (hb hby own_d1_16) hr) (by rw [e14]; exact ⟨rfl, N14, Kt14, G14_0, G14_1, G14_2, G14_3⟩) (by decide) (by decide)
theorem own_d5_0 : decode prog_29_method_8_code 0 = .ok (.iload_n 1, 1) := by decide +kernel
theorem own_d5_1 : decode prog_29_method_8_code 1 = .ok (.aload_n 0, 1) := by decide +kernel
theorem own_d5_2 : decode prog_29_method_8_code 2 = .ok (.getfield 33, 3) := by decide +kernel
theorem own_d5_5 : decode prog_29_method_8_code 5 = .ok (.if_icmp .ge 21, 3) := by decide +kernel
theorem own_d5_26 : decode prog_29_method_8_code 26 = .ok (.aload_n 0, 1) := by decide +kernel
theorem own_d5_27 : decode prog_29_method_8_code 27 = .ok (.aload_n 0, 1) := by decide +kernel
theorem own_d5_28 : decode prog_29_method_8_code 28 = .ok (.getfield 37, 3) := by decide +kernel
theorem own_d5_31 : decode prog_29_method_8_code 31 = .ok (.iload_n 1, 1) := by decide +kernel
theorem own_d5_32 : decode prog_29_method_8_code 32 = .ok (.invokestatic 41, 3) := by decide +kernel
theorem own_pd1 : parseMethodDescriptor "(II)I" = some ⟨[.int, .int], some .int⟩ := by decide +kernel
theorem own_d5_35 : decode prog_29_method_8_code 35 = .ok (.putfield 37, 3) := by decide +kernel
theorem own_d5_38 : decode prog_29_method_8_code 38 = .ok (.return_, 1) := by decide +kernel
theorem own_ef5 (m : MethodId) (x0 : Addr) (x1 : Int32) : entryFrame m #[(.ref x0), (.int x1)] 2 = mkF m 0 #[.val (.ref x0), .val (.int x1)] [] := by first | (simp [entryFrame, mkF, argsToLocals, Value.category]; done) | rfl
def own_Q5 (Z : State) (a0 : Addr) (p1 : Int32) (ai : Addr) (po : Int32) (li : Int32) (h0 : Heap) (n0 : Nat) (v : Option Value) (h : Heap) (L : List Loc) : Prop := ∃ lm : Int32, v = none ∧ Fr n0 L ∧ Keep h0 h [a0] ∧ lm = (own_min li p1) ∧ Exa Z h a0 "com/example/wirelore/wirelore/dissection/ByteReader" ∧ Fld Z h a0 "com/example/wirelore/wirelore/dissection/ByteReader" "input" "[B" (.ref ai) ∧ Fld Z h a0 "com/example/wirelore/wirelore/dissection/ByteReader" "position" "I" (.int po) ∧ Fld Z h a0 "com/example/wirelore/wirelore/dissection/ByteReader" "limit" "I" (.int lm)
set_option maxRecDepth 65536 in
set_option maxHeartbeats 40000000 in
theorem rm5 (l : Launch) (Z : State) (aw : Array Value) (hw : ∀ d ∈ tables_1, d.before aw Z = true) (ws : List Jvm.Cond) (a0 : Addr) (p1 : Int32) (ai : Addr) (po : Int32) (li : Int32) (h0 : Heap) (n0 : Nat) (Z0 : n0 ≤ h0.size) (H0_ : Exa Z h0 a0 "com/example/wirelore/wirelore/dissection/ByteReader") (H1_ : Fld Z h0 a0 "com/example/wirelore/wirelore/dissection/ByteReader" "input" "[B" (.ref ai)) (H2_ : Fld Z h0 a0 "com/example/wirelore/wirelore/dissection/ByteReader" "position" "I" (.int po)) (H3_ : Fld Z h0 a0 "com/example/wirelore/wirelore/dissection/ByteReader" "limit" "I" (.int li)) (g_a0 : n0 ≤ a0) (hp : ¬ (p1 < po)) :
    MetFree l (⟨"com/example/wirelore/wirelore/dissection/ByteReader", "narrowTo", "(I)V"⟩ : MethodName) (head1 (Jvm.Cond.code (⟨"com/example/wirelore/wirelore/dissection/ByteReader", "narrowTo", "(I)V"⟩ : MethodName) prog_29_method_8_code 2 none :: ws) ({ frames := 1, cells := 0, slots := 0, locals := 14 } : Room)) (fun a U => a = #[(.ref a0), (.int p1)] ∧ Z.Warmed39 U.vm ∧ U.heap = h0) (fun _ _ _ _ _ => True) (fun _ U o U' => ∃ v L, o = .returned v ∧ own_Q5 Z a0 p1 ai po li h0 n0 v U'.heap L ∧ FrameEnd U o U' L ({ frames := 1, cells := 0, slots := 0, locals := 14 } : Room).cells ({ frames := 1, cells := 0, slots := 0, locals := 14 } : Room).slots) := by
  refine MetFree.of_bodySF (plainFor_of_name own_pn0) hisR ?_
  intro p e s m args below meth c s₁ Bd hml0 hP hK
  obtain ⟨rfl, hZ, hh⟩ := hP
  have hx := Bd.exec
  have hby := Bd.bytes
  have hml : c.maxLocals = 2 := hml0
  have hown : s.vm.findClass "com/example/wirelore/wirelore/dissection/ByteReader" = some m.cls := findClass_of_methodNamed Bd.named
  have hnm := (name_of_methodNamed Bd.named Bd.method).1
  have X0 : Stand p l e ({ frames := 1, cells := 0, slots := 0, locals := 14 } : Room) s m #[(.ref a0), (.int p1)] below meth c s₁ [] 0 0 := Stand.of_body Bd
  have e0 : s₁.heap = h0 := by rw [← hh, Bd.state]; rfl
  have N0 := Fr.nil n0
  show own_G p.tables e below s (own_Q5 Z a0 p1 ai po li h0 n0) ({ frames := 1, cells := 0, slots := 0, locals := 14 } : Room).cells ({ frames := 1, cells := 0, slots := 0, locals := 14 } : Room).slots (s₁.setTop (entryFrame m #[(.ref a0), (.int p1)] 2))
  refine own_by (fun _ k => castTop (own_ef5 m a0 p1) k) ?_
  show own_G _ _ _ _ _ _ _ (s₁.setTop (mkF m 0 #[.val (.ref a0), .val (.int p1)] []))
  refine own_by (fun _ k => XS.iloadN X0.here hx rfl (hb hby own_d5_0) rfl  k) ?_
  show own_G _ _ _ _ _ _ _ (s₁.setTop (mkF m 1 #[.val (.ref a0), .val (.int p1)] [(.int p1)]))
  refine own_by (fun _ k => XS.aloadN X0.here hx rfl (hb hby own_d5_1) rfl rfl k) ?_
  show own_G _ _ _ _ _ _ _ (s₁.setTop (mkF m 2 #[.val (.ref a0), .val (.int p1)] [(.ref a0), (.int p1)]))
  obtain ⟨T17, X17, e17, st17⟩ := getF X0 hx hZ hown (host := "") (Or.inl (hw _ (List.mem_of_getElem? (i := 19) rfl))) Via.refl e0 H2_ (g := (mkF m 2 #[.val (.ref a0), .val (.int p1)] [(.ref a0), (.int p1)])) rfl rfl (hb hby own_d5_2)
  refine own_by st17 ?_
  show own_G _ _ _ _ _ _ _ (T17.setTop (mkF m 5 #[.val (.ref a0), .val (.int p1)] [(.int po), (.int p1)]))
  have hc5 : ¬ (p1 < po) := hp
  refine own_by (fun _ k => XS.icmpYes X17.here hx rfl (pc0 := 5) (pc' := 26) rfl (hb hby own_d5_5) rfl (XT.ii_ge_t hc5) (by decide) (by decide) k) ?_
  show own_G _ _ _ _ _ _ _ (T17.setTop (mkF m 26 #[.val (.ref a0), .val (.int p1)] []))
  refine own_by (fun _ k => XS.aloadN X17.here hx rfl (hb hby own_d5_26) rfl rfl k) ?_
  show own_G _ _ _ _ _ _ _ (T17.setTop (mkF m 27 #[.val (.ref a0), .val (.int p1)] [(.ref a0)]))
  refine own_by (fun _ k => XS.aloadN X17.here hx rfl (hb hby own_d5_27) rfl rfl k) ?_
  show own_G _ _ _ _ _ _ _ (T17.setTop (mkF m 28 #[.val (.ref a0), .val (.int p1)] [(.ref a0), (.ref a0)]))
  obtain ⟨T18, X18, e18, st18⟩ := getF X17 hx hZ hown (host := "") (Or.inl (hw _ (List.mem_of_getElem? (i := 21) rfl))) Via.refl e17 H3_ (g := (mkF m 28 #[.val (.ref a0), .val (.int p1)] [(.ref a0), (.ref a0)])) rfl rfl (hb hby own_d5_28)
  refine own_by st18 ?_
  show own_G _ _ _ _ _ _ _ (T18.setTop (mkF m 31 #[.val (.ref a0), .val (.int p1)] [(.int li), (.ref a0)]))
  refine own_by (fun _ k => XS.iloadN X18.here hx rfl (hb hby own_d5_31) rfl  k) ?_
  show own_G _ _ _ _ _ _ _ (T18.setTop (mkF m 32 #[.val (.ref a0), .val (.int p1)] [(.int p1), (.int li), (.ref a0)]))
  obtain ⟨_, _, ⟨T19, L19, k19, n19⟩, -, X19, ⟨Lc19, hQ19, l19, y19, z19⟩, st19⟩ := Jvm.LawKit.callS X18 hx (y := (⟨"java/lang/Math", "min", "(II)I"⟩ : MethodName)) hown (mvT hZ (hw _ (List.mem_of_getElem? (i := 28) rfl))) (mvT hZ (hw _ (List.mem_of_getElem? (i := 29) rfl))) (mvT hZ (hw _ (List.mem_of_getElem? (i := 30) rfl))) (mvT hZ (hw _ (List.mem_of_getElem? (i := 31) rfl))) (by decide) (backOf (W := 1) (rm1 l Z aw hw [] li p1 h0 n0 Z0 ) hZ (hw _ (List.mem_of_getElem? (i := 31) rfl)) (hw _ (List.mem_of_getElem? (i := 30) rfl)) (by decide) (by decide)) (g := (mkF m 32 #[.val (.ref a0), .val (.int p1)] [(.int p1), (.int li), (.ref a0)])) rfl (by rw [hml]; rfl) (argsL := [(.int li), (.int p1)]) (rest := [(.ref a0)]) (lenOf own_pd1 rfl) rfl (by show 2 * 0 + _ ≤ _; exact Nat.le_of_eq rfl) (hb hby own_d5_32) (fun _ _ => ⟨rfl, e18, (by decide : 0 + 0 ≤ _), (by decide : 0 + 0 ≤ _)⟩)
  dsimp only [Pt.U, Pt.locs, Pt.cells, Pt.slots] at X19 l19 y19 z19 st19 hQ19
  subst l19 y19 z19
  obtain ⟨rfl, Nq19, e19⟩ := hQ19
  have N19 := Fr.app N0 Nq19
  refine own_by (fun _ k => st19 _ k) ?_
  show own_G _ _ _ _ _ _ _ (T19.setTop (mkF m 35 #[.val (.ref a0), .val (.int p1)] [(.int (own_min li p1)), (.ref a0)]))
  obtain ⟨T20, h20, X20, e20, W20, st20⟩ := putF X19 hx hZ hown (host := "") (Or.inl (hw _ (List.mem_of_getElem? (i := 21) rfl))) Via.refl e19 H3_ H0_ (Or.inl (hw _ (List.mem_of_getElem? (i := 22) rfl))) (hw _ (List.mem_of_getElem? (i := 2) rfl)) (ty := .int) (by decide) rfl rfl (g := (mkF m 35 #[.val (.ref a0), .val (.int p1)] [(.int (own_min li p1)), (.ref a0)])) rfl rfl (hb hby own_d5_35)
  refine own_by st20 ?_
  have F21_0 := H0_.wr W20
  have F21_1 := H1_.other W20 (Or.inr (slot_ne (Or.inl (hw _ (List.mem_of_getElem? (i := 18) rfl))) (Or.inl (hw _ (List.mem_of_getElem? (i := 22) rfl))) (by decide) (t := (.array .byte)) (t' := .int) (by decide) (by decide)))
  have F21_2 := H2_.other W20 (Or.inr (slot_ne (Or.inl (hw _ (List.mem_of_getElem? (i := 20) rfl))) (Or.inl (hw _ (List.mem_of_getElem? (i := 22) rfl))) (by decide) (t := .int) (t' := .int) (by decide) (by decide)))
  have F21_3 := H3_.same W20
  have N20 := Fr.snoc X20 N19 g_a0
  have Z22 : n0 ≤ h20.size := Nat.le_trans Z0 (Nat.le_of_eq W20.size.symm)
  have K20 := (Keep.refl h0 [a0]).wr W20 (Or.inl (List.mem_of_getElem? (i := 0) rfl))
  show own_G _ _ _ _ _ _ _ (T20.setTop (mkF m 38 #[.val (.ref a0), .val (.int p1)] []))
  exact own_end X20 (v := none) (fun _ => rfl) (BodyLoose.notSynchronized Bd) (fun fs hr => X20.returnOut hx Bd.returns (hb hby own_d5_38) hr) (by rw [e20]; exact ⟨(own_min li p1), rfl, N20, K20, rfl, F21_0, F21_1, F21_2, F21_3⟩) (by decide) (by decide)
theorem own_d9_0 : decode prog_29_method_7_code 0 = .ok (.aload_n 0, 1) := by decide +kernel
theorem own_d9_1 : decode prog_29_method_7_code 1 = .ok (.getfield 37, 3) := by decide +kernel
theorem own_d9_4 : decode prog_29_method_7_code 4 = .ok (.aload_n 0, 1) := by decide +kernel
theorem own_d9_5 : decode prog_29_method_7_code 5 = .ok (.getfield 33, 3) := by decide +kernel
theorem own_d9_8 : decode prog_29_method_7_code 8 = .ok (.isub, 1) := by decide +kernel
theorem own_d9_9 : decode prog_29_method_7_code 9 = .ok (.ireturn, 1) := by decide +kernel
theorem own_ef6 (m : MethodId) (x0 : Addr) : entryFrame m #[(.ref x0)] 1 = mkF m 0 #[.val (.ref x0)] [] := by first | (simp [entryFrame, mkF, argsToLocals, Value.category]; done) | rfl
def own_Q6 (Z : State) (a0 : Addr) (x0 : Int32) (x1 : Int32) (h0 : Heap) (n0 : Nat) (v : Option Value) (h : Heap) (L : List Loc) : Prop := v = some (.int (x0 - x1)) ∧ Fr n0 L ∧ h = h0
set_option maxRecDepth 65536 in
set_option maxHeartbeats 40000000 in
theorem rm6 (l : Launch) (Z : State) (aw : Array Value) (hw : ∀ d ∈ tables_1, d.before aw Z = true) (ws : List Jvm.Cond) (a0 : Addr) (x0 : Int32) (x1 : Int32) (h0 : Heap) (n0 : Nat) (Z0 : n0 ≤ h0.size) (F_a0_limit : Fld Z h0 a0 "com/example/wirelore/wirelore/dissection/ByteReader" "limit" "I" (.int x0)) (F_a0_position : Fld Z h0 a0 "com/example/wirelore/wirelore/dissection/ByteReader" "position" "I" (.int x1)) :
    MetFree l (⟨"com/example/wirelore/wirelore/dissection/ByteReader", "remaining", "()I"⟩ : MethodName) (head1 (Jvm.Cond.code (⟨"com/example/wirelore/wirelore/dissection/ByteReader", "remaining", "()I"⟩ : MethodName) prog_29_method_7_code 1 (some .int) :: ws) ({ frames := 0, cells := 0, slots := 0, locals := 0 } : Room)) (fun a U => a = #[(.ref a0)] ∧ Z.Warmed39 U.vm ∧ U.heap = h0) (fun _ _ _ _ _ => True) (fun _ U o U' => ∃ v L, o = .returned v ∧ own_Q6 Z a0 x0 x1 h0 n0 v U'.heap L ∧ FrameEnd U o U' L ({ frames := 0, cells := 0, slots := 0, locals := 0 } : Room).cells ({ frames := 0, cells := 0, slots := 0, locals := 0 } : Room).slots) := by
  refine MetFree.of_bodySF (plainFor_of_name own_pn0) hisR ?_
  intro p e s m args below meth c s₁ Bd hml0 hP hK
  obtain ⟨rfl, hZ, hh⟩ := hP
  have hx := Bd.exec
  have hby := Bd.bytes
  have hml : c.maxLocals = 1 := hml0
  have hown : s.vm.findClass "com/example/wirelore/wirelore/dissection/ByteReader" = some m.cls := findClass_of_methodNamed Bd.named
  have hnm := (name_of_methodNamed Bd.named Bd.method).1
  have X0 : Stand p l e ({ frames := 0, cells := 0, slots := 0, locals := 0 } : Room) s m #[(.ref a0)] below meth c s₁ [] 0 0 := Stand.of_body Bd
  have e0 : s₁.heap = h0 := by rw [← hh, Bd.state]; rfl
  have N0 := Fr.nil n0
  show own_G p.tables e below s (own_Q6 Z a0 x0 x1 h0 n0) ({ frames := 0, cells := 0, slots := 0, locals := 0 } : Room).cells ({ frames := 0, cells := 0, slots := 0, locals := 0 } : Room).slots (s₁.setTop (entryFrame m #[(.ref a0)] 1))
  refine own_by (fun _ k => castTop (own_ef6 m a0) k) ?_
  show own_G _ _ _ _ _ _ _ (s₁.setTop (mkF m 0 #[.val (.ref a0)] []))
  refine own_by (fun _ k => XS.aloadN X0.here hx rfl (hb hby own_d9_0) rfl rfl k) ?_
  show own_G _ _ _ _ _ _ _ (s₁.setTop (mkF m 1 #[.val (.ref a0)] [(.ref a0)]))
  obtain ⟨T23, X23, e23, st23⟩ := getF X0 hx hZ hown (host := "") (Or.inl (hw _ (List.mem_of_getElem? (i := 21) rfl))) Via.refl e0 F_a0_limit (g := (mkF m 1 #[.val (.ref a0)] [(.ref a0)])) rfl rfl (hb hby own_d9_1)
  refine own_by st23 ?_
  show own_G _ _ _ _ _ _ _ (T23.setTop (mkF m 4 #[.val (.ref a0)] [(.int x0)]))
  refine own_by (fun _ k => XS.aloadN X23.here hx rfl (hb hby own_d9_4) rfl rfl k) ?_
  show own_G _ _ _ _ _ _ _ (T23.setTop (mkF m 5 #[.val (.ref a0)] [(.ref a0), (.int x0)]))
  obtain ⟨T24, X24, e24, st24⟩ := getF X23 hx hZ hown (host := "") (Or.inl (hw _ (List.mem_of_getElem? (i := 19) rfl))) Via.refl e23 F_a0_position (g := (mkF m 5 #[.val (.ref a0)] [(.ref a0), (.int x0)])) rfl rfl (hb hby own_d9_5)
  refine own_by st24 ?_
  show own_G _ _ _ _ _ _ _ (T24.setTop (mkF m 8 #[.val (.ref a0)] [(.int x1), (.int x0)]))
  refine own_by (fun _ k => XS.isub X24.here hx rfl (hb hby own_d9_8) rfl k) ?_
  show own_G _ _ _ _ _ _ _ (T24.setTop (mkF m 9 #[.val (.ref a0)] [(.int (x0 - x1))]))
  exact own_end X24 (v := some (.int (x0 - x1))) (fun h => by rw [Bd.returns] at h; cases h) (BodyLoose.notSynchronized Bd) (fun fs hr => retI X24 hx Bd.returns (hb hby own_d9_9) hr) (by rw [e24]; exact ⟨rfl, N0, rfl⟩) (by decide) (by decide)
theorem own_d8_0 : decode prog_29_method_10_code 0 = .ok (.iload_n 1, 1) := by decide +kernel
theorem own_d8_1 : decode prog_29_method_10_code 1 = .ok (.ifCond .ge 17, 3) := by decide +kernel
theorem own_d8_18 : decode prog_29_method_10_code 18 = .ok (.aload_n 0, 1) := by decide +kernel
theorem own_d8_19 : decode prog_29_method_10_code 19 = .ok (.getfield 33, 3) := by decide +kernel
theorem own_d8_22 : decode prog_29_method_10_code 22 = .ok (.iload_n 1, 1) := by decide +kernel
theorem own_d8_23 : decode prog_29_method_10_code 23 = .ok (.aload_n 0, 1) := by decide +kernel
theorem own_d8_24 : decode prog_29_method_10_code 24 = .ok (.invokevirtual 54, 3) := by decide +kernel
theorem own_pd2 : parseMethodDescriptor "()I" = some ⟨[], some .int⟩ := by decide +kernel
theorem own_d8_27 : decode prog_29_method_10_code 27 = .ok (.invokestatic 41, 3) := by decide +kernel
theorem own_d8_30 : decode prog_29_method_10_code 30 = .ok (.iadd, 1) := by decide +kernel
theorem own_d8_31 : decode prog_29_method_10_code 31 = .ok (.istore_n 3, 1) := by decide +kernel
theorem own_d8_32 : decode prog_29_method_10_code 32 = .ok (.aload_n 2, 1) := by decide +kernel
theorem own_d8_33 : decode prog_29_method_10_code 33 = .ok (.aload_n 0, 1) := by decide +kernel
theorem own_d8_34 : decode prog_29_method_10_code 34 = .ok (.getfield 29, 3) := by decide +kernel
theorem own_d8_37 : decode prog_29_method_10_code 37 = .ok (.aload_n 0, 1) := by decide +kernel
theorem own_d8_38 : decode prog_29_method_10_code 38 = .ok (.getfield 33, 3) := by decide +kernel
theorem own_d8_41 : decode prog_29_method_10_code 41 = .ok (.iload_n 3, 1) := by decide +kernel
theorem own_d8_42 : decode prog_29_method_10_code 42 = .ok (.invokevirtual 12, 3) := by decide +kernel
theorem own_d8_45 : decode prog_29_method_10_code 45 = .ok (.aload_n 0, 1) := by decide +kernel
theorem own_d8_46 : decode prog_29_method_10_code 46 = .ok (.iload_n 3, 1) := by decide +kernel
theorem own_d8_47 : decode prog_29_method_10_code 47 = .ok (.putfield 33, 3) := by decide +kernel
theorem own_d8_50 : decode prog_29_method_10_code 50 = .ok (.return_, 1) := by decide +kernel
theorem own_ef7 (m : MethodId) (x0 : Addr) (x1 : Int32) (x2 : Addr) : entryFrame m #[(.ref x0), (.int x1), (.ref x2)] 4 = mkF m 0 #[.val (.ref x0), .val (.int x1), .val (.ref x2), .unset] [] := by first | (simp [entryFrame, mkF, argsToLocals, Value.category]; done) | rfl
def own_Q7 (Z : State) (a0 : Addr) (p1 : Int32) (a2 : Addr) (ai : Addr) (po : Int32) (li : Int32) (u0 : Value) (u1 : Value) (u2 : Value) (F : Nat → Int32) (h0 : Heap) (n0 : Nat) (v : Option Value) (h : Heap) (L : List Loc) : Prop := ∃ en : Int32, v = none ∧ Fr n0 L ∧ Keep h0 h [a0, a2] ∧ en = (po + (own_min p1 (li - po))) ∧ Exa Z h a0 "com/example/wirelore/wirelore/dissection/ByteReader" ∧ Fld Z h a0 "com/example/wirelore/wirelore/dissection/ByteReader" "input" "[B" (.ref ai) ∧ Fld Z h a0 "com/example/wirelore/wirelore/dissection/ByteReader" "position" "I" (.int en) ∧ Fld Z h a0 "com/example/wirelore/wirelore/dissection/ByteReader" "limit" "I" (.int li)
set_option maxRecDepth 65536 in
set_option maxHeartbeats 40000000 in
theorem rm7 (l : Launch) (Z : State) (aw : Array Value) (hw : ∀ d ∈ tables_1, d.before aw Z = true) (ws : List Jvm.Cond) (a0 : Addr) (p1 : Int32) (a2 : Addr) (ai : Addr) (po : Int32) (li : Int32) (u0 : Value) (u1 : Value) (u2 : Value) (F : Nat → Int32) (h0 : Heap) (n0 : Nat) (Z0 : n0 ≤ h0.size) (H0_ : Exa Z h0 a0 "com/example/wirelore/wirelore/dissection/ByteReader") (H1_ : Fld Z h0 a0 "com/example/wirelore/wirelore/dissection/ByteReader" "input" "[B" (.ref ai)) (H2_ : Fld Z h0 a0 "com/example/wirelore/wirelore/dissection/ByteReader" "position" "I" (.int po)) (H3_ : Fld Z h0 a0 "com/example/wirelore/wirelore/dissection/ByteReader" "limit" "I" (.int li)) (H4_ : Exa Z h0 a2 "com/example/wirelore/wirelore/dissection/ByteReader") (H5_ : Fld Z h0 a2 "com/example/wirelore/wirelore/dissection/ByteReader" "input" "[B" u0) (H6_ : Fld Z h0 a2 "com/example/wirelore/wirelore/dissection/ByteReader" "position" "I" u1) (H7_ : Fld Z h0 a2 "com/example/wirelore/wirelore/dissection/ByteReader" "limit" "I" u2) (H8_ : own_AB Z h0 ai 4 F) (g_a0 : n0 ≤ a0) (g_a2 : n0 ≤ a2) (ne_a0_a2 : a0 ≠ a2) (ne_ai_a0 : ai ≠ a0) (ne_ai_a2 : ai ≠ a2) (hp : ¬ (p1 < (0 : Int32))) (hen0 : ¬ ((po + (own_min p1 (li - po))) < (0 : Int32))) (hen4 : ¬ ((4 : Int32) < (po + (own_min p1 (li - po))))) :
    MetFree l (⟨"com/example/wirelore/wirelore/dissection/ByteReader", "split", "(ILcom/example/wirelore/wirelore/dissection/ByteReader;)V"⟩ : MethodName) (head1 (Jvm.Cond.code (⟨"com/example/wirelore/wirelore/dissection/ByteReader", "split", "(ILcom/example/wirelore/wirelore/dissection/ByteReader;)V"⟩ : MethodName) prog_29_method_10_code 4 none :: ws) ({ frames := 1, cells := 0, slots := 0, locals := 15 } : Room)) (fun a U => a = #[(.ref a0), (.int p1), (.ref a2)] ∧ Z.Warmed39 U.vm ∧ U.heap = h0) (fun _ _ _ _ _ => True) (fun _ U o U' => ∃ v L, o = .returned v ∧ own_Q7 Z a0 p1 a2 ai po li u0 u1 u2 F h0 n0 v U'.heap L ∧ FrameEnd U o U' L ({ frames := 1, cells := 0, slots := 0, locals := 15 } : Room).cells ({ frames := 1, cells := 0, slots := 0, locals := 15 } : Room).slots) := by
  refine MetFree.of_bodySF (plainFor_of_name own_pn0) hisR ?_
  intro p e s m args below meth c s₁ Bd hml0 hP hK
  obtain ⟨rfl, hZ, hh⟩ := hP
  have hx := Bd.exec
  have hby := Bd.bytes
  have hml : c.maxLocals = 4 := hml0
  have hown : s.vm.findClass "com/example/wirelore/wirelore/dissection/ByteReader" = some m.cls := findClass_of_methodNamed Bd.named
  have hnm := (name_of_methodNamed Bd.named Bd.method).1
  have X0 : Stand p l e ({ frames := 1, cells := 0, slots := 0, locals := 15 } : Room) s m #[(.ref a0), (.int p1), (.ref a2)] below meth c s₁ [] 0 0 := Stand.of_body Bd
  have e0 : s₁.heap = h0 := by rw [← hh, Bd.state]; rfl
  have N0 := Fr.nil n0
  show own_G p.tables e below s (own_Q7 Z a0 p1 a2 ai po li u0 u1 u2 F h0 n0) ({ frames := 1, cells := 0, slots := 0, locals := 15 } : Room).cells ({ frames := 1, cells := 0, slots := 0, locals := 15 } : Room).slots (s₁.setTop (entryFrame m #[(.ref a0), (.int p1), (.ref a2)] 4))
  refine own_by (fun _ k => castTop (own_ef7 m a0 p1 a2) k) ?_
  show own_G _ _ _ _ _ _ _ (s₁.setTop (mkF m 0 #[.val (.ref a0), .val (.int p1), .val (.ref a2), .unset] []))
  refine own_by (fun _ k => XS.iloadN X0.here hx rfl (hb hby own_d8_0) rfl  k) ?_
  show own_G _ _ _ _ _ _ _ (s₁.setTop (mkF m 1 #[.val (.ref a0), .val (.int p1), .val (.ref a2), .unset] [(.int p1)]))
  have hc1 : ¬ (p1 < (0 : Int32)) := hp
  refine own_by (fun _ k => XS.ifYes X0.here hx rfl (pc0 := 1) (pc' := 18) rfl (hb hby own_d8_1) rfl (XT.i0_ge_t hc1) (by decide) (by decide) k) ?_
  show own_G _ _ _ _ _ _ _ (s₁.setTop (mkF m 18 #[.val (.ref a0), .val (.int p1), .val (.ref a2), .unset] []))
  refine own_by (fun _ k => XS.aloadN X0.here hx rfl (hb hby own_d8_18) rfl rfl k) ?_
  show own_G _ _ _ _ _ _ _ (s₁.setTop (mkF m 19 #[.val (.ref a0), .val (.int p1), .val (.ref a2), .unset] [(.ref a0)]))
  obtain ⟨T25, X25, e25, st25⟩ := getF X0 hx hZ hown (host := "") (Or.inl (hw _ (List.mem_of_getElem? (i := 19) rfl))) Via.refl e0 H2_ (g := (mkF m 19 #[.val (.ref a0), .val (.int p1), .val (.ref a2), .unset] [(.ref a0)])) rfl rfl (hb hby own_d8_19)
  refine own_by st25 ?_
  show own_G _ _ _ _ _ _ _ (T25.setTop (mkF m 22 #[.val (.ref a0), .val (.int p1), .val (.ref a2), .unset] [(.int po)]))
  refine own_by (fun _ k => XS.iloadN X25.here hx rfl (hb hby own_d8_22) rfl  k) ?_
  show own_G _ _ _ _ _ _ _ (T25.setTop (mkF m 23 #[.val (.ref a0), .val (.int p1), .val (.ref a2), .unset] [(.int p1), (.int po)]))
  refine own_by (fun _ k => XS.aloadN X25.here hx rfl (hb hby own_d8_23) rfl rfl k) ?_
  show own_G _ _ _ _ _ _ _ (T25.setTop (mkF m 24 #[.val (.ref a0), .val (.int p1), .val (.ref a2), .unset] [(.ref a0), (.int p1), (.int po)]))
  obtain ⟨cq26, kq26, q26a, q26b, q26c⟩ := isOf hZ e25 H0_
  obtain ⟨_, _, ⟨T26, L26, k26, n26⟩, -, X26, ⟨Lc26, hQ26, l26, y26, z26⟩, st26⟩ := X25.virtualBack hx (y := (⟨"com/example/wirelore/wirelore/dissection/ByteReader", "remaining", "()I"⟩ : MethodName)) (z := (⟨"com/example/wirelore/wirelore/dissection/ByteReader", "remaining", "()I"⟩ : MethodName)) hown (mvT hZ (hw _ (List.mem_of_getElem? (i := 43) rfl))) (mvT hZ (hw _ (List.mem_of_getElem? (i := 44) rfl))) (notFace_of_selects (args := #[]) (mvT hZ (hw _ (List.mem_of_getElem? (i := 46) rfl)))) (mvT hZ (hw _ (List.mem_of_getElem? (i := 46) rfl))) (mvT hZ (hw _ (List.mem_of_getElem? (i := 45) rfl))) (by decide) (backOf (W := 2) (rm6 l Z aw hw [] a0 li po h0 n0 Z0 H3_ H2_) hZ (hw _ (List.mem_of_getElem? (i := 47) rfl)) (hw _ (List.mem_of_getElem? (i := 3) rfl)) (by decide) (by decide)) q26a q26c (g := (mkF m 24 #[.val (.ref a0), .val (.int p1), .val (.ref a2), .unset] [(.ref a0), (.int p1), (.int po)])) rfl (by rw [hml]; rfl) (Steps.refl _) (argsL := []) (rest := [(.int p1), (.int po)]) (lenOf own_pd2 rfl) rfl (by show 2 * 0 + _ ≤ _; exact Nat.le_of_eq rfl) (hb hby own_d8_24) (fun _ _ => ⟨rfl, e25, (by decide : 0 + 0 ≤ _), (by decide : 0 + 0 ≤ _)⟩)
  dsimp only [Pt.U, Pt.locs, Pt.cells, Pt.slots] at X26 l26 y26 z26 st26 hQ26
  subst l26 y26 z26
  obtain ⟨rfl, Nq26, e26⟩ := hQ26
  have N26 := Fr.app N0 Nq26
  refine own_by (fun _ k => st26.trans k) ?_
  show own_G _ _ _ _ _ _ _ (T26.setTop (mkF m 27 #[.val (.ref a0), .val (.int p1), .val (.ref a2), .unset] [(.int (li - po)), (.int p1), (.int po)]))
  obtain ⟨_, _, ⟨T27, L27, k27, n27⟩, -, X27, ⟨Lc27, hQ27, l27, y27, z27⟩, st27⟩ := Jvm.LawKit.callS X26 hx (y := (⟨"java/lang/Math", "min", "(II)I"⟩ : MethodName)) hown (mvT hZ (hw _ (List.mem_of_getElem? (i := 28) rfl))) (mvT hZ (hw _ (List.mem_of_getElem? (i := 29) rfl))) (mvT hZ (hw _ (List.mem_of_getElem? (i := 30) rfl))) (mvT hZ (hw _ (List.mem_of_getElem? (i := 31) rfl))) (by decide) (backOf (W := 1) (rm1 l Z aw hw [] p1 (li - po) h0 n0 Z0 ) hZ (hw _ (List.mem_of_getElem? (i := 31) rfl)) (hw _ (List.mem_of_getElem? (i := 30) rfl)) (by decide) (by decide)) (g := (mkF m 27 #[.val (.ref a0), .val (.int p1), .val (.ref a2), .unset] [(.int (li - po)), (.int p1), (.int po)])) rfl (by rw [hml]; rfl) (argsL := [(.int p1), (.int (li - po))]) (rest := [(.int po)]) (lenOf own_pd1 rfl) rfl (by show 2 * 0 + _ ≤ _; exact Nat.le_of_eq rfl) (hb hby own_d8_27) (fun _ _ => ⟨rfl, e26, (by decide : 0 + 0 ≤ _), (by decide : 0 + 0 ≤ _)⟩)
  dsimp only [Pt.U, Pt.locs, Pt.cells, Pt.slots] at X27 l27 y27 z27 st27 hQ27
  subst l27 y27 z27
  obtain ⟨rfl, Nq27, e27⟩ := hQ27
  have N27 := Fr.app N26 Nq27
  refine own_by (fun _ k => st27 _ k) ?_
  show own_G _ _ _ _ _ _ _ (T27.setTop (mkF m 30 #[.val (.ref a0), .val (.int p1), .val (.ref a2), .unset] [(.int (own_min p1 (li - po))), (.int po)]))
  refine own_by (fun _ k => XS.iadd X27.here hx rfl (hb hby own_d8_30) rfl k) ?_
  show own_G _ _ _ _ _ _ _ (T27.setTop (mkF m 31 #[.val (.ref a0), .val (.int p1), .val (.ref a2), .unset] [(.int (po + (own_min p1 (li - po))))]))
  refine own_by (fun _ k => XS.istoreN X27.here hx rfl (hb hby own_d8_31) rfl (l' := #[.val (.ref a0), .val (.int p1), .val (.ref a2), .val (.int (po + (own_min p1 (li - po))))]) rfl k) ?_
  show own_G _ _ _ _ _ _ _ (T27.setTop (mkF m 32 #[.val (.ref a0), .val (.int p1), .val (.ref a2), .val (.int (po + (own_min p1 (li - po))))] []))
  refine own_by (fun _ k => XS.aloadN X27.here hx rfl (hb hby own_d8_32) rfl rfl k) ?_
  show own_G _ _ _ _ _ _ _ (T27.setTop (mkF m 33 #[.val (.ref a0), .val (.int p1), .val (.ref a2), .val (.int (po + (own_min p1 (li - po))))] [(.ref a2)]))
  refine own_by (fun _ k => XS.aloadN X27.here hx rfl (hb hby own_d8_33) rfl rfl k) ?_
  show own_G _ _ _ _ _ _ _ (T27.setTop (mkF m 34 #[.val (.ref a0), .val (.int p1), .val (.ref a2), .val (.int (po + (own_min p1 (li - po))))] [(.ref a0), (.ref a2)]))
  obtain ⟨T28, X28, e28, st28⟩ := getF X27 hx hZ hown (host := "") (Or.inl (hw _ (List.mem_of_getElem? (i := 17) rfl))) Via.refl e27 H1_ (g := (mkF m 34 #[.val (.ref a0), .val (.int p1), .val (.ref a2), .val (.int (po + (own_min p1 (li - po))))] [(.ref a0), (.ref a2)])) rfl rfl (hb hby own_d8_34)
  refine own_by st28 ?_
  show own_G _ _ _ _ _ _ _ (T28.setTop (mkF m 37 #[.val (.ref a0), .val (.int p1), .val (.ref a2), .val (.int (po + (own_min p1 (li - po))))] [(.ref ai), (.ref a2)]))
  refine own_by (fun _ k => XS.aloadN X28.here hx rfl (hb hby own_d8_37) rfl rfl k) ?_
  show own_G _ _ _ _ _ _ _ (T28.setTop (mkF m 38 #[.val (.ref a0), .val (.int p1), .val (.ref a2), .val (.int (po + (own_min p1 (li - po))))] [(.ref a0), (.ref ai), (.ref a2)]))
  obtain ⟨T29, X29, e29, st29⟩ := getF X28 hx hZ hown (host := "") (Or.inl (hw _ (List.mem_of_getElem? (i := 19) rfl))) Via.refl e28 H2_ (g := (mkF m 38 #[.val (.ref a0), .val (.int p1), .val (.ref a2), .val (.int (po + (own_min p1 (li - po))))] [(.ref a0), (.ref ai), (.ref a2)])) rfl rfl (hb hby own_d8_38)
  refine own_by st29 ?_
  show own_G _ _ _ _ _ _ _ (T29.setTop (mkF m 41 #[.val (.ref a0), .val (.int p1), .val (.ref a2), .val (.int (po + (own_min p1 (li - po))))] [(.int po), (.ref ai), (.ref a2)]))
  refine own_by (fun _ k => XS.iloadN X29.here hx rfl (hb hby own_d8_41) rfl  k) ?_
  show own_G _ _ _ _ _ _ _ (T29.setTop (mkF m 42 #[.val (.ref a0), .val (.int p1), .val (.ref a2), .val (.int (po + (own_min p1 (li - po))))] [(.int (po + (own_min p1 (li - po)))), (.int po), (.ref ai), (.ref a2)]))
  obtain ⟨cq30, q30, q30'⟩ := H4_.cell
  obtain ⟨_, _, ⟨T30, L30, k30, n30⟩, -, X30, ⟨Lc30, hQ30, l30, y30, z30⟩, st30⟩ := X29.privateBack hx (y := (⟨"com/example/wirelore/wirelore/dissection/ByteReader", "read", "([BII)V"⟩ : MethodName)) hown (mvT hZ (hw _ (List.mem_of_getElem? (i := 13) rfl))) (mvT hZ (hw _ (List.mem_of_getElem? (i := 14) rfl))) (own_selp hZ (hw _ (List.mem_of_getElem? (i := 2) rfl)) (hw _ (List.mem_of_getElem? (i := 15) rfl)) (hw _ (List.mem_of_getElem? (i := 14) rfl)) (by decide)) (Cond.privateMethod_at (mvP hZ (hw _ (List.mem_of_getElem? (i := 15) rfl)) (args := #[]))) (mvT hZ (hw _ (List.mem_of_getElem? (i := 16) rfl))) (by decide) (backOf (W := 0) (rm2 l Z aw hw [] a2 ai po (po + (own_min p1 (li - po))) u0 u1 u2 F h0 n0 Z0 H4_ H5_ H6_ H7_ H8_ g_a2 ne_ai_a2 hen0 hen4) hZ (hw _ (List.mem_of_getElem? (i := 16) rfl)) (hw _ (List.mem_of_getElem? (i := 3) rfl)) (by decide) (by decide)) (g := (mkF m 42 #[.val (.ref a0), .val (.int p1), .val (.ref a2), .val (.int (po + (own_min p1 (li - po))))] [(.int (po + (own_min p1 (li - po)))), (.int po), (.ref ai), (.ref a2)])) rfl (by rw [hml]; rfl) (Steps.refl _) (a := a2) (by rw [e29]; exact q30) q30' (argsL := [(.ref ai), (.int po), (.int (po + (own_min p1 (li - po))))]) (rest := []) (lenOf own_pd0 rfl) rfl (by show 2 * 0 + _ ≤ _; exact Nat.le_of_eq rfl) (hb hby own_d8_42) (fun _ _ => ⟨rfl, e29, (by decide : 0 + 0 ≤ _), (by decide : 0 + 0 ≤ _)⟩)
  dsimp only [Pt.U, Pt.locs, Pt.cells, Pt.slots] at X30 l30 y30 z30 st30 hQ30
  subst l30 y30 z30
  obtain ⟨h30, e30⟩ : ∃ h, T30.heap = h := ⟨_, rfl⟩
  rw [e30] at hQ30
  obtain ⟨rfl, Nq30, K30, G30_0, G30_1, G30_2, G30_3⟩ := hQ30
  have N30 := Fr.app N27 Nq30
  have F31_0 := H0_.keep K30
  have F31_1 := H1_.keep K30 (ninS ne_a0_a2 nin0)
  have F31_2 := H2_.keep K30 (ninS ne_a0_a2 nin0)
  have F31_3 := H3_.keep K30 (ninS ne_a0_a2 nin0)
  have F31_4 := H4_.keep K30
  have F31_8 := H8_.keep K30 (ninS ne_ai_a2 nin0)
  have Z32 : n0 ≤ h30.size := Nat.le_trans Z0 K30.1
  have Kt30 := (Keep.refl h0 [a0, a2]).trans K30 (allS (Or.inl (List.mem_of_getElem? (i := 1) rfl)) all0)
  refine own_by (fun _ k => st30.trans k) ?_
  show own_G _ _ _ _ _ _ _ (T30.setTop (mkF m 45 #[.val (.ref a0), .val (.int p1), .val (.ref a2), .val (.int (po + (own_min p1 (li - po))))] []))
  refine own_by (fun _ k => XS.aloadN X30.here hx rfl (hb hby own_d8_45) rfl rfl k) ?_
  show own_G _ _ _ _ _ _ _ (T30.setTop (mkF m 46 #[.val (.ref a0), .val (.int p1), .val (.ref a2), .val (.int (po + (own_min p1 (li - po))))] [(.ref a0)]))
  refine own_by (fun _ k => XS.iloadN X30.here hx rfl (hb hby own_d8_46) rfl  k) ?_
  show own_G _ _ _ _ _ _ _ (T30.setTop (mkF m 47 #[.val (.ref a0), .val (.int p1), .val (.ref a2), .val (.int (po + (own_min p1 (li - po))))] [(.int (po + (own_min p1 (li - po)))), (.ref a0)]))
  obtain ⟨T33, h33, X33, e33, W33, st33⟩ := putF X30 hx hZ hown (host := "") (Or.inl (hw _ (List.mem_of_getElem? (i := 19) rfl))) Via.refl e30 F31_2 F31_0 (Or.inl (hw _ (List.mem_of_getElem? (i := 20) rfl))) (hw _ (List.mem_of_getElem? (i := 2) rfl)) (ty := .int) (by decide) rfl rfl (g := (mkF m 47 #[.val (.ref a0), .val (.int p1), .val (.ref a2), .val (.int (po + (own_min p1 (li - po))))] [(.int (po + (own_min p1 (li - po)))), (.ref a0)])) rfl rfl (hb hby own_d8_47)
  refine own_by st33 ?_
  have F34_0 := F31_0.wr W33
  have F34_1 := F31_1.other W33 (Or.inr (slot_ne (Or.inl (hw _ (List.mem_of_getElem? (i := 18) rfl))) (Or.inl (hw _ (List.mem_of_getElem? (i := 20) rfl))) (by decide) (t := (.array .byte)) (t' := .int) (by decide) (by decide)))
  have F34_2 := F31_2.same W33
  have F34_3 := F31_3.other W33 (Or.inr (slot_ne (Or.inl (hw _ (List.mem_of_getElem? (i := 22) rfl))) (Or.inl (hw _ (List.mem_of_getElem? (i := 20) rfl))) (by decide) (t := .int) (t' := .int) (by decide) (by decide)))
  have F34_4 := F31_8.other W33 ne_ai_a0
  have F34_5 := G30_0.wr W33
  have F34_6 := G30_1.other W33 (Or.inl (Ne.symm ne_a0_a2))
  have F34_7 := G30_2.other W33 (Or.inl (Ne.symm ne_a0_a2))
  have F34_8 := G30_3.other W33 (Or.inl (Ne.symm ne_a0_a2))
  have N33 := Fr.snoc X33 N30 g_a0
  have Z35 : n0 ≤ h33.size := Nat.le_trans Z32 (Nat.le_of_eq W33.size.symm)
  have K33 := Kt30.wr W33 (Or.inl (List.mem_of_getElem? (i := 0) rfl))
  show own_G _ _ _ _ _ _ _ (T33.setTop (mkF m 50 #[.val (.ref a0), .val (.int p1), .val (.ref a2), .val (.int (po + (own_min p1 (li - po))))] []))
  exact own_end X33 (v := none) (fun _ => rfl) (BodyLoose.notSynchronized Bd) (fun fs hr => X33.returnOut hx Bd.returns (hb hby own_d8_50) hr) (by rw [e33]; exact ⟨(po + (own_min p1 (li - po))), rfl, N33, K33, rfl, F34_0, F34_1, F34_2, F34_3⟩) (by decide) (by decide)
theorem own_d7_0 : decode prog_29_method_9_code 0 = .ok (.new 2, 3) := by decide +kernel
theorem own_d7_3 : decode prog_29_method_9_code 3 = .ok (.dup, 1) := by decide +kernel
theorem own_d7_4 : decode prog_29_method_9_code 4 = .ok (.aload_n 0, 1) := by decide +kernel
theorem own_d7_5 : decode prog_29_method_9_code 5 = .ok (.getfield 29, 3) := by decide +kernel
theorem own_d7_8 : decode prog_29_method_9_code 8 = .ok (.aload_n 0, 1) := by decide +kernel
theorem own_d7_9 : decode prog_29_method_9_code 9 = .ok (.getfield 33, 3) := by decide +kernel
theorem own_d7_12 : decode prog_29_method_9_code 12 = .ok (.aload_n 0, 1) := by decide +kernel
theorem own_d7_13 : decode prog_29_method_9_code 13 = .ok (.getfield 33, 3) := by decide +kernel
theorem own_d7_16 : decode prog_29_method_9_code 16 = .ok (.invokespecial 1, 3) := by decide +kernel
theorem own_d7_19 : decode prog_29_method_9_code 19 = .ok (.astore_n 2, 1) := by decide +kernel
theorem own_d7_20 : decode prog_29_method_9_code 20 = .ok (.aload_n 0, 1) := by decide +kernel
theorem own_d7_21 : decode prog_29_method_9_code 21 = .ok (.iload_n 1, 1) := by decide +kernel
theorem own_d7_22 : decode prog_29_method_9_code 22 = .ok (.aload_n 2, 1) := by decide +kernel
theorem own_d7_23 : decode prog_29_method_9_code 23 = .ok (.invokevirtual 47, 3) := by decide +kernel
theorem own_pd3 : parseMethodDescriptor "(ILcom/example/wirelore/wirelore/dissection/ByteReader;)V" = some ⟨[.int, (.object "com/example/wirelore/wirelore/dissection/ByteReader")], none⟩ := by decide +kernel
theorem own_d7_26 : decode prog_29_method_9_code 26 = .ok (.aload_n 2, 1) := by decide +kernel
theorem own_d7_27 : decode prog_29_method_9_code 27 = .ok (.areturn, 1) := by decide +kernel
theorem own_ef8 (m : MethodId) (x0 : Addr) (x1 : Int32) : entryFrame m #[(.ref x0), (.int x1)] 3 = mkF m 0 #[.val (.ref x0), .val (.int x1), .unset] [] := by first | (simp [entryFrame, mkF, argsToLocals, Value.category]; done) | rfl
def own_Q8 (Z : State) (a0 : Addr) (p1 : Int32) (ai : Addr) (po : Int32) (li : Int32) (F : Nat → Int32) (h0 : Heap) (n0 : Nat) (v : Option Value) (h : Heap) (L : List Loc) : Prop := ∃ en : Int32, ∃ bR : Addr, v = some (.ref bR) ∧ Fr n0 L ∧ Keep h0 h [a0] ∧ en = (po + (own_min p1 (li - po))) ∧ Exa Z h a0 "com/example/wirelore/wirelore/dissection/ByteReader" ∧ Fld Z h a0 "com/example/wirelore/wirelore/dissection/ByteReader" "input" "[B" (.ref ai) ∧ Fld Z h a0 "com/example/wirelore/wirelore/dissection/ByteReader" "position" "I" (.int en) ∧ Fld Z h a0 "com/example/wirelore/wirelore/dissection/ByteReader" "limit" "I" (.int li)
set_option maxRecDepth 65536 in
set_option maxHeartbeats 40000000 in
theorem rm8 (l : Launch) (Z : State) (aw : Array Value) (hw : ∀ d ∈ tables_1, d.before aw Z = true) (ws : List Jvm.Cond) (a0 : Addr) (p1 : Int32) (ai : Addr) (po : Int32) (li : Int32) (F : Nat → Int32) (h0 : Heap) (n0 : Nat) (Z0 : n0 ≤ h0.size) (H0_ : Exa Z h0 a0 "com/example/wirelore/wirelore/dissection/ByteReader") (H1_ : Fld Z h0 a0 "com/example/wirelore/wirelore/dissection/ByteReader" "input" "[B" (.ref ai)) (H2_ : Fld Z h0 a0 "com/example/wirelore/wirelore/dissection/ByteReader" "position" "I" (.int po)) (H3_ : Fld Z h0 a0 "com/example/wirelore/wirelore/dissection/ByteReader" "limit" "I" (.int li)) (H4_ : own_AB Z h0 ai 4 F) (g_a0 : n0 ≤ a0) (ne_ai_a0 : ai ≠ a0) (hpo0 : ¬ (po < (0 : Int32))) (hpo4 : ¬ ((4 : Int32) < po)) (hp : ¬ (p1 < (0 : Int32))) (hen0 : ¬ ((po + (own_min p1 (li - po))) < (0 : Int32))) (hen4 : ¬ ((4 : Int32) < (po + (own_min p1 (li - po))))) :
    MetFree l (⟨"com/example/wirelore/wirelore/dissection/ByteReader", "split", "(I)Lcom/example/wirelore/wirelore/dissection/ByteReader;"⟩ : MethodName) (head1 (Jvm.Cond.code (⟨"com/example/wirelore/wirelore/dissection/ByteReader", "split", "(I)Lcom/example/wirelore/wirelore/dissection/ByteReader;"⟩ : MethodName) prog_29_method_9_code 3 (some (.object "com/example/wirelore/wirelore/dissection/ByteReader")) :: ws) ({ frames := 2, cells := 1, slots := 3, locals := 31 } : Room)) (fun a U => a = #[(.ref a0), (.int p1)] ∧ Z.Warmed39 U.vm ∧ U.heap = h0) (fun _ _ _ _ _ => True) (fun _ U o U' => ∃ v L, o = .returned v ∧ own_Q8 Z a0 p1 ai po li F h0 n0 v U'.heap L ∧ FrameEnd U o U' L ({ frames := 2, cells := 1, slots := 3, locals := 31 } : Room).cells ({ frames := 2, cells := 1, slots := 3, locals := 31 } : Room).slots) := by
  refine MetFree.of_bodySF (plainFor_of_name own_pn0) hisR ?_
  intro p e s m args below meth c s₁ Bd hml0 hP hK
  obtain ⟨rfl, hZ, hh⟩ := hP
  have hx := Bd.exec
  have hby := Bd.bytes
  have hml : c.maxLocals = 3 := hml0
  have hown : s.vm.findClass "com/example/wirelore/wirelore/dissection/ByteReader" = some m.cls := findClass_of_methodNamed Bd.named
  have hnm := (name_of_methodNamed Bd.named Bd.method).1
  have X0 : Stand p l e ({ frames := 2, cells := 1, slots := 3, locals := 31 } : Room) s m #[(.ref a0), (.int p1)] below meth c s₁ [] 0 0 := Stand.of_body Bd
  have e0 : s₁.heap = h0 := by rw [← hh, Bd.state]; rfl
  have N0 := Fr.nil n0
  show own_G p.tables e below s (own_Q8 Z a0 p1 ai po li F h0 n0) ({ frames := 2, cells := 1, slots := 3, locals := 31 } : Room).cells ({ frames := 2, cells := 1, slots := 3, locals := 31 } : Room).slots (s₁.setTop (entryFrame m #[(.ref a0), (.int p1)] 3))
  refine own_by (fun _ k => castTop (own_ef8 m a0 p1) k) ?_
  show own_G _ _ _ _ _ _ _ (s₁.setTop (mkF m 0 #[.val (.ref a0), .val (.int p1), .unset] []))
  obtain ⟨T36, h36, X36, e36, E36, A36, D36, -, st36⟩ := newO X0 hx hZ hown (hw _ (List.mem_of_getElem? (i := 37) rfl)) (hw _ (List.mem_of_getElem? (i := 2) rfl)) (hw _ (List.mem_of_getElem? (i := 3) rfl)) e0 (g := (mkF m 0 #[.val (.ref a0), .val (.int p1), .unset] [])) rfl (hb hby own_d7_0) (by decide) (by decide)
  obtain ⟨b36, g36⟩ : ∃ z, z = h0.size := ⟨_, rfl⟩
  rw [← g36] at A36 D36 st36
  have ne_a0_b36 : a0 ≠ b36 := Nat.ne_of_lt (Nat.lt_of_lt_of_le H0_.lt (Nat.le_of_eq g36.symm))
  have ne_ai_b36 : ai ≠ b36 := Nat.ne_of_lt (Nat.lt_of_lt_of_le H4_.lt (Nat.le_of_eq g36.symm))
  have g_b36 : n0 ≤ b36 := Nat.le_trans Z0 (Nat.le_of_eq g36.symm)
  have sz_b36 : h0.size ≤ b36 := Nat.le_trans (Keep.refl h0 [a0]).1 (Nat.le_of_eq g36.symm)
  refine own_by st36 ?_
  have F37_0 := H0_.ext E36
  have F37_1 := H1_.ext E36
  have F37_2 := H2_.ext E36
  have F37_3 := H3_.ext E36
  have F37_4 := H4_.ext E36
  have Z38 : n0 ≤ h36.size := Nat.le_trans Z0 E36.1
  have K36 := (Keep.refl h0 [a0]).ext E36
  have F36_input : Fld Z h36 b36 "com/example/wirelore/wirelore/dissection/ByteReader" "input" "[B" .null := D36 (Or.inl (hw _ (List.mem_of_getElem? (i := 18) rfl))) (ty := (.array .byte)) (by decide)
  have F36_position : Fld Z h36 b36 "com/example/wirelore/wirelore/dissection/ByteReader" "position" "I" (.int (0 : Int32)) := D36 (Or.inl (hw _ (List.mem_of_getElem? (i := 20) rfl))) (ty := .int) (by decide)
  have F36_limit : Fld Z h36 b36 "com/example/wirelore/wirelore/dissection/ByteReader" "limit" "I" (.int (0 : Int32)) := D36 (Or.inl (hw _ (List.mem_of_getElem? (i := 22) rfl))) (ty := .int) (by decide)
  show own_G _ _ _ _ _ _ _ (T36.setTop (mkF m 3 #[.val (.ref a0), .val (.int p1), .unset] [(.ref b36)]))
  refine own_by (fun _ k => XS.dup X36.here hx rfl (hb hby own_d7_3) rfl rfl k) ?_
  show own_G _ _ _ _ _ _ _ (T36.setTop (mkF m 4 #[.val (.ref a0), .val (.int p1), .unset] [(.ref b36), (.ref b36)]))
  refine own_by (fun _ k => XS.aloadN X36.here hx rfl (hb hby own_d7_4) rfl rfl k) ?_
  show own_G _ _ _ _ _ _ _ (T36.setTop (mkF m 5 #[.val (.ref a0), .val (.int p1), .unset] [(.ref a0), (.ref b36), (.ref b36)]))
  obtain ⟨T39, X39, e39, st39⟩ := getF X36 hx hZ hown (host := "") (Or.inl (hw _ (List.mem_of_getElem? (i := 17) rfl))) Via.refl e36 F37_1 (g := (mkF m 5 #[.val (.ref a0), .val (.int p1), .unset] [(.ref a0), (.ref b36), (.ref b36)])) rfl rfl (hb hby own_d7_5)
  refine own_by st39 ?_
  show own_G _ _ _ _ _ _ _ (T39.setTop (mkF m 8 #[.val (.ref a0), .val (.int p1), .unset] [(.ref ai), (.ref b36), (.ref b36)]))
  refine own_by (fun _ k => XS.aloadN X39.here hx rfl (hb hby own_d7_8) rfl rfl k) ?_
  show own_G _ _ _ _ _ _ _ (T39.setTop (mkF m 9 #[.val (.ref a0), .val (.int p1), .unset] [(.ref a0), (.ref ai), (.ref b36), (.ref b36)]))
  obtain ⟨T40, X40, e40, st40⟩ := getF X39 hx hZ hown (host := "") (Or.inl (hw _ (List.mem_of_getElem? (i := 19) rfl))) Via.refl e39 F37_2 (g := (mkF m 9 #[.val (.ref a0), .val (.int p1), .unset] [(.ref a0), (.ref ai), (.ref b36), (.ref b36)])) rfl rfl (hb hby own_d7_9)
  refine own_by st40 ?_
  show own_G _ _ _ _ _ _ _ (T40.setTop (mkF m 12 #[.val (.ref a0), .val (.int p1), .unset] [(.int po), (.ref ai), (.ref b36), (.ref b36)]))
  refine own_by (fun _ k => XS.aloadN X40.here hx rfl (hb hby own_d7_12) rfl rfl k) ?_
  show own_G _ _ _ _ _ _ _ (T40.setTop (mkF m 13 #[.val (.ref a0), .val (.int p1), .unset] [(.ref a0), (.int po), (.ref ai), (.ref b36), (.ref b36)]))
  obtain ⟨T41, X41, e41, st41⟩ := getF X40 hx hZ hown (host := "") (Or.inl (hw _ (List.mem_of_getElem? (i := 19) rfl))) Via.refl e40 F37_2 (g := (mkF m 13 #[.val (.ref a0), .val (.int p1), .unset] [(.ref a0), (.int po), (.ref ai), (.ref b36), (.ref b36)])) rfl rfl (hb hby own_d7_13)
  refine own_by st41 ?_
  show own_G _ _ _ _ _ _ _ (T41.setTop (mkF m 16 #[.val (.ref a0), .val (.int p1), .unset] [(.int po), (.int po), (.ref ai), (.ref b36), (.ref b36)]))
  obtain ⟨_, _, ⟨T42, L42, k42, n42⟩, -, X42, ⟨Lc42, hQ42, l42, y42, z42⟩, st42⟩ := X41.specialBack hx (y := (⟨"com/example/wirelore/wirelore/dissection/ByteReader", "<init>", "([BII)V"⟩ : MethodName)) rfl hown (mvT hZ (hw _ (List.mem_of_getElem? (i := 7) rfl))) (mvT hZ (hw _ (List.mem_of_getElem? (i := 8) rfl))) (mvT hZ (hw _ (List.mem_of_getElem? (i := 9) rfl))) (by decide) (backOf (W := 1) (rm3 l Z aw hw [] b36 ai po po F h36 n0 Z38 A36 F36_input F36_position F36_limit F37_4 g_b36 ne_ai_b36 hpo0 hpo4) hZ (hw _ (List.mem_of_getElem? (i := 9) rfl)) (hw _ (List.mem_of_getElem? (i := 3) rfl)) (by decide) (by decide)) (g := (mkF m 16 #[.val (.ref a0), .val (.int p1), .unset] [(.int po), (.int po), (.ref ai), (.ref b36), (.ref b36)])) rfl (by rw [hml]; rfl) (Steps.refl _) (a := b36) (argsL := [(.ref ai), (.int po), (.int po)]) (rest := [(.ref b36)]) (lenOf own_pd0 rfl) rfl (by show 2 * 0 + _ ≤ _; exact Nat.le_of_eq rfl) (hb hby own_d7_16) (fun _ _ => ⟨rfl, e41, (by decide : 1 + 0 ≤ _), (by decide : 3 + 0 ≤ _)⟩)
  dsimp only [Pt.U, Pt.locs, Pt.cells, Pt.slots] at X42 l42 y42 z42 st42 hQ42
  subst l42 y42 z42
  obtain ⟨h42, e42⟩ : ∃ h, T42.heap = h := ⟨_, rfl⟩
  rw [e42] at hQ42
  obtain ⟨rfl, Nq42, K42, G42_0, G42_1, G42_2, G42_3⟩ := hQ42
  have N42 := Fr.app N0 Nq42
  have F43_0 := F37_0.keep K42
  have F43_1 := F37_1.keep K42 (ninS ne_a0_b36 nin0)
  have F43_2 := F37_2.keep K42 (ninS ne_a0_b36 nin0)
  have F43_3 := F37_3.keep K42 (ninS ne_a0_b36 nin0)
  have F43_4 := F37_4.keep K42 (ninS ne_ai_b36 nin0)
  have F43_5 := A36.keep K42
  have Z44 : n0 ≤ h42.size := Nat.le_trans Z38 K42.1
  have Kt42 := K36.trans K42 (allS (Or.inr sz_b36) all0)
  refine own_by (fun _ k => st42.trans k) ?_
  show own_G _ _ _ _ _ _ _ (T42.setTop (mkF m 19 #[.val (.ref a0), .val (.int p1), .unset] [(.ref b36)]))
  refine own_by (fun _ k => XS.astoreN X42.here hx rfl (hb hby own_d7_19) rfl rfl (l' := #[.val (.ref a0), .val (.int p1), .val (.ref b36)]) rfl k) ?_
  show own_G _ _ _ _ _ _ _ (T42.setTop (mkF m 20 #[.val (.ref a0), .val (.int p1), .val (.ref b36)] []))
  refine own_by (fun _ k => XS.aloadN X42.here hx rfl (hb hby own_d7_20) rfl rfl k) ?_
  show own_G _ _ _ _ _ _ _ (T42.setTop (mkF m 21 #[.val (.ref a0), .val (.int p1), .val (.ref b36)] [(.ref a0)]))
  refine own_by (fun _ k => XS.iloadN X42.here hx rfl (hb hby own_d7_21) rfl  k) ?_
  show own_G _ _ _ _ _ _ _ (T42.setTop (mkF m 22 #[.val (.ref a0), .val (.int p1), .val (.ref b36)] [(.int p1), (.ref a0)]))
  refine own_by (fun _ k => XS.aloadN X42.here hx rfl (hb hby own_d7_22) rfl rfl k) ?_
  show own_G _ _ _ _ _ _ _ (T42.setTop (mkF m 23 #[.val (.ref a0), .val (.int p1), .val (.ref b36)] [(.ref b36), (.int p1), (.ref a0)]))
  obtain ⟨cq45, kq45, q45a, q45b, q45c⟩ := isOf hZ e42 F43_0
  obtain ⟨_, _, ⟨T45, L45, k45, n45⟩, -, X45, ⟨Lc45, hQ45, l45, y45, z45⟩, st45⟩ := X42.virtualBack hx (y := (⟨"com/example/wirelore/wirelore/dissection/ByteReader", "split", "(ILcom/example/wirelore/wirelore/dissection/ByteReader;)V"⟩ : MethodName)) (z := (⟨"com/example/wirelore/wirelore/dissection/ByteReader", "split", "(ILcom/example/wirelore/wirelore/dissection/ByteReader;)V"⟩ : MethodName)) hown (mvT hZ (hw _ (List.mem_of_getElem? (i := 38) rfl))) (mvT hZ (hw _ (List.mem_of_getElem? (i := 39) rfl))) (notFace_of_selects (args := #[]) (mvT hZ (hw _ (List.mem_of_getElem? (i := 41) rfl)))) (mvT hZ (hw _ (List.mem_of_getElem? (i := 41) rfl))) (mvT hZ (hw _ (List.mem_of_getElem? (i := 40) rfl))) (by decide) (backOf (W := 0) (rm7 l Z aw hw [] a0 p1 b36 ai po li (.ref ai) (.int po) (.int po) F h42 n0 Z44 F43_0 F43_1 F43_2 F43_3 G42_0 G42_1 G42_2 G42_3 F43_4 g_a0 g_b36 ne_a0_b36 ne_ai_a0 ne_ai_b36 hp hen0 hen4) hZ (hw _ (List.mem_of_getElem? (i := 42) rfl)) (hw _ (List.mem_of_getElem? (i := 3) rfl)) (by decide) (by decide)) q45a q45c (g := (mkF m 23 #[.val (.ref a0), .val (.int p1), .val (.ref b36)] [(.ref b36), (.int p1), (.ref a0)])) rfl (by rw [hml]; rfl) (Steps.refl _) (argsL := [(.int p1), (.ref b36)]) (rest := []) (lenOf own_pd3 rfl) rfl (by show 2 * 0 + _ ≤ _; exact Nat.le_of_eq rfl) (hb hby own_d7_23) (fun _ _ => ⟨rfl, e42, (by decide : 1 + 0 ≤ _), (by decide : 3 + 0 ≤ _)⟩)
  dsimp only [Pt.U, Pt.locs, Pt.cells, Pt.slots] at X45 l45 y45 z45 st45 hQ45
  subst l45 y45 z45
  obtain ⟨h45, e45⟩ : ∃ h, T45.heap = h := ⟨_, rfl⟩
  rw [e45] at hQ45
  obtain ⟨en_45, rfl, Nq45, K45, hqen_45, G45_0, G45_1, G45_2, G45_3⟩ := hQ45
  have N45 := Fr.app N42 Nq45
  have F46_0 := F43_0.keep K45
  have F46_4 := F43_4.keep K45 (ninS ne_ai_a0 (ninS ne_ai_b36 nin0))
  have F46_5 := G42_0.keep K45
  have Z47 : n0 ≤ h45.size := Nat.le_trans Z44 K45.1
  have Kt45 := Kt42.trans K45 (allS (Or.inl (List.mem_of_getElem? (i := 0) rfl)) (allS (Or.inr sz_b36) all0))
  refine own_by (fun _ k => st45.trans k) ?_
  show own_G _ _ _ _ _ _ _ (T45.setTop (mkF m 26 #[.val (.ref a0), .val (.int p1), .val (.ref b36)] []))
  refine own_by (fun _ k => XS.aloadN X45.here hx rfl (hb hby own_d7_26) rfl rfl k) ?_
  show own_G _ _ _ _ _ _ _ (T45.setTop (mkF m 27 #[.val (.ref a0), .val (.int p1), .val (.ref b36)] [(.ref b36)]))
  exact own_end X45 (v := some (.ref b36)) (fun h => by rw [Bd.returns] at h; cases h) (BodyLoose.notSynchronized Bd) (fun fs hr => X45.areturnOut hx (w := (.ref b36)) rfl Bd.returns rfl (hb hby own_d7_27) hr) (by rw [e45]; exact ⟨en_45, b36, rfl, N45, Kt45, hqen_45, G45_0, G45_1, G45_2, G45_3⟩) (by decide) (by decide)
theorem own_d10_0 : decode prog_29_method_5_code 0 = .ok (.aload_n 0, 1) := by decide +kernel
theorem own_d10_1 : decode prog_29_method_5_code 1 = .ok (.getfield 33, 3) := by decide +kernel
theorem own_d10_4 : decode prog_29_method_5_code 4 = .ok (.ireturn, 1) := by decide +kernel
theorem own_ef9 (m : MethodId) (x0 : Addr) : entryFrame m #[(.ref x0)] 1 = mkF m 0 #[.val (.ref x0)] [] := by first | (simp [entryFrame, mkF, argsToLocals, Value.category]; done) | rfl
def own_Q9 (Z : State) (a0 : Addr) (x0 : Int32) (h0 : Heap) (n0 : Nat) (v : Option Value) (h : Heap) (L : List Loc) : Prop := v = some (.int (x0)) ∧ Fr n0 L ∧ h = h0
set_option maxRecDepth 65536 in
set_option maxHeartbeats 40000000 in
theorem rm9 (l : Launch) (Z : State) (aw : Array Value) (hw : ∀ d ∈ tables_1, d.before aw Z = true) (ws : List Jvm.Cond) (a0 : Addr) (x0 : Int32) (h0 : Heap) (n0 : Nat) (Z0 : n0 ≤ h0.size) (F_a0_position : Fld Z h0 a0 "com/example/wirelore/wirelore/dissection/ByteReader" "position" "I" (.int x0)) :
    MetFree l (⟨"com/example/wirelore/wirelore/dissection/ByteReader", "position", "()I"⟩ : MethodName) (head1 (Jvm.Cond.code (⟨"com/example/wirelore/wirelore/dissection/ByteReader", "position", "()I"⟩ : MethodName) prog_29_method_5_code 1 (some .int) :: ws) ({ frames := 0, cells := 0, slots := 0, locals := 0 } : Room)) (fun a U => a = #[(.ref a0)] ∧ Z.Warmed39 U.vm ∧ U.heap = h0) (fun _ _ _ _ _ => True) (fun _ U o U' => ∃ v L, o = .returned v ∧ own_Q9 Z a0 x0 h0 n0 v U'.heap L ∧ FrameEnd U o U' L ({ frames := 0, cells := 0, slots := 0, locals := 0 } : Room).cells ({ frames := 0, cells := 0, slots := 0, locals := 0 } : Room).slots) := by
  refine MetFree.of_bodySF (plainFor_of_name own_pn0) hisR ?_
  intro p e s m args below meth c s₁ Bd hml0 hP hK
  obtain ⟨rfl, hZ, hh⟩ := hP
  have hx := Bd.exec
  have hby := Bd.bytes
  have hml : c.maxLocals = 1 := hml0
  have hown : s.vm.findClass "com/example/wirelore/wirelore/dissection/ByteReader" = some m.cls := findClass_of_methodNamed Bd.named
  have hnm := (name_of_methodNamed Bd.named Bd.method).1
  have X0 : Stand p l e ({ frames := 0, cells := 0, slots := 0, locals := 0 } : Room) s m #[(.ref a0)] below meth c s₁ [] 0 0 := Stand.of_body Bd
  have e0 : s₁.heap = h0 := by rw [← hh, Bd.state]; rfl
  have N0 := Fr.nil n0
  show own_G p.tables e below s (own_Q9 Z a0 x0 h0 n0) ({ frames := 0, cells := 0, slots := 0, locals := 0 } : Room).cells ({ frames := 0, cells := 0, slots := 0, locals := 0 } : Room).slots (s₁.setTop (entryFrame m #[(.ref a0)] 1))
  refine own_by (fun _ k => castTop (own_ef9 m a0) k) ?_
  show own_G _ _ _ _ _ _ _ (s₁.setTop (mkF m 0 #[.val (.ref a0)] []))
  refine own_by (fun _ k => XS.aloadN X0.here hx rfl (hb hby own_d10_0) rfl rfl k) ?_
  show own_G _ _ _ _ _ _ _ (s₁.setTop (mkF m 1 #[.val (.ref a0)] [(.ref a0)]))
  obtain ⟨T48, X48, e48, st48⟩ := getF X0 hx hZ hown (host := "") (Or.inl (hw _ (List.mem_of_getElem? (i := 19) rfl))) Via.refl e0 F_a0_position (g := (mkF m 1 #[.val (.ref a0)] [(.ref a0)])) rfl rfl (hb hby own_d10_1)
  refine own_by st48 ?_
  show own_G _ _ _ _ _ _ _ (T48.setTop (mkF m 4 #[.val (.ref a0)] [(.int x0)]))
  exact own_end X48 (v := some (.int x0)) (fun h => by rw [Bd.returns] at h; cases h) (BodyLoose.notSynchronized Bd) (fun fs hr => retI X48 hx Bd.returns (hb hby own_d10_4) hr) (by rw [e48]; exact ⟨rfl, N0, rfl⟩) (by decide) (by decide)
theorem own_d11_0 : decode prog_29_method_6_code 0 = .ok (.aload_n 0, 1) := by decide +kernel
theorem own_d11_1 : decode prog_29_method_6_code 1 = .ok (.getfield 37, 3) := by decide +kernel
theorem own_d11_4 : decode prog_29_method_6_code 4 = .ok (.ireturn, 1) := by decide +kernel
theorem own_ef10 (m : MethodId) (x0 : Addr) : entryFrame m #[(.ref x0)] 1 = mkF m 0 #[.val (.ref x0)] [] := by first | (simp [entryFrame, mkF, argsToLocals, Value.category]; done) | rfl
def own_Q10 (Z : State) (a0 : Addr) (x0 : Int32) (h0 : Heap) (n0 : Nat) (v : Option Value) (h : Heap) (L : List Loc) : Prop := v = some (.int (x0)) ∧ Fr n0 L ∧ h = h0
set_option maxRecDepth 65536 in
set_option maxHeartbeats 40000000 in
theorem rm10 (l : Launch) (Z : State) (aw : Array Value) (hw : ∀ d ∈ tables_1, d.before aw Z = true) (ws : List Jvm.Cond) (a0 : Addr) (x0 : Int32) (h0 : Heap) (n0 : Nat) (Z0 : n0 ≤ h0.size) (F_a0_limit : Fld Z h0 a0 "com/example/wirelore/wirelore/dissection/ByteReader" "limit" "I" (.int x0)) :
    MetFree l (⟨"com/example/wirelore/wirelore/dissection/ByteReader", "limit", "()I"⟩ : MethodName) (head1 (Jvm.Cond.code (⟨"com/example/wirelore/wirelore/dissection/ByteReader", "limit", "()I"⟩ : MethodName) prog_29_method_6_code 1 (some .int) :: ws) ({ frames := 0, cells := 0, slots := 0, locals := 0 } : Room)) (fun a U => a = #[(.ref a0)] ∧ Z.Warmed39 U.vm ∧ U.heap = h0) (fun _ _ _ _ _ => True) (fun _ U o U' => ∃ v L, o = .returned v ∧ own_Q10 Z a0 x0 h0 n0 v U'.heap L ∧ FrameEnd U o U' L ({ frames := 0, cells := 0, slots := 0, locals := 0 } : Room).cells ({ frames := 0, cells := 0, slots := 0, locals := 0 } : Room).slots) := by
  refine MetFree.of_bodySF (plainFor_of_name own_pn0) hisR ?_
  intro p e s m args below meth c s₁ Bd hml0 hP hK
  obtain ⟨rfl, hZ, hh⟩ := hP
  have hx := Bd.exec
  have hby := Bd.bytes
  have hml : c.maxLocals = 1 := hml0
  have hown : s.vm.findClass "com/example/wirelore/wirelore/dissection/ByteReader" = some m.cls := findClass_of_methodNamed Bd.named
  have hnm := (name_of_methodNamed Bd.named Bd.method).1
  have X0 : Stand p l e ({ frames := 0, cells := 0, slots := 0, locals := 0 } : Room) s m #[(.ref a0)] below meth c s₁ [] 0 0 := Stand.of_body Bd
  have e0 : s₁.heap = h0 := by rw [← hh, Bd.state]; rfl
  have N0 := Fr.nil n0
  show own_G p.tables e below s (own_Q10 Z a0 x0 h0 n0) ({ frames := 0, cells := 0, slots := 0, locals := 0 } : Room).cells ({ frames := 0, cells := 0, slots := 0, locals := 0 } : Room).slots (s₁.setTop (entryFrame m #[(.ref a0)] 1))
  refine own_by (fun _ k => castTop (own_ef10 m a0) k) ?_
  show own_G _ _ _ _ _ _ _ (s₁.setTop (mkF m 0 #[.val (.ref a0)] []))
  refine own_by (fun _ k => XS.aloadN X0.here hx rfl (hb hby own_d11_0) rfl rfl k) ?_
  show own_G _ _ _ _ _ _ _ (s₁.setTop (mkF m 1 #[.val (.ref a0)] [(.ref a0)]))
  obtain ⟨T49, X49, e49, st49⟩ := getF X0 hx hZ hown (host := "") (Or.inl (hw _ (List.mem_of_getElem? (i := 21) rfl))) Via.refl e0 F_a0_limit (g := (mkF m 1 #[.val (.ref a0)] [(.ref a0)])) rfl rfl (hb hby own_d11_1)
  refine own_by st49 ?_
  show own_G _ _ _ _ _ _ _ (T49.setTop (mkF m 4 #[.val (.ref a0)] [(.int x0)]))
  exact own_end X49 (v := some (.int x0)) (fun h => by rw [Bd.returns] at h; cases h) (BodyLoose.notSynchronized Bd) (fun fs hr => retI X49 hx Bd.returns (hb hby own_d11_4) hr) (by rw [e49]; exact ⟨rfl, N0, rfl⟩) (by decide) (by decide)
theorem own_d12_0 : decode method_2_code 0 = .ok (.iload_n 2, 1) := by decide +kernel
theorem own_d12_1 : decode method_2_code 1 = .ok (.iload_n 1, 1) := by decide +kernel
theorem own_d12_2 : decode method_2_code 2 = .ok (.if_icmp .gt 24, 3) := by decide +kernel
theorem own_d12_26 : decode method_2_code 26 = .ok (.iconst 0, 1) := by decide +kernel
theorem own_d12_27 : decode method_2_code 27 = .ok (.ireturn, 1) := by decide +kernel
theorem own_d12_5 : decode method_2_code 5 = .ok (.iload_n 1, 1) := by decide +kernel
theorem own_d12_6 : decode method_2_code 6 = .ok (.iload_n 3, 1) := by decide +kernel
theorem own_d12_7 : decode method_2_code 7 = .ok (.if_icmp .ge 19, 3) := by decide +kernel
theorem own_d12_10 : decode method_2_code 10 = .ok (.aload_n 0, 1) := by decide +kernel
theorem own_d12_11 : decode method_2_code 11 = .ok (.iload_n 1, 1) := by decide +kernel
theorem own_d12_12 : decode method_2_code 12 = .ok (.baload, 1) := by decide +kernel
theorem own_d12_13 : decode method_2_code 13 = .ok (.sipush 255, 3) := by decide +kernel
theorem own_d12_16 : decode method_2_code 16 = .ok (.iand, 1) := by decide +kernel
theorem own_d12_17 : decode method_2_code 17 = .ok (.iload 4, 2) := by decide +kernel
theorem own_d12_19 : decode method_2_code 19 = .ok (.if_icmp .ne 7, 3) := by decide +kernel
theorem own_d12_22 : decode method_2_code 22 = .ok (.iconst 1, 1) := by decide +kernel
theorem own_d12_23 : decode method_2_code 23 = .ok (.goto 4, 3) := by decide +kernel
theorem own_pn1 : plainName "com/example/wirelore/wirelore/dissection/ByteReaderIndexOfPinLaw" = true := by first | (simp [plainName, overriddenIn]; done) | decide +kernel
theorem own_ef11 (m : MethodId) (x0 : Addr) (x1 : Int32) (x2 : Int32) (x3 : Int32) (x4 : Int32) : entryFrame m #[(.ref x0), (.int x1), (.int x2), (.int x3), (.int x4)] 5 = mkF m 0 #[.val (.ref x0), .val (.int x1), .val (.int x2), .val (.int x3), .val (.int x4)] [] := by first | (simp [entryFrame, mkF, argsToLocals, Value.category]; done) | rfl
def own_Q11 (Z : State) (a0 : Addr) (p1 : Int32) (p2 : Int32) (p3 : Int32) (p4 : Int32) (F : Nat → Int32) (k : Nat) (pn : Nat) (qn : Nat) (h0 : Heap) (n0 : Nat) (v : Option Value) (h : Heap) (L : List Loc) : Prop := v = some (.int (own_hit F pn qn p4 k)) ∧ Fr n0 L ∧ h = h0
set_option maxRecDepth 65536 in
set_option maxHeartbeats 40000000 in
theorem rm11 (l : Launch) (Z : State) (aw : Array Value) (hw : ∀ d ∈ tables_1, d.before aw Z = true) (ws : List Jvm.Cond) (a0 : Addr) (p1 : Int32) (p2 : Int32) (p3 : Int32) (p4 : Int32) (F : Nat → Int32) (k : Nat) (pn : Nat) (qn : Nat) (h0 : Heap) (n0 : Nat) (Z0 : n0 ≤ h0.size) (VA : own_AB Z h0 a0 4 F) (h1 : p1.toInt = k) (h2 : p2.toInt = pn) (h3 : p3.toInt = qn) (hq : qn ≤ 4) :
    MetFree l (⟨"com/example/wirelore/wirelore/dissection/ByteReaderIndexOfPinLaw", "hit", "([BIIII)Z"⟩ : MethodName) (head1 (Jvm.Cond.code (⟨"com/example/wirelore/wirelore/dissection/ByteReaderIndexOfPinLaw", "hit", "([BIIII)Z"⟩ : MethodName) method_2_code 5 (some .boolean) :: ws) ({ frames := 0, cells := 0, slots := 0, locals := 0 } : Room)) (fun a U => a = #[(.ref a0), (.int p1), (.int p2), (.int p3), (.int p4)] ∧ Z.Warmed39 U.vm ∧ U.heap = h0) (fun _ _ _ _ _ => True) (fun _ U o U' => ∃ v L, o = .returned v ∧ own_Q11 Z a0 p1 p2 p3 p4 F k pn qn h0 n0 v U'.heap L ∧ FrameEnd U o U' L ({ frames := 0, cells := 0, slots := 0, locals := 0 } : Room).cells ({ frames := 0, cells := 0, slots := 0, locals := 0 } : Room).slots) := by
  refine MetFree.of_bodySF (plainFor_of_name own_pn1) hisR ?_
  intro p e s m args below meth c s₁ Bd hml0 hP hK
  obtain ⟨rfl, hZ, hh⟩ := hP
  have hx := Bd.exec
  have hby := Bd.bytes
  have hml : c.maxLocals = 5 := hml0
  have hown : s.vm.findClass "com/example/wirelore/wirelore/dissection/ByteReaderIndexOfPinLaw" = some m.cls := findClass_of_methodNamed Bd.named
  have hnm := (name_of_methodNamed Bd.named Bd.method).1
  have X0 : Stand p l e ({ frames := 0, cells := 0, slots := 0, locals := 0 } : Room) s m #[(.ref a0), (.int p1), (.int p2), (.int p3), (.int p4)] below meth c s₁ [] 0 0 := Stand.of_body Bd
  have e0 : s₁.heap = h0 := by rw [← hh, Bd.state]; rfl
  have N0 := Fr.nil n0
  show own_G p.tables e below s (own_Q11 Z a0 p1 p2 p3 p4 F k pn qn h0 n0) ({ frames := 0, cells := 0, slots := 0, locals := 0 } : Room).cells ({ frames := 0, cells := 0, slots := 0, locals := 0 } : Room).slots (s₁.setTop (entryFrame m #[(.ref a0), (.int p1), (.int p2), (.int p3), (.int p4)] 5))
  refine own_by (fun _ k => castTop (own_ef11 m a0 p1 p2 p3 p4) k) ?_
  show own_G _ _ _ _ _ _ _ (s₁.setTop (mkF m 0 #[.val (.ref a0), .val (.int p1), .val (.int p2), .val (.int p3), .val (.int p4)] []))
  refine own_by (fun _ k => XS.iloadN X0.here hx rfl (hb hby own_d12_0) rfl  k) ?_
  show own_G _ _ _ _ _ _ _ (s₁.setTop (mkF m 1 #[.val (.ref a0), .val (.int p1), .val (.int p2), .val (.int p3), .val (.int p4)] [(.int p2)]))
  refine own_by (fun _ k => XS.iloadN X0.here hx rfl (hb hby own_d12_1) rfl  k) ?_
  show own_G _ _ _ _ _ _ _ (s₁.setTop (mkF m 2 #[.val (.ref a0), .val (.int p1), .val (.int p2), .val (.int p3), .val (.int p4)] [(.int p1), (.int p2)]))
  by_cases hc2 : p1 < p2
  · refine own_by (fun _ k => XS.icmpYes X0.here hx rfl (pc0 := 2) (pc' := 26) rfl (hb hby own_d12_2) rfl (XT.ii_gt_t hc2) (by decide) (by decide) k) ?_
    show own_G _ _ _ _ _ _ _ (s₁.setTop (mkF m 26 #[.val (.ref a0), .val (.int p1), .val (.int p2), .val (.int p3), .val (.int p4)] []))
    refine own_by (fun _ k => XS.iconst X0.here hx rfl (hb hby own_d12_26) k) ?_
    show own_G _ _ _ _ _ _ _ (s₁.setTop (mkF m 27 #[.val (.ref a0), .val (.int p1), .val (.int p2), .val (.int p3), .val (.int p4)] [(.int (0 : Int32))]))
    exact own_end X0 (v := some (.int (nar .boolean (0 : Int32)))) (fun h => by rw [Bd.returns] at h; cases h) (BodyLoose.notSynchronized Bd) (fun fs hr => retN X0 hx (t := .boolean) Bd.returns (by simp) (hb hby own_d12_27) hr) (by rw [e0]; exact ⟨(by unfold own_hit; rw [if_neg (fun z => absurd ((own_lt h1 h2).mp hc2) (Nat.not_lt.mpr z.1))]; rfl), N0, rfl⟩) (by decide) (by decide)
  · refine own_by (fun _ k => XS.icmpNo X0.here hx rfl (hb hby own_d12_2) rfl (XT.ii_gt_f hc2) k) ?_
    show own_G _ _ _ _ _ _ _ (s₁.setTop (mkF m 5 #[.val (.ref a0), .val (.int p1), .val (.int p2), .val (.int p3), .val (.int p4)] []))
    refine own_by (fun _ k => XS.iloadN X0.here hx rfl (hb hby own_d12_5) rfl  k) ?_
    show own_G _ _ _ _ _ _ _ (s₁.setTop (mkF m 6 #[.val (.ref a0), .val (.int p1), .val (.int p2), .val (.int p3), .val (.int p4)] [(.int p1)]))
    refine own_by (fun _ k => XS.iloadN X0.here hx rfl (hb hby own_d12_6) rfl  k) ?_
    show own_G _ _ _ _ _ _ _ (s₁.setTop (mkF m 7 #[.val (.ref a0), .val (.int p1), .val (.int p2), .val (.int p3), .val (.int p4)] [(.int p3), (.int p1)]))
    by_cases hc7 : p1 < p3
    · refine own_by (fun _ k => XS.icmpNo X0.here hx rfl (hb hby own_d12_7) rfl (XT.ii_ge_f hc7) k) ?_
      show own_G _ _ _ _ _ _ _ (s₁.setTop (mkF m 10 #[.val (.ref a0), .val (.int p1), .val (.int p2), .val (.int p3), .val (.int p4)] []))
      refine own_by (fun _ k => XS.aloadN X0.here hx rfl (hb hby own_d12_10) rfl rfl k) ?_
      show own_G _ _ _ _ _ _ _ (s₁.setTop (mkF m 11 #[.val (.ref a0), .val (.int p1), .val (.int p2), .val (.int p3), .val (.int p4)] [(.ref a0)]))
      refine own_by (fun _ k => XS.iloadN X0.here hx rfl (hb hby own_d12_11) rfl  k) ?_
      show own_G _ _ _ _ _ _ _ (s₁.setTop (mkF m 12 #[.val (.ref a0), .val (.int p1), .val (.int p2), .val (.int p3), .val (.int p4)] [(.int p1), (.ref a0)]))
      refine own_by (own_ldB X0 hx hZ e0 VA (k := k) h1 (by have := (own_lt h1 h3).mp hc7; omega) (g := (mkF m 12 #[.val (.ref a0), .val (.int p1), .val (.int p2), .val (.int p3), .val (.int p4)] [(.int p1), (.ref a0)])) rfl rfl (hb hby own_d12_12)) ?_
      show own_G _ _ _ _ _ _ _ (s₁.setTop (mkF m 13 #[.val (.ref a0), .val (.int p1), .val (.int p2), .val (.int p3), .val (.int p4)] [(.int (F k))]))
      refine own_by (fun _ k => XS.sipush X0.here hx rfl (hb hby own_d12_13) k) ?_
      show own_G _ _ _ _ _ _ _ (s₁.setTop (mkF m 16 #[.val (.ref a0), .val (.int p1), .val (.int p2), .val (.int p3), .val (.int p4)] [(.int (255 : Int32)), (.int (F k))]))
      refine own_by (fun _ k => XS.iand X0.here hx rfl (hb hby own_d12_16) rfl k) ?_
      show own_G _ _ _ _ _ _ _ (s₁.setTop (mkF m 17 #[.val (.ref a0), .val (.int p1), .val (.int p2), .val (.int p3), .val (.int p4)] [(.int ((F k) &&& (255 : Int32)))]))
      refine own_by (fun _ k => XS.iload X0.here hx rfl (hb hby own_d12_17) rfl  k) ?_
      show own_G _ _ _ _ _ _ _ (s₁.setTop (mkF m 19 #[.val (.ref a0), .val (.int p1), .val (.int p2), .val (.int p3), .val (.int p4)] [(.int p4), (.int ((F k) &&& (255 : Int32)))]))
      by_cases hc19 : ((F k) &&& (255 : Int32)) = p4
      · refine own_by (fun _ k => XS.icmpNo X0.here hx rfl (hb hby own_d12_19) rfl (XT.ii_ne_f hc19) k) ?_
        show own_G _ _ _ _ _ _ _ (s₁.setTop (mkF m 22 #[.val (.ref a0), .val (.int p1), .val (.int p2), .val (.int p3), .val (.int p4)] []))
        refine own_by (fun _ k => XS.iconst X0.here hx rfl (hb hby own_d12_22) k) ?_
        show own_G _ _ _ _ _ _ _ (s₁.setTop (mkF m 23 #[.val (.ref a0), .val (.int p1), .val (.int p2), .val (.int p3), .val (.int p4)] [(.int (1 : Int32))]))
        refine own_by (fun _ k => XS.goto X0.here hx rfl (pc0 := 23) (pc' := 27) rfl (hb hby own_d12_23) (by decide) (by decide) k) ?_
        show own_G _ _ _ _ _ _ _ (s₁.setTop (mkF m 27 #[.val (.ref a0), .val (.int p1), .val (.int p2), .val (.int p3), .val (.int p4)] [(.int (1 : Int32))]))
        exact own_end X0 (v := some (.int (nar .boolean (1 : Int32)))) (fun h => by rw [Bd.returns] at h; cases h) (BodyLoose.notSynchronized Bd) (fun fs hr => retN X0 hx (t := .boolean) Bd.returns (by simp) (hb hby own_d12_27) hr) (by rw [e0]; exact ⟨(by unfold own_hit; rw [if_pos ⟨Nat.le_of_not_lt (fun z => hc2 ((own_lt h1 h2).mpr z)), ((own_lt h1 h3).mp hc7), hc19⟩]; rfl), N0, rfl⟩) (by decide) (by decide)
      · refine own_by (fun _ k => XS.icmpYes X0.here hx rfl (pc0 := 19) (pc' := 26) rfl (hb hby own_d12_19) rfl (XT.ii_ne_t hc19) (by decide) (by decide) k) ?_
        show own_G _ _ _ _ _ _ _ (s₁.setTop (mkF m 26 #[.val (.ref a0), .val (.int p1), .val (.int p2), .val (.int p3), .val (.int p4)] []))
        refine own_by (fun _ k => XS.iconst X0.here hx rfl (hb hby own_d12_26) k) ?_
        show own_G _ _ _ _ _ _ _ (s₁.setTop (mkF m 27 #[.val (.ref a0), .val (.int p1), .val (.int p2), .val (.int p3), .val (.int p4)] [(.int (0 : Int32))]))
        exact own_end X0 (v := some (.int (nar .boolean (0 : Int32)))) (fun h => by rw [Bd.returns] at h; cases h) (BodyLoose.notSynchronized Bd) (fun fs hr => retN X0 hx (t := .boolean) Bd.returns (by simp) (hb hby own_d12_27) hr) (by rw [e0]; exact ⟨(by unfold own_hit; rw [if_neg (fun z => hc19 z.2.2)]; rfl), N0, rfl⟩) (by decide) (by decide)
    · refine own_by (fun _ k => XS.icmpYes X0.here hx rfl (pc0 := 7) (pc' := 26) rfl (hb hby own_d12_7) rfl (XT.ii_ge_t hc7) (by decide) (by decide) k) ?_
      show own_G _ _ _ _ _ _ _ (s₁.setTop (mkF m 26 #[.val (.ref a0), .val (.int p1), .val (.int p2), .val (.int p3), .val (.int p4)] []))
      refine own_by (fun _ k => XS.iconst X0.here hx rfl (hb hby own_d12_26) k) ?_
      show own_G _ _ _ _ _ _ _ (s₁.setTop (mkF m 27 #[.val (.ref a0), .val (.int p1), .val (.int p2), .val (.int p3), .val (.int p4)] [(.int (0 : Int32))]))
      exact own_end X0 (v := some (.int (nar .boolean (0 : Int32)))) (fun h => by rw [Bd.returns] at h; cases h) (BodyLoose.notSynchronized Bd) (fun fs hr => retN X0 hx (t := .boolean) Bd.returns (by simp) (hb hby own_d12_27) hr) (by rw [e0]; exact ⟨(by unfold own_hit; rw [if_neg (fun z => (fun z => hc7 ((own_lt h1 h3).mpr z)) z.2.1)]; rfl), N0, rfl⟩) (by decide) (by decide)
theorem own_d13_0 : decode prog_29_method_23_code 0 = .ok (.aload_n 0, 1) := by decide +kernel
theorem own_d13_1 : decode prog_29_method_23_code 1 = .ok (.getfield 33, 3) := by decide +kernel
theorem own_d13_4 : decode prog_29_method_23_code 4 = .ok (.istore_n 2, 1) := by decide +kernel
theorem own_d13_5 : decode prog_29_method_23_code 5 = .ok (.iload_n 2, 1) := by decide +kernel
theorem own_d13_6 : decode prog_29_method_23_code 6 = .ok (.aload_n 0, 1) := by decide +kernel
theorem own_d13_7 : decode prog_29_method_23_code 7 = .ok (.getfield 37, 3) := by decide +kernel
theorem own_d13_10 : decode prog_29_method_23_code 10 = .ok (.if_icmp .ge 25, 3) := by decide +kernel
theorem own_d13_13 : decode prog_29_method_23_code 13 = .ok (.aload_n 0, 1) := by decide +kernel
theorem own_d13_14 : decode prog_29_method_23_code 14 = .ok (.getfield 29, 3) := by decide +kernel
theorem own_d13_17 : decode prog_29_method_23_code 17 = .ok (.iload_n 2, 1) := by decide +kernel
theorem own_d13_18 : decode prog_29_method_23_code 18 = .ok (.baload, 1) := by decide +kernel
theorem own_d13_19 : decode prog_29_method_23_code 19 = .ok (.sipush 255, 3) := by decide +kernel
theorem own_d13_22 : decode prog_29_method_23_code 22 = .ok (.iand, 1) := by decide +kernel
theorem own_d13_23 : decode prog_29_method_23_code 23 = .ok (.iload_n 1, 1) := by decide +kernel
theorem own_d13_24 : decode prog_29_method_23_code 24 = .ok (.if_icmp .ne 5, 3) := by decide +kernel
theorem own_d13_27 : decode prog_29_method_23_code 27 = .ok (.iload_n 2, 1) := by decide +kernel
theorem own_d13_28 : decode prog_29_method_23_code 28 = .ok (.ireturn, 1) := by decide +kernel
theorem own_d13_29 : decode prog_29_method_23_code 29 = .ok (.iinc 2 1, 3) := by decide +kernel
theorem own_d13_32 : decode prog_29_method_23_code 32 = .ok (.goto (-27), 3) := by decide +kernel
theorem own_d13_35 : decode prog_29_method_23_code 35 = .ok (.iconst (-1), 1) := by decide +kernel
theorem own_d13_36 : decode prog_29_method_23_code 36 = .ok (.ireturn, 1) := by decide +kernel
theorem own_ef12 (m : MethodId) (x0 : Addr) (x1 : Int32) : entryFrame m #[(.ref x0), (.int x1)] 3 = mkF m 0 #[.val (.ref x0), .val (.int x1), .unset] [] := by first | (simp [entryFrame, mkF, argsToLocals, Value.category]; done) | rfl
def own_Q12 (Z : State) (a0 : Addr) (p1 : Int32) (ai : Addr) (po : Int32) (li : Int32) (F : Nat → Int32) (pn : Nat) (qn : Nat) (h0 : Heap) (n0 : Nat) (v : Option Value) (h : Heap) (L : List Loc) : Prop := v = some (.int (own_find F p1 (qn - pn) pn)) ∧ Fr n0 L ∧ h = h0
set_option maxRecDepth 65536 in
set_option maxHeartbeats 40000000 in
theorem rm12 (l : Launch) (Z : State) (aw : Array Value) (hw : ∀ d ∈ tables_1, d.before aw Z = true) (ws : List Jvm.Cond) (a0 : Addr) (p1 : Int32) (ai : Addr) (po : Int32) (li : Int32) (F : Nat → Int32) (pn : Nat) (qn : Nat) (h0 : Heap) (n0 : Nat) (Z0 : n0 ≤ h0.size) (Fi : Fld Z h0 a0 "com/example/wirelore/wirelore/dissection/ByteReader" "input" "[B" (.ref ai)) (Fp : Fld Z h0 a0 "com/example/wirelore/wirelore/dissection/ByteReader" "position" "I" (.int po)) (Fl : Fld Z h0 a0 "com/example/wirelore/wirelore/dissection/ByteReader" "limit" "I" (.int li)) (VA : own_AB Z h0 ai 4 F) (hpo : po.toInt = pn) (hli : li.toInt = qn) (hpq : pn ≤ qn) (hq : qn ≤ 4) :
    MetFree l (⟨"com/example/wirelore/wirelore/dissection/ByteReader", "indexOf", "(I)I"⟩ : MethodName) (head1 (Jvm.Cond.code (⟨"com/example/wirelore/wirelore/dissection/ByteReader", "indexOf", "(I)I"⟩ : MethodName) prog_29_method_23_code 3 (some .int) :: ws) ({ frames := 0, cells := 0, slots := 0, locals := 0 } : Room)) (fun a U => a = #[(.ref a0), (.int p1)] ∧ Z.Warmed39 U.vm ∧ U.heap = h0) (fun _ _ _ _ _ => True) (fun _ U o U' => ∃ v L, o = .returned v ∧ own_Q12 Z a0 p1 ai po li F pn qn h0 n0 v U'.heap L ∧ FrameEnd U o U' L ({ frames := 0, cells := 0, slots := 0, locals := 0 } : Room).cells ({ frames := 0, cells := 0, slots := 0, locals := 0 } : Room).slots) := by
  refine MetFree.of_bodySF (plainFor_of_name own_pn0) hisR ?_
  intro p e s m args below meth c s₁ Bd hml0 hP hK
  obtain ⟨rfl, hZ, hh⟩ := hP
  have hx := Bd.exec
  have hby := Bd.bytes
  have hml : c.maxLocals = 3 := hml0
  have hown : s.vm.findClass "com/example/wirelore/wirelore/dissection/ByteReader" = some m.cls := findClass_of_methodNamed Bd.named
  have hnm := (name_of_methodNamed Bd.named Bd.method).1
  have X0 : Stand p l e ({ frames := 0, cells := 0, slots := 0, locals := 0 } : Room) s m #[(.ref a0), (.int p1)] below meth c s₁ [] 0 0 := Stand.of_body Bd
  have e0 : s₁.heap = h0 := by rw [← hh, Bd.state]; rfl
  have N0 := Fr.nil n0
  show own_G p.tables e below s (own_Q12 Z a0 p1 ai po li F pn qn h0 n0) ({ frames := 0, cells := 0, slots := 0, locals := 0 } : Room).cells ({ frames := 0, cells := 0, slots := 0, locals := 0 } : Room).slots (s₁.setTop (entryFrame m #[(.ref a0), (.int p1)] 3))
  refine own_by (fun _ k => castTop (own_ef12 m a0 p1) k) ?_
  show own_G _ _ _ _ _ _ _ (s₁.setTop (mkF m 0 #[.val (.ref a0), .val (.int p1), .unset] []))
  refine own_by (fun _ k => XS.aloadN X0.here hx rfl (hb hby own_d13_0) rfl rfl k) ?_
  show own_G _ _ _ _ _ _ _ (s₁.setTop (mkF m 1 #[.val (.ref a0), .val (.int p1), .unset] [(.ref a0)]))
  obtain ⟨T50, X50, e50, st50⟩ := getF X0 hx hZ hown (host := "") (Or.inl (hw _ (List.mem_of_getElem? (i := 19) rfl))) Via.refl e0 Fp (g := (mkF m 1 #[.val (.ref a0), .val (.int p1), .unset] [(.ref a0)])) rfl rfl (hb hby own_d13_1)
  refine own_by st50 ?_
  show own_G _ _ _ _ _ _ _ (T50.setTop (mkF m 4 #[.val (.ref a0), .val (.int p1), .unset] [(.int po)]))
  refine own_by (fun _ k => XS.istoreN X50.here hx rfl (hb hby own_d13_4) rfl (l' := #[.val (.ref a0), .val (.int p1), .val (.int po)]) rfl k) ?_
  have J5 : ∀ (kk5 : Nat) (Tj51 : State) (lj51 : List Loc) (Xj51 : Stand p l e ({ frames := 0, cells := 0, slots := 0, locals := 0 } : Room) s m #[(.ref a0), (.int p1)] below meth c Tj51 lj51 0 0) (Nj51 : Fr n0 lj51) (ej51 : Tj51.heap = h0) (ii : Int32) (i : Nat) (hii : ii.toInt = i) (hiq : i ≤ qn) (hfi : own_find F p1 (qn - i) i = own_find F p1 (qn - pn) pn) (hk5 : qn - i < kk5), own_G p.tables e below s (own_Q12 Z a0 p1 ai po li F pn qn h0 n0) ({ frames := 0, cells := 0, slots := 0, locals := 0 } : Room).cells ({ frames := 0, cells := 0, slots := 0, locals := 0 } : Room).slots (Tj51.setTop (mkF m 5 #[.val (.ref a0), .val (.int p1), .val (.int ii)] [])) := by
    intro kk5
    induction kk5 with
    | zero => intro Tj51 lj51 Xj51 Nj51 ej51 ii i hii hiq hfi hk5; omega
    | succ kk5 ih5 =>
      intro Tj51 lj51 Xj51 Nj51 ej51 ii i hii hiq hfi hk5
      show own_G _ _ _ _ _ _ _ (Tj51.setTop (mkF m 5 #[.val (.ref a0), .val (.int p1), .val (.int ii)] []))
      refine own_by (fun _ k => XS.iloadN Xj51.here hx rfl (hb hby own_d13_5) rfl  k) ?_
      show own_G _ _ _ _ _ _ _ (Tj51.setTop (mkF m 6 #[.val (.ref a0), .val (.int p1), .val (.int ii)] [(.int ii)]))
      refine own_by (fun _ k => XS.aloadN Xj51.here hx rfl (hb hby own_d13_6) rfl rfl k) ?_
      show own_G _ _ _ _ _ _ _ (Tj51.setTop (mkF m 7 #[.val (.ref a0), .val (.int p1), .val (.int ii)] [(.ref a0), (.int ii)]))
      obtain ⟨T52, X52, e52, st52⟩ := getF Xj51 hx hZ hown (host := "") (Or.inl (hw _ (List.mem_of_getElem? (i := 21) rfl))) Via.refl ej51 Fl (g := (mkF m 7 #[.val (.ref a0), .val (.int p1), .val (.int ii)] [(.ref a0), (.int ii)])) rfl rfl (hb hby own_d13_7)
      refine own_by st52 ?_
      show own_G _ _ _ _ _ _ _ (T52.setTop (mkF m 10 #[.val (.ref a0), .val (.int p1), .val (.int ii)] [(.int li), (.int ii)]))
      by_cases hc10 : ii < li
      · refine own_by (fun _ k => XS.icmpNo X52.here hx rfl (hb hby own_d13_10) rfl (XT.ii_ge_f hc10) k) ?_
        show own_G _ _ _ _ _ _ _ (T52.setTop (mkF m 13 #[.val (.ref a0), .val (.int p1), .val (.int ii)] []))
        have hlt : i < qn := (own_lt hii hli).mp hc10
        refine own_by (fun _ k => XS.aloadN X52.here hx rfl (hb hby own_d13_13) rfl rfl k) ?_
        show own_G _ _ _ _ _ _ _ (T52.setTop (mkF m 14 #[.val (.ref a0), .val (.int p1), .val (.int ii)] [(.ref a0)]))
        obtain ⟨T53, X53, e53, st53⟩ := getF X52 hx hZ hown (host := "") (Or.inl (hw _ (List.mem_of_getElem? (i := 17) rfl))) Via.refl e52 Fi (g := (mkF m 14 #[.val (.ref a0), .val (.int p1), .val (.int ii)] [(.ref a0)])) rfl rfl (hb hby own_d13_14)
        refine own_by st53 ?_
        show own_G _ _ _ _ _ _ _ (T53.setTop (mkF m 17 #[.val (.ref a0), .val (.int p1), .val (.int ii)] [(.ref ai)]))
        refine own_by (fun _ k => XS.iloadN X53.here hx rfl (hb hby own_d13_17) rfl  k) ?_
        show own_G _ _ _ _ _ _ _ (T53.setTop (mkF m 18 #[.val (.ref a0), .val (.int p1), .val (.int ii)] [(.int ii), (.ref ai)]))
        refine own_by (own_ldB X53 hx hZ e53 VA (k := i) hii (by omega) (g := (mkF m 18 #[.val (.ref a0), .val (.int p1), .val (.int ii)] [(.int ii), (.ref ai)])) rfl rfl (hb hby own_d13_18)) ?_
        show own_G _ _ _ _ _ _ _ (T53.setTop (mkF m 19 #[.val (.ref a0), .val (.int p1), .val (.int ii)] [(.int (F i))]))
        refine own_by (fun _ k => XS.sipush X53.here hx rfl (hb hby own_d13_19) k) ?_
        show own_G _ _ _ _ _ _ _ (T53.setTop (mkF m 22 #[.val (.ref a0), .val (.int p1), .val (.int ii)] [(.int (255 : Int32)), (.int (F i))]))
        refine own_by (fun _ k => XS.iand X53.here hx rfl (hb hby own_d13_22) rfl k) ?_
        show own_G _ _ _ _ _ _ _ (T53.setTop (mkF m 23 #[.val (.ref a0), .val (.int p1), .val (.int ii)] [(.int ((F i) &&& (255 : Int32)))]))
        refine own_by (fun _ k => XS.iloadN X53.here hx rfl (hb hby own_d13_23) rfl  k) ?_
        show own_G _ _ _ _ _ _ _ (T53.setTop (mkF m 24 #[.val (.ref a0), .val (.int p1), .val (.int ii)] [(.int p1), (.int ((F i) &&& (255 : Int32)))]))
        by_cases hc24 : ((F i) &&& (255 : Int32)) = p1
        · refine own_by (fun _ k => XS.icmpNo X53.here hx rfl (hb hby own_d13_24) rfl (XT.ii_ne_f hc24) k) ?_
          show own_G _ _ _ _ _ _ _ (T53.setTop (mkF m 27 #[.val (.ref a0), .val (.int p1), .val (.int ii)] []))
          refine own_by (fun _ k => XS.iloadN X53.here hx rfl (hb hby own_d13_27) rfl  k) ?_
          show own_G _ _ _ _ _ _ _ (T53.setTop (mkF m 28 #[.val (.ref a0), .val (.int p1), .val (.int ii)] [(.int ii)]))
          exact own_end X53 (v := some (.int ii)) (fun h => by rw [Bd.returns] at h; cases h) (BodyLoose.notSynchronized Bd) (fun fs hr => retI X53 hx Bd.returns (hb hby own_d13_28) hr) (by rw [e53]; exact ⟨(by rw [← hfi, show qn - i = (qn - (i + 1)) + 1 by omega, own_find, if_pos hc24, ← own_nat hii]), Nj51, rfl⟩) (by decide) (by decide)
        · refine own_by (fun _ k => XS.icmpYes X53.here hx rfl (pc0 := 24) (pc' := 29) rfl (hb hby own_d13_24) rfl (XT.ii_ne_t hc24) (by decide) (by decide) k) ?_
          show own_G _ _ _ _ _ _ _ (T53.setTop (mkF m 29 #[.val (.ref a0), .val (.int p1), .val (.int ii)] []))
          refine own_by (fun _ k => XS.iinc X53.here hx rfl (hb hby own_d13_29) rfl (l' := #[.val (.ref a0), .val (.int p1), .val (.int (ii + (1 : Int32)))]) rfl k) ?_
          show own_G _ _ _ _ _ _ _ (T53.setTop (mkF m 32 #[.val (.ref a0), .val (.int p1), .val (.int (ii + (1 : Int32)))] []))
          refine own_by (fun _ k => XS.goto X53.here hx rfl (pc0 := 32) (pc' := 5) rfl (hb hby own_d13_32) (by decide) (by decide) k) ?_
          exact ih5 T53 _ X53 Nj51 e53 (ii + (1 : Int32)) (i + 1) (own_suc hii (by omega)) (by omega) (by rw [← hfi, show qn - i = (qn - (i + 1)) + 1 by omega, own_find, if_neg hc24]) (by omega)
      · refine own_by (fun _ k => XS.icmpYes X52.here hx rfl (pc0 := 10) (pc' := 35) rfl (hb hby own_d13_10) rfl (XT.ii_ge_t hc10) (by decide) (by decide) k) ?_
        show own_G _ _ _ _ _ _ _ (T52.setTop (mkF m 35 #[.val (.ref a0), .val (.int p1), .val (.int ii)] []))
        refine own_by (fun _ k => XS.iconst X52.here hx rfl (hb hby own_d13_35) k) ?_
        show own_G _ _ _ _ _ _ _ (T52.setTop (mkF m 36 #[.val (.ref a0), .val (.int p1), .val (.int ii)] [(.int (-1 : Int32))]))
        exact own_end X52 (v := some (.int (-1 : Int32))) (fun h => by rw [Bd.returns] at h; cases h) (BodyLoose.notSynchronized Bd) (fun fs hr => retI X52 hx Bd.returns (hb hby own_d13_36) hr) (by rw [e52]; exact ⟨(by rw [← hfi, show qn - i = 0 by have nz : ¬ i < qn := fun z => hc10 ((own_lt hii hli).mpr z); omega]; rfl), Nj51, rfl⟩) (by decide) (by decide)
  exact J5 (qn + 1) T50 _ X50 N0 e50 po pn hpo hpq rfl (by omega)
theorem own_pd4 : parseMethodDescriptor "([B)V" = some ⟨[(.array .byte)], none⟩ := by decide +kernel
theorem own_pd5 : parseMethodDescriptor "(I)V" = some ⟨[.int], none⟩ := by decide +kernel
theorem own_pd6 : parseMethodDescriptor "(I)Lcom/example/wirelore/wirelore/dissection/ByteReader;" = some ⟨[.int], some (.object "com/example/wirelore/wirelore/dissection/ByteReader")⟩ := by decide +kernel
theorem own_pd7 : parseMethodDescriptor "(I)I" = some ⟨[.int], some .int⟩ := by decide +kernel
theorem own_pd8 : parseMethodDescriptor "([BIIII)Z" = some ⟨[(.array .byte), .int, .int, .int, .int], some .boolean⟩ := by decide +kernel
theorem own_ef0 (m : MethodId) (x0 : Int32) (x1 : Int32) (x2 : Int32) (x3 : Int32) : entryFrame m #[(.int x0), (.int x1), (.int x2), (.int x3)] maxLocals = mkF m 0 #[.val (.int x0), .val (.int x1), .val (.int x2), .val (.int x3), .unset, .unset, .unset, .unset, .unset] [] := by first | (simp [entryFrame, mkF, argsToLocals, Value.category, maxLocals]; done) | rfl
def own_Q0 (Z : State) (p0 : Int32) (p1 : Int32) (p2 : Int32) (p3 : Int32) (h0 : Heap) (n0 : Nat) (v : Option Value) (h : Heap) (L : List Loc) : Prop := v = some (.int 1) ∧ Fr n0 L
set_option maxRecDepth 65536 in
set_option maxHeartbeats 40000000 in
theorem rm0 (l : Launch) (Z : State) (aw : Array Value) (hw : ∀ d ∈ tables_1, d.before aw Z = true) (ws : List Jvm.Cond) (p0 : Int32) (p1 : Int32) (p2 : Int32) (p3 : Int32) (h0 : Heap) (n0 : Nat) (Z0 : n0 ≤ h0.size) :
    MetFree l x (head1 (Jvm.Cond.code x code maxLocals ret :: ws) room_1) (fun a U => a = #[(.int p0), (.int p1), (.int p2), (.int p3)] ∧ Z.Warmed39 U.vm ∧ U.heap = h0) (fun _ _ _ _ _ => True) (fun _ U o U' => ∃ v L, o = .returned v ∧ own_Q0 Z p0 p1 p2 p3 h0 n0 v U'.heap L ∧ FrameEnd U o U' L room_1.cells room_1.slots) := by
  refine MetFree.of_bodySF (plainFor_of_name own_pn1) hisR ?_
  intro p e s m args below meth c s₁ Bd hml0 hP hK
  obtain ⟨rfl, hZ, hh⟩ := hP
  have hx := Bd.exec
  have hby := Bd.bytes
  have hml : c.maxLocals = 9 := hml0
  have hown : s.vm.findClass "com/example/wirelore/wirelore/dissection/ByteReaderIndexOfPinLaw" = some m.cls := findClass_of_methodNamed Bd.named
  have hnm := (name_of_methodNamed Bd.named Bd.method).1
  have X0 : Stand p l e room_1 s m #[(.int p0), (.int p1), (.int p2), (.int p3)] below meth c s₁ [] 0 0 := Stand.of_body Bd
  have e0 : s₁.heap = h0 := by rw [← hh, Bd.state]; rfl
  have N0 := Fr.nil n0
  show own_G p.tables e below s (own_Q0 Z p0 p1 p2 p3 h0 n0) room_1.cells room_1.slots (s₁.setTop (entryFrame m #[(.int p0), (.int p1), (.int p2), (.int p3)] maxLocals))
  refine own_by (fun _ k => castTop (own_ef0 m p0 p1 p2 p3) k) ?_
  show own_G _ _ _ _ _ _ _ (s₁.setTop (mkF m 0 #[.val (.int p0), .val (.int p1), .val (.int p2), .val (.int p3), .unset, .unset, .unset, .unset, .unset] []))
  refine own_by (fun _ k => XS.iconst X0.here hx rfl (hb hby at_0) k) ?_
  show own_G _ _ _ _ _ _ _ (s₁.setTop (mkF m 1 #[.val (.int p0), .val (.int p1), .val (.int p2), .val (.int p3), .unset, .unset, .unset, .unset, .unset] [(.int (4 : Int32))]))
  obtain ⟨T54, h54, X54, e54, E54, A54, st54⟩ := own_newB X0 hx hZ (hw _ (List.mem_of_getElem? (i := 0) rfl)) e0 (g := (mkF m 1 #[.val (.int p0), .val (.int p1), .val (.int p2), .val (.int p3), .unset, .unset, .unset, .unset, .unset] [(.int (4 : Int32))])) rfl (hb hby at_1) rfl (N := 4) (by decide) (cap := 4) (Nat.le_refl _) (by decide) (by decide) (by decide)
  obtain ⟨b54, g54⟩ : ∃ z, z = h0.size := ⟨_, rfl⟩
  rw [← g54] at A54 st54
  have g_b54 : n0 ≤ b54 := Nat.le_trans Z0 (Nat.le_of_eq g54.symm)
  refine own_by st54 ?_
  have Z56 : n0 ≤ h54.size := Nat.le_trans Z0 E54.1
  show own_G _ _ _ _ _ _ _ (T54.setTop (mkF m 3 #[.val (.int p0), .val (.int p1), .val (.int p2), .val (.int p3), .unset, .unset, .unset, .unset, .unset] [(.ref b54)]))
  refine own_by (fun _ k => XS.astore X54.here hx rfl (hb hby at_3) rfl rfl (l' := #[.val (.int p0), .val (.int p1), .val (.int p2), .val (.int p3), .val (.ref b54), .unset, .unset, .unset, .unset]) rfl k) ?_
  show own_G _ _ _ _ _ _ _ (T54.setTop (mkF m 5 #[.val (.int p0), .val (.int p1), .val (.int p2), .val (.int p3), .val (.ref b54), .unset, .unset, .unset, .unset] []))
  refine own_by (fun _ k => XS.aload X54.here hx rfl (hb hby at_5) rfl rfl k) ?_
  show own_G _ _ _ _ _ _ _ (T54.setTop (mkF m 7 #[.val (.int p0), .val (.int p1), .val (.int p2), .val (.int p3), .val (.ref b54), .unset, .unset, .unset, .unset] [(.ref b54)]))
  refine own_by (fun _ k => XS.iconst X54.here hx rfl (hb hby at_7) k) ?_
  show own_G _ _ _ _ _ _ _ (T54.setTop (mkF m 8 #[.val (.int p0), .val (.int p1), .val (.int p2), .val (.int p3), .val (.ref b54), .unset, .unset, .unset, .unset] [(.int (0 : Int32)), (.ref b54)]))
  refine own_by (fun _ k => XS.iloadN X54.here hx rfl (hb hby at_8) rfl  k) ?_
  show own_G _ _ _ _ _ _ _ (T54.setTop (mkF m 9 #[.val (.int p0), .val (.int p1), .val (.int p2), .val (.int p3), .val (.ref b54), .unset, .unset, .unset, .unset] [(.int p0), (.int (0 : Int32)), (.ref b54)]))
  refine own_by (fun _ k => XT.i2b X54.here hx rfl (hb hby at_9) rfl k) ?_
  show own_G _ _ _ _ _ _ _ (T54.setTop (mkF m 10 #[.val (.int p0), .val (.int p1), .val (.int p2), .val (.int p3), .val (.ref b54), .unset, .unset, .unset, .unset] [(.int p0.toInt8.toInt32), (.int (0 : Int32)), (.ref b54)]))
  obtain ⟨T57, h57, X57, e57, W57, A57, st57⟩ := own_stB X54 hx hZ e54 A54 (k := 0) (by decide) (by decide) (g := (mkF m 10 #[.val (.int p0), .val (.int p1), .val (.int p2), .val (.int p3), .val (.ref b54), .unset, .unset, .unset, .unset] [(.int p0.toInt8.toInt32), (.int (0 : Int32)), (.ref b54)])) rfl rfl (hb hby at_10)
  refine own_by st57 ?_
  have N57 := Fr.snoc X57 N0 g_b54
  have Z59 : n0 ≤ h57.size := Nat.le_trans Z56 (Nat.le_of_eq W57.size.symm)
  show own_G _ _ _ _ _ _ _ (T57.setTop (mkF m 11 #[.val (.int p0), .val (.int p1), .val (.int p2), .val (.int p3), .val (.ref b54), .unset, .unset, .unset, .unset] []))
  refine own_by (fun _ k => XS.aload X57.here hx rfl (hb hby at_11) rfl rfl k) ?_
  show own_G _ _ _ _ _ _ _ (T57.setTop (mkF m 13 #[.val (.int p0), .val (.int p1), .val (.int p2), .val (.int p3), .val (.ref b54), .unset, .unset, .unset, .unset] [(.ref b54)]))
  refine own_by (fun _ k => XS.iconst X57.here hx rfl (hb hby at_13) k) ?_
  show own_G _ _ _ _ _ _ _ (T57.setTop (mkF m 14 #[.val (.int p0), .val (.int p1), .val (.int p2), .val (.int p3), .val (.ref b54), .unset, .unset, .unset, .unset] [(.int (1 : Int32)), (.ref b54)]))
  refine own_by (fun _ k => XS.iloadN X57.here hx rfl (hb hby at_14) rfl  k) ?_
  show own_G _ _ _ _ _ _ _ (T57.setTop (mkF m 15 #[.val (.int p0), .val (.int p1), .val (.int p2), .val (.int p3), .val (.ref b54), .unset, .unset, .unset, .unset] [(.int p0), (.int (1 : Int32)), (.ref b54)]))
  refine own_by (fun _ k => XS.bipush X57.here hx rfl (hb hby at_15) k) ?_
  show own_G _ _ _ _ _ _ _ (T57.setTop (mkF m 17 #[.val (.int p0), .val (.int p1), .val (.int p2), .val (.int p3), .val (.ref b54), .unset, .unset, .unset, .unset] [(.int (8 : Int32)), (.int p0), (.int (1 : Int32)), (.ref b54)]))
  refine own_by (fun _ k => XT.iushr X57.here hx rfl (hb hby at_17) rfl k) ?_
  show own_G _ _ _ _ _ _ _ (T57.setTop (mkF m 18 #[.val (.int p0), .val (.int p1), .val (.int p2), .val (.int p3), .val (.ref b54), .unset, .unset, .unset, .unset] [(.int (XT.ushr p0 (8 : Int32))), (.int (1 : Int32)), (.ref b54)]))
  refine own_by (fun _ k => XT.i2b X57.here hx rfl (hb hby at_18) rfl k) ?_
  show own_G _ _ _ _ _ _ _ (T57.setTop (mkF m 19 #[.val (.int p0), .val (.int p1), .val (.int p2), .val (.int p3), .val (.ref b54), .unset, .unset, .unset, .unset] [(.int (XT.ushr p0 (8 : Int32)).toInt8.toInt32), (.int (1 : Int32)), (.ref b54)]))
  obtain ⟨T60, h60, X60, e60, W60, A60, st60⟩ := own_stB X57 hx hZ e57 A57 (k := 1) (by decide) (by decide) (g := (mkF m 19 #[.val (.int p0), .val (.int p1), .val (.int p2), .val (.int p3), .val (.ref b54), .unset, .unset, .unset, .unset] [(.int (XT.ushr p0 (8 : Int32)).toInt8.toInt32), (.int (1 : Int32)), (.ref b54)])) rfl rfl (hb hby at_19)
  refine own_by st60 ?_
  have N60 := Fr.snoc X60 N57 g_b54
  have Z62 : n0 ≤ h60.size := Nat.le_trans Z59 (Nat.le_of_eq W60.size.symm)
  show own_G _ _ _ _ _ _ _ (T60.setTop (mkF m 20 #[.val (.int p0), .val (.int p1), .val (.int p2), .val (.int p3), .val (.ref b54), .unset, .unset, .unset, .unset] []))
  refine own_by (fun _ k => XS.aload X60.here hx rfl (hb hby at_20) rfl rfl k) ?_
  show own_G _ _ _ _ _ _ _ (T60.setTop (mkF m 22 #[.val (.int p0), .val (.int p1), .val (.int p2), .val (.int p3), .val (.ref b54), .unset, .unset, .unset, .unset] [(.ref b54)]))
  refine own_by (fun _ k => XS.iconst X60.here hx rfl (hb hby at_22) k) ?_
  show own_G _ _ _ _ _ _ _ (T60.setTop (mkF m 23 #[.val (.int p0), .val (.int p1), .val (.int p2), .val (.int p3), .val (.ref b54), .unset, .unset, .unset, .unset] [(.int (2 : Int32)), (.ref b54)]))
  refine own_by (fun _ k => XS.iloadN X60.here hx rfl (hb hby at_23) rfl  k) ?_
  show own_G _ _ _ _ _ _ _ (T60.setTop (mkF m 24 #[.val (.int p0), .val (.int p1), .val (.int p2), .val (.int p3), .val (.ref b54), .unset, .unset, .unset, .unset] [(.int p0), (.int (2 : Int32)), (.ref b54)]))
  refine own_by (fun _ k => XS.bipush X60.here hx rfl (hb hby at_24) k) ?_
  show own_G _ _ _ _ _ _ _ (T60.setTop (mkF m 26 #[.val (.int p0), .val (.int p1), .val (.int p2), .val (.int p3), .val (.ref b54), .unset, .unset, .unset, .unset] [(.int (16 : Int32)), (.int p0), (.int (2 : Int32)), (.ref b54)]))
  refine own_by (fun _ k => XT.iushr X60.here hx rfl (hb hby at_26) rfl k) ?_
  show own_G _ _ _ _ _ _ _ (T60.setTop (mkF m 27 #[.val (.int p0), .val (.int p1), .val (.int p2), .val (.int p3), .val (.ref b54), .unset, .unset, .unset, .unset] [(.int (XT.ushr p0 (16 : Int32))), (.int (2 : Int32)), (.ref b54)]))
  refine own_by (fun _ k => XT.i2b X60.here hx rfl (hb hby at_27) rfl k) ?_
  show own_G _ _ _ _ _ _ _ (T60.setTop (mkF m 28 #[.val (.int p0), .val (.int p1), .val (.int p2), .val (.int p3), .val (.ref b54), .unset, .unset, .unset, .unset] [(.int (XT.ushr p0 (16 : Int32)).toInt8.toInt32), (.int (2 : Int32)), (.ref b54)]))
  obtain ⟨T63, h63, X63, e63, W63, A63, st63⟩ := own_stB X60 hx hZ e60 A60 (k := 2) (by decide) (by decide) (g := (mkF m 28 #[.val (.int p0), .val (.int p1), .val (.int p2), .val (.int p3), .val (.ref b54), .unset, .unset, .unset, .unset] [(.int (XT.ushr p0 (16 : Int32)).toInt8.toInt32), (.int (2 : Int32)), (.ref b54)])) rfl rfl (hb hby at_28)
  refine own_by st63 ?_
  have N63 := Fr.snoc X63 N60 g_b54
  have Z65 : n0 ≤ h63.size := Nat.le_trans Z62 (Nat.le_of_eq W63.size.symm)
  show own_G _ _ _ _ _ _ _ (T63.setTop (mkF m 29 #[.val (.int p0), .val (.int p1), .val (.int p2), .val (.int p3), .val (.ref b54), .unset, .unset, .unset, .unset] []))
  refine own_by (fun _ k => XS.aload X63.here hx rfl (hb hby at_29) rfl rfl k) ?_
  show own_G _ _ _ _ _ _ _ (T63.setTop (mkF m 31 #[.val (.int p0), .val (.int p1), .val (.int p2), .val (.int p3), .val (.ref b54), .unset, .unset, .unset, .unset] [(.ref b54)]))
  refine own_by (fun _ k => XS.iconst X63.here hx rfl (hb hby at_31) k) ?_
  show own_G _ _ _ _ _ _ _ (T63.setTop (mkF m 32 #[.val (.int p0), .val (.int p1), .val (.int p2), .val (.int p3), .val (.ref b54), .unset, .unset, .unset, .unset] [(.int (3 : Int32)), (.ref b54)]))
  refine own_by (fun _ k => XS.iloadN X63.here hx rfl (hb hby at_32) rfl  k) ?_
  show own_G _ _ _ _ _ _ _ (T63.setTop (mkF m 33 #[.val (.int p0), .val (.int p1), .val (.int p2), .val (.int p3), .val (.ref b54), .unset, .unset, .unset, .unset] [(.int p0), (.int (3 : Int32)), (.ref b54)]))
  refine own_by (fun _ k => XS.bipush X63.here hx rfl (hb hby at_33) k) ?_
  show own_G _ _ _ _ _ _ _ (T63.setTop (mkF m 35 #[.val (.int p0), .val (.int p1), .val (.int p2), .val (.int p3), .val (.ref b54), .unset, .unset, .unset, .unset] [(.int (24 : Int32)), (.int p0), (.int (3 : Int32)), (.ref b54)]))
  refine own_by (fun _ k => XT.iushr X63.here hx rfl (hb hby at_35) rfl k) ?_
  show own_G _ _ _ _ _ _ _ (T63.setTop (mkF m 36 #[.val (.int p0), .val (.int p1), .val (.int p2), .val (.int p3), .val (.ref b54), .unset, .unset, .unset, .unset] [(.int (XT.ushr p0 (24 : Int32))), (.int (3 : Int32)), (.ref b54)]))
  refine own_by (fun _ k => XT.i2b X63.here hx rfl (hb hby at_36) rfl k) ?_
  show own_G _ _ _ _ _ _ _ (T63.setTop (mkF m 37 #[.val (.int p0), .val (.int p1), .val (.int p2), .val (.int p3), .val (.ref b54), .unset, .unset, .unset, .unset] [(.int (XT.ushr p0 (24 : Int32)).toInt8.toInt32), (.int (3 : Int32)), (.ref b54)]))
  obtain ⟨T66, h66, X66, e66, W66, A66, st66⟩ := own_stB X63 hx hZ e63 A63 (k := 3) (by decide) (by decide) (g := (mkF m 37 #[.val (.int p0), .val (.int p1), .val (.int p2), .val (.int p3), .val (.ref b54), .unset, .unset, .unset, .unset] [(.int (XT.ushr p0 (24 : Int32)).toInt8.toInt32), (.int (3 : Int32)), (.ref b54)])) rfl rfl (hb hby at_37)
  refine own_by st66 ?_
  have N66 := Fr.snoc X66 N63 g_b54
  have Z68 : n0 ≤ h66.size := Nat.le_trans Z65 (Nat.le_of_eq W66.size.symm)
  show own_G _ _ _ _ _ _ _ (T66.setTop (mkF m 38 #[.val (.int p0), .val (.int p1), .val (.int p2), .val (.int p3), .val (.ref b54), .unset, .unset, .unset, .unset] []))
  obtain ⟨FF, VF⟩ : ∃ FF : Nat → Int32, own_AB Z h66 b54 4 FF := ⟨_, A66⟩
  obtain ⟨T69, h69, X69, e69, E69, A69, D69, -, st69⟩ := newO X66 hx hZ hown (hw _ (List.mem_of_getElem? (i := 1) rfl)) (hw _ (List.mem_of_getElem? (i := 2) rfl)) (hw _ (List.mem_of_getElem? (i := 3) rfl)) e66 (g := (mkF m 38 #[.val (.int p0), .val (.int p1), .val (.int p2), .val (.int p3), .val (.ref b54), .unset, .unset, .unset, .unset] [])) rfl (hb hby at_38) (by decide) (by decide)
  obtain ⟨b69, g69⟩ : ∃ z, z = h66.size := ⟨_, rfl⟩
  rw [← g69] at A69 D69 st69
  have ne_b54_b69 : b54 ≠ b69 := Nat.ne_of_lt (Nat.lt_of_lt_of_le VF.lt (Nat.le_of_eq g69.symm))
  have g_b69 : n0 ≤ b69 := Nat.le_trans Z68 (Nat.le_of_eq g69.symm)
  refine own_by st69 ?_
  have F70_0 := VF.ext E69
  have Z71 : n0 ≤ h69.size := Nat.le_trans Z68 E69.1
  have F69_input : Fld Z h69 b69 "com/example/wirelore/wirelore/dissection/ByteReader" "input" "[B" .null := D69 (Or.inl (hw _ (List.mem_of_getElem? (i := 18) rfl))) (ty := (.array .byte)) (by decide)
  have F69_position : Fld Z h69 b69 "com/example/wirelore/wirelore/dissection/ByteReader" "position" "I" (.int (0 : Int32)) := D69 (Or.inl (hw _ (List.mem_of_getElem? (i := 20) rfl))) (ty := .int) (by decide)
  have F69_limit : Fld Z h69 b69 "com/example/wirelore/wirelore/dissection/ByteReader" "limit" "I" (.int (0 : Int32)) := D69 (Or.inl (hw _ (List.mem_of_getElem? (i := 22) rfl))) (ty := .int) (by decide)
  show own_G _ _ _ _ _ _ _ (T69.setTop (mkF m 41 #[.val (.int p0), .val (.int p1), .val (.int p2), .val (.int p3), .val (.ref b54), .unset, .unset, .unset, .unset] [(.ref b69)]))
  refine own_by (fun _ k => XS.dup X69.here hx rfl (hb hby at_41) rfl rfl k) ?_
  show own_G _ _ _ _ _ _ _ (T69.setTop (mkF m 42 #[.val (.int p0), .val (.int p1), .val (.int p2), .val (.int p3), .val (.ref b54), .unset, .unset, .unset, .unset] [(.ref b69), (.ref b69)]))
  refine own_by (fun _ k => XS.aload X69.here hx rfl (hb hby at_42) rfl rfl k) ?_
  show own_G _ _ _ _ _ _ _ (T69.setTop (mkF m 44 #[.val (.int p0), .val (.int p1), .val (.int p2), .val (.int p3), .val (.ref b54), .unset, .unset, .unset, .unset] [(.ref b54), (.ref b69), (.ref b69)]))
  obtain ⟨_, _, ⟨T72, L72, k72, n72⟩, -, X72, ⟨Lc72, hQ72, l72, y72, z72⟩, st72⟩ := X69.specialBack hx (y := (⟨"com/example/wirelore/wirelore/dissection/ByteReader", "<init>", "([B)V"⟩ : MethodName)) rfl hown (mvT hZ (hw _ (List.mem_of_getElem? (i := 4) rfl))) (mvT hZ (hw _ (List.mem_of_getElem? (i := 5) rfl))) (mvT hZ (hw _ (List.mem_of_getElem? (i := 6) rfl))) (by decide) (backOf (W := 1) (rm4 l Z aw hw [] b69 b54 FF h69 n0 Z71 A69 F69_input F69_position F69_limit F70_0 g_b69 ne_b54_b69) hZ (hw _ (List.mem_of_getElem? (i := 6) rfl)) (hw _ (List.mem_of_getElem? (i := 3) rfl)) (by decide) (by decide)) (g := (mkF m 44 #[.val (.int p0), .val (.int p1), .val (.int p2), .val (.int p3), .val (.ref b54), .unset, .unset, .unset, .unset] [(.ref b54), (.ref b69), (.ref b69)])) rfl (by rw [hml]; rfl) (Steps.refl _) (a := b69) (argsL := [(.ref b54)]) (rest := [(.ref b69)]) (lenOf own_pd4 rfl) rfl (by show 2 * 0 + _ ≤ _; exact Nat.le_of_eq rfl) (hb hby at_44) (fun _ _ => ⟨rfl, e69, (by decide : 2 + 0 ≤ _), (by decide : 7 + 0 ≤ _)⟩)
  dsimp only [Pt.U, Pt.locs, Pt.cells, Pt.slots] at X72 l72 y72 z72 st72 hQ72
  subst l72 y72 z72
  obtain ⟨h72, e72⟩ : ∃ h, T72.heap = h := ⟨_, rfl⟩
  rw [e72] at hQ72
  obtain ⟨rfl, Nq72, K72, G72_0, G72_1, G72_2, G72_3⟩ := hQ72
  have N72 := Fr.app N66 Nq72
  have F73_0 := F70_0.keep K72 (ninS ne_b54_b69 nin0)
  have F73_1 := A69.keep K72
  have Z74 : n0 ≤ h72.size := Nat.le_trans Z71 K72.1
  refine own_by (fun _ k => st72.trans k) ?_
  show own_G _ _ _ _ _ _ _ (T72.setTop (mkF m 47 #[.val (.int p0), .val (.int p1), .val (.int p2), .val (.int p3), .val (.ref b54), .unset, .unset, .unset, .unset] [(.ref b69)]))
  refine own_by (fun _ k => XS.astore X72.here hx rfl (hb hby at_47) rfl rfl (l' := #[.val (.int p0), .val (.int p1), .val (.int p2), .val (.int p3), .val (.ref b54), .val (.ref b69), .unset, .unset, .unset]) rfl k) ?_
  show own_G _ _ _ _ _ _ _ (T72.setTop (mkF m 49 #[.val (.int p0), .val (.int p1), .val (.int p2), .val (.int p3), .val (.ref b54), .val (.ref b69), .unset, .unset, .unset] []))
  refine own_by (fun _ k => XS.aload X72.here hx rfl (hb hby at_49) rfl rfl k) ?_
  show own_G _ _ _ _ _ _ _ (T72.setTop (mkF m 51 #[.val (.int p0), .val (.int p1), .val (.int p2), .val (.int p3), .val (.ref b54), .val (.ref b69), .unset, .unset, .unset] [(.ref b69)]))
  refine own_by (fun _ k => XS.iloadN X72.here hx rfl (hb hby at_51) rfl  k) ?_
  show own_G _ _ _ _ _ _ _ (T72.setTop (mkF m 52 #[.val (.int p0), .val (.int p1), .val (.int p2), .val (.int p3), .val (.ref b54), .val (.ref b69), .unset, .unset, .unset] [(.int p2), (.ref b69)]))
  refine own_by (fun _ k => XS.bipush X72.here hx rfl (hb hby at_52) k) ?_
  show own_G _ _ _ _ _ _ _ (T72.setTop (mkF m 54 #[.val (.int p0), .val (.int p1), .val (.int p2), .val (.int p3), .val (.ref b54), .val (.ref b69), .unset, .unset, .unset] [(.int (7 : Int32)), (.int p2), (.ref b69)]))
  refine own_by (fun _ k => XS.iand X72.here hx rfl (hb hby at_54) rfl k) ?_
  show own_G _ _ _ _ _ _ _ (T72.setTop (mkF m 55 #[.val (.int p0), .val (.int p1), .val (.int p2), .val (.int p3), .val (.ref b54), .val (.ref b69), .unset, .unset, .unset] [(.int (p2 &&& (7 : Int32))), (.ref b69)]))
  obtain ⟨cq75, kq75, q75a, q75b, q75c⟩ := isOf hZ e72 G72_0
  obtain ⟨_, _, ⟨T75, L75, k75, n75⟩, -, X75, ⟨Lc75, hQ75, l75, y75, z75⟩, st75⟩ := X72.virtualBack hx (y := (⟨"com/example/wirelore/wirelore/dissection/ByteReader", "narrowTo", "(I)V"⟩ : MethodName)) (z := (⟨"com/example/wirelore/wirelore/dissection/ByteReader", "narrowTo", "(I)V"⟩ : MethodName)) hown (mvT hZ (hw _ (List.mem_of_getElem? (i := 23) rfl))) (mvT hZ (hw _ (List.mem_of_getElem? (i := 24) rfl))) (notFace_of_selects (args := #[]) (mvT hZ (hw _ (List.mem_of_getElem? (i := 26) rfl)))) (mvT hZ (hw _ (List.mem_of_getElem? (i := 26) rfl))) (mvT hZ (hw _ (List.mem_of_getElem? (i := 25) rfl))) (by decide) (backOf (W := 0) (rm5 l Z aw hw [] b69 (p2 &&& (7 : Int32)) b54 (0 : Int32) (4 : Int32) h72 n0 Z74 G72_0 G72_1 G72_2 G72_3 g_b69 (own_mskn _)) hZ (hw _ (List.mem_of_getElem? (i := 27) rfl)) (hw _ (List.mem_of_getElem? (i := 3) rfl)) (by decide) (by decide)) q75a q75c (g := (mkF m 55 #[.val (.int p0), .val (.int p1), .val (.int p2), .val (.int p3), .val (.ref b54), .val (.ref b69), .unset, .unset, .unset] [(.int (p2 &&& (7 : Int32))), (.ref b69)])) rfl (by rw [hml]; rfl) (Steps.refl _) (argsL := [(.int (p2 &&& (7 : Int32)))]) (rest := []) (lenOf own_pd5 rfl) rfl (by show 2 * 0 + _ ≤ _; exact Nat.le_of_eq rfl) (hb hby at_55) (fun _ _ => ⟨rfl, e72, (by decide : 2 + 0 ≤ _), (by decide : 7 + 0 ≤ _)⟩)
  dsimp only [Pt.U, Pt.locs, Pt.cells, Pt.slots] at X75 l75 y75 z75 st75 hQ75
  subst l75 y75 z75
  obtain ⟨h75, e75⟩ : ∃ h, T75.heap = h := ⟨_, rfl⟩
  rw [e75] at hQ75
  obtain ⟨lm_75, rfl, Nq75, K75, hqlm_75, G75_0, G75_1, G75_2, G75_3⟩ := hQ75
  have N75 := Fr.app N72 Nq75
  have F76_0 := F73_0.keep K75 (ninS ne_b54_b69 nin0)
  have F76_1 := G72_0.keep K75
  have Z77 : n0 ≤ h75.size := Nat.le_trans Z74 K75.1
  refine own_by (fun _ k => st75.trans k) ?_
  show own_G _ _ _ _ _ _ _ (T75.setTop (mkF m 58 #[.val (.int p0), .val (.int p1), .val (.int p2), .val (.int p3), .val (.ref b54), .val (.ref b69), .unset, .unset, .unset] []))
  obtain ⟨pn, qn, hp, hqN, hpq, hq4⟩ := own_pq (y := p3) hqlm_75
  refine own_by (fun _ k => XS.aload X75.here hx rfl (hb hby at_58) rfl rfl k) ?_
  show own_G _ _ _ _ _ _ _ (T75.setTop (mkF m 60 #[.val (.int p0), .val (.int p1), .val (.int p2), .val (.int p3), .val (.ref b54), .val (.ref b69), .unset, .unset, .unset] [(.ref b69)]))
  refine own_by (fun _ k => XS.iloadN X75.here hx rfl (hb hby at_60) rfl  k) ?_
  show own_G _ _ _ _ _ _ _ (T75.setTop (mkF m 61 #[.val (.int p0), .val (.int p1), .val (.int p2), .val (.int p3), .val (.ref b54), .val (.ref b69), .unset, .unset, .unset] [(.int p3), (.ref b69)]))
  refine own_by (fun _ k => XS.bipush X75.here hx rfl (hb hby at_61) k) ?_
  show own_G _ _ _ _ _ _ _ (T75.setTop (mkF m 63 #[.val (.int p0), .val (.int p1), .val (.int p2), .val (.int p3), .val (.ref b54), .val (.ref b69), .unset, .unset, .unset] [(.int (7 : Int32)), (.int p3), (.ref b69)]))
  refine own_by (fun _ k => XS.iand X75.here hx rfl (hb hby at_63) rfl k) ?_
  show own_G _ _ _ _ _ _ _ (T75.setTop (mkF m 64 #[.val (.int p0), .val (.int p1), .val (.int p2), .val (.int p3), .val (.ref b54), .val (.ref b69), .unset, .unset, .unset] [(.int (p3 &&& (7 : Int32))), (.ref b69)]))
  obtain ⟨cq78, kq78, q78a, q78b, q78c⟩ := isOf hZ e75 G75_0
  obtain ⟨_, _, ⟨T78, L78, k78, n78⟩, -, X78, ⟨Lc78, hQ78, l78, y78, z78⟩, st78⟩ := X75.virtualBack hx (y := (⟨"com/example/wirelore/wirelore/dissection/ByteReader", "split", "(I)Lcom/example/wirelore/wirelore/dissection/ByteReader;"⟩ : MethodName)) (z := (⟨"com/example/wirelore/wirelore/dissection/ByteReader", "split", "(I)Lcom/example/wirelore/wirelore/dissection/ByteReader;"⟩ : MethodName)) hown (mvT hZ (hw _ (List.mem_of_getElem? (i := 32) rfl))) (mvT hZ (hw _ (List.mem_of_getElem? (i := 33) rfl))) (notFace_of_selects (args := #[]) (mvT hZ (hw _ (List.mem_of_getElem? (i := 35) rfl)))) (mvT hZ (hw _ (List.mem_of_getElem? (i := 35) rfl))) (mvT hZ (hw _ (List.mem_of_getElem? (i := 34) rfl))) (by decide) (backOf (W := 0) (rm8 l Z aw hw [] b69 (p3 &&& (7 : Int32)) b54 (0 : Int32) lm_75 FF h75 n0 Z77 G75_0 G75_1 G75_2 G75_3 F76_0 g_b69 ne_b54_b69 (by decide) (by decide) (own_mskn _) (own_in hp (by omega)).1 (own_in hp (by omega)).2) hZ (hw _ (List.mem_of_getElem? (i := 36) rfl)) (hw _ (List.mem_of_getElem? (i := 3) rfl)) (by decide) (by decide)) q78a q78c (g := (mkF m 64 #[.val (.int p0), .val (.int p1), .val (.int p2), .val (.int p3), .val (.ref b54), .val (.ref b69), .unset, .unset, .unset] [(.int (p3 &&& (7 : Int32))), (.ref b69)])) rfl (by rw [hml]; rfl) (Steps.refl _) (argsL := [(.int (p3 &&& (7 : Int32)))]) (rest := []) (lenOf own_pd6 rfl) rfl (by show 2 * 0 + _ ≤ _; exact Nat.le_of_eq rfl) (hb hby at_64) (fun _ _ => ⟨rfl, e75, (by decide : 2 + 1 ≤ _), (by decide : 7 + 3 ≤ _)⟩)
  dsimp only [Pt.U, Pt.locs, Pt.cells, Pt.slots] at X78 l78 y78 z78 st78 hQ78
  subst l78 y78 z78
  obtain ⟨h78, e78⟩ : ∃ h, T78.heap = h := ⟨_, rfl⟩
  rw [e78] at hQ78
  obtain ⟨en_78, bR78, rfl, Nq78, K78, hqen_78, G78_0, G78_1, G78_2, G78_3⟩ := hQ78
  have N78 := Fr.app N75 Nq78
  have F79_0 := F76_0.keep K78 (ninS ne_b54_b69 nin0)
  have F79_1 := G75_0.keep K78
  have Z80 : n0 ≤ h78.size := Nat.le_trans Z77 K78.1
  refine own_by (fun _ k => st78.trans k) ?_
  show own_G _ _ _ _ _ _ _ (T78.setTop (mkF m 67 #[.val (.int p0), .val (.int p1), .val (.int p2), .val (.int p3), .val (.ref b54), .val (.ref b69), .unset, .unset, .unset] [(.ref bR78)]))
  refine own_by (fun _ k => XT.pop X78.here hx rfl (hb hby at_67) rfl rfl k) ?_
  show own_G _ _ _ _ _ _ _ (T78.setTop (mkF m 68 #[.val (.int p0), .val (.int p1), .val (.int p2), .val (.int p3), .val (.ref b54), .val (.ref b69), .unset, .unset, .unset] []))
  have hpN : en_78.toInt = pn := by rw [hqen_78]; exact hp
  refine own_by (fun _ k => XS.aload X78.here hx rfl (hb hby at_68) rfl rfl k) ?_
  show own_G _ _ _ _ _ _ _ (T78.setTop (mkF m 70 #[.val (.int p0), .val (.int p1), .val (.int p2), .val (.int p3), .val (.ref b54), .val (.ref b69), .unset, .unset, .unset] [(.ref b69)]))
  obtain ⟨cq81, kq81, q81a, q81b, q81c⟩ := isOf hZ e78 G78_0
  obtain ⟨_, _, ⟨T81, L81, k81, n81⟩, -, X81, ⟨Lc81, hQ81, l81, y81, z81⟩, st81⟩ := X78.virtualBack hx (y := (⟨"com/example/wirelore/wirelore/dissection/ByteReader", "position", "()I"⟩ : MethodName)) (z := (⟨"com/example/wirelore/wirelore/dissection/ByteReader", "position", "()I"⟩ : MethodName)) hown (mvT hZ (hw _ (List.mem_of_getElem? (i := 48) rfl))) (mvT hZ (hw _ (List.mem_of_getElem? (i := 49) rfl))) (notFace_of_selects (args := #[]) (mvT hZ (hw _ (List.mem_of_getElem? (i := 51) rfl)))) (mvT hZ (hw _ (List.mem_of_getElem? (i := 51) rfl))) (mvT hZ (hw _ (List.mem_of_getElem? (i := 50) rfl))) (by decide) (backOf (W := 0) (rm9 l Z aw hw [] b69 en_78 h78 n0 Z80 G78_2) hZ (hw _ (List.mem_of_getElem? (i := 52) rfl)) (hw _ (List.mem_of_getElem? (i := 3) rfl)) (by decide) (by decide)) q81a q81c (g := (mkF m 70 #[.val (.int p0), .val (.int p1), .val (.int p2), .val (.int p3), .val (.ref b54), .val (.ref b69), .unset, .unset, .unset] [(.ref b69)])) rfl (by rw [hml]; rfl) (Steps.refl _) (argsL := []) (rest := []) (lenOf own_pd2 rfl) rfl (by show 2 * 0 + _ ≤ _; exact Nat.le_of_eq rfl) (hb hby at_70) (fun _ _ => ⟨rfl, e78, (by decide : 3 + 0 ≤ _), (by decide : 10 + 0 ≤ _)⟩)
  dsimp only [Pt.U, Pt.locs, Pt.cells, Pt.slots] at X81 l81 y81 z81 st81 hQ81
  subst l81 y81 z81
  obtain ⟨rfl, Nq81, e81⟩ := hQ81
  have N81 := Fr.app N78 Nq81
  refine own_by (fun _ k => st81.trans k) ?_
  show own_G _ _ _ _ _ _ _ (T81.setTop (mkF m 73 #[.val (.int p0), .val (.int p1), .val (.int p2), .val (.int p3), .val (.ref b54), .val (.ref b69), .unset, .unset, .unset] [(.int (en_78))]))
  refine own_by (fun _ k => XS.istore X81.here hx rfl (hb hby at_73) rfl (l' := #[.val (.int p0), .val (.int p1), .val (.int p2), .val (.int p3), .val (.ref b54), .val (.ref b69), .val (.int (en_78)), .unset, .unset]) rfl k) ?_
  show own_G _ _ _ _ _ _ _ (T81.setTop (mkF m 75 #[.val (.int p0), .val (.int p1), .val (.int p2), .val (.int p3), .val (.ref b54), .val (.ref b69), .val (.int (en_78)), .unset, .unset] []))
  refine own_by (fun _ k => XS.aload X81.here hx rfl (hb hby at_75) rfl rfl k) ?_
  show own_G _ _ _ _ _ _ _ (T81.setTop (mkF m 77 #[.val (.int p0), .val (.int p1), .val (.int p2), .val (.int p3), .val (.ref b54), .val (.ref b69), .val (.int (en_78)), .unset, .unset] [(.ref b69)]))
  obtain ⟨cq82, kq82, q82a, q82b, q82c⟩ := isOf hZ e81 G78_0
  obtain ⟨_, _, ⟨T82, L82, k82, n82⟩, -, X82, ⟨Lc82, hQ82, l82, y82, z82⟩, st82⟩ := X81.virtualBack hx (y := (⟨"com/example/wirelore/wirelore/dissection/ByteReader", "limit", "()I"⟩ : MethodName)) (z := (⟨"com/example/wirelore/wirelore/dissection/ByteReader", "limit", "()I"⟩ : MethodName)) hown (mvT hZ (hw _ (List.mem_of_getElem? (i := 53) rfl))) (mvT hZ (hw _ (List.mem_of_getElem? (i := 54) rfl))) (notFace_of_selects (args := #[]) (mvT hZ (hw _ (List.mem_of_getElem? (i := 56) rfl)))) (mvT hZ (hw _ (List.mem_of_getElem? (i := 56) rfl))) (mvT hZ (hw _ (List.mem_of_getElem? (i := 55) rfl))) (by decide) (backOf (W := 0) (rm10 l Z aw hw [] b69 lm_75 h78 n0 Z80 G78_3) hZ (hw _ (List.mem_of_getElem? (i := 57) rfl)) (hw _ (List.mem_of_getElem? (i := 3) rfl)) (by decide) (by decide)) q82a q82c (g := (mkF m 77 #[.val (.int p0), .val (.int p1), .val (.int p2), .val (.int p3), .val (.ref b54), .val (.ref b69), .val (.int (en_78)), .unset, .unset] [(.ref b69)])) rfl (by rw [hml]; rfl) (Steps.refl _) (argsL := []) (rest := []) (lenOf own_pd2 rfl) rfl (by show 2 * 0 + _ ≤ _; exact Nat.le_of_eq rfl) (hb hby at_77) (fun _ _ => ⟨rfl, e81, (by decide : 3 + 0 ≤ _), (by decide : 10 + 0 ≤ _)⟩)
  dsimp only [Pt.U, Pt.locs, Pt.cells, Pt.slots] at X82 l82 y82 z82 st82 hQ82
  subst l82 y82 z82
  obtain ⟨rfl, Nq82, e82⟩ := hQ82
  have N82 := Fr.app N81 Nq82
  refine own_by (fun _ k => st82.trans k) ?_
  show own_G _ _ _ _ _ _ _ (T82.setTop (mkF m 80 #[.val (.int p0), .val (.int p1), .val (.int p2), .val (.int p3), .val (.ref b54), .val (.ref b69), .val (.int (en_78)), .unset, .unset] [(.int (lm_75))]))
  refine own_by (fun _ k => XS.istore X82.here hx rfl (hb hby at_80) rfl (l' := #[.val (.int p0), .val (.int p1), .val (.int p2), .val (.int p3), .val (.ref b54), .val (.ref b69), .val (.int (en_78)), .val (.int (lm_75)), .unset]) rfl k) ?_
  have J165 : ∀ (Tj83 : State) (lj83 : List Loc) (Xj83 : Stand p l e room_1 s m #[(.int p0), (.int p1), (.int p2), (.int p3)] below meth c Tj83 lj83 3 10) (Nj83 : Fr n0 lj83) (ej83 : Tj83.heap = h78) (ex : Int32) (hex : ex = own_ex FF pn qn p1), own_G p.tables e below s (own_Q0 Z p0 p1 p2 p3 h0 n0) room_1.cells room_1.slots (Tj83.setTop (mkF m 165 #[.val (.int p0), .val (.int p1), .val (.int p2), .val (.int p3), .val (.ref b54), .val (.ref b69), .val (.int (en_78)), .val (.int (lm_75)), .val (.int ex)] [])) := by
    intro Tj83 lj83 Xj83 Nj83 ej83 ex hex
    show own_G _ _ _ _ _ _ _ (Tj83.setTop (mkF m 165 #[.val (.int p0), .val (.int p1), .val (.int p2), .val (.int p3), .val (.ref b54), .val (.ref b69), .val (.int (en_78)), .val (.int (lm_75)), .val (.int ex)] []))
    refine own_by (fun _ k => XS.aload Xj83.here hx rfl (hb hby at_165) rfl rfl k) ?_
    show own_G _ _ _ _ _ _ _ (Tj83.setTop (mkF m 167 #[.val (.int p0), .val (.int p1), .val (.int p2), .val (.int p3), .val (.ref b54), .val (.ref b69), .val (.int (en_78)), .val (.int (lm_75)), .val (.int ex)] [(.ref b69)]))
    refine own_by (fun _ k => XS.iloadN Xj83.here hx rfl (hb hby at_167) rfl  k) ?_
    show own_G _ _ _ _ _ _ _ (Tj83.setTop (mkF m 168 #[.val (.int p0), .val (.int p1), .val (.int p2), .val (.int p3), .val (.ref b54), .val (.ref b69), .val (.int (en_78)), .val (.int (lm_75)), .val (.int ex)] [(.int p1), (.ref b69)]))
    obtain ⟨cq84, kq84, q84a, q84b, q84c⟩ := isOf hZ ej83 G78_0
    obtain ⟨_, _, ⟨T84, L84, k84, n84⟩, -, X84, ⟨Lc84, hQ84, l84, y84, z84⟩, st84⟩ := Xj83.virtualBack hx (y := (⟨"com/example/wirelore/wirelore/dissection/ByteReader", "indexOf", "(I)I"⟩ : MethodName)) (z := (⟨"com/example/wirelore/wirelore/dissection/ByteReader", "indexOf", "(I)I"⟩ : MethodName)) hown (mvT hZ (hw _ (List.mem_of_getElem? (i := 62) rfl))) (mvT hZ (hw _ (List.mem_of_getElem? (i := 63) rfl))) (notFace_of_selects (args := #[]) (mvT hZ (hw _ (List.mem_of_getElem? (i := 65) rfl)))) (mvT hZ (hw _ (List.mem_of_getElem? (i := 65) rfl))) (mvT hZ (hw _ (List.mem_of_getElem? (i := 64) rfl))) (by decide) (backOf (W := 0) (rm12 l Z aw hw [] b69 p1 b54 en_78 lm_75 FF pn qn h78 n0 Z80 G78_1 G78_2 G78_3 F79_0 hpN hqN hpq hq4) hZ (hw _ (List.mem_of_getElem? (i := 66) rfl)) (hw _ (List.mem_of_getElem? (i := 3) rfl)) (by decide) (by decide)) q84a q84c (g := (mkF m 168 #[.val (.int p0), .val (.int p1), .val (.int p2), .val (.int p3), .val (.ref b54), .val (.ref b69), .val (.int (en_78)), .val (.int (lm_75)), .val (.int ex)] [(.int p1), (.ref b69)])) rfl (by rw [hml]; rfl) (Steps.refl _) (argsL := [(.int p1)]) (rest := []) (lenOf own_pd7 rfl) rfl (by show 2 * 0 + _ ≤ _; exact Nat.le_of_eq rfl) (hb hby at_168) (fun _ _ => ⟨rfl, ej83, (by decide : 3 + 0 ≤ _), (by decide : 10 + 0 ≤ _)⟩)
    dsimp only [Pt.U, Pt.locs, Pt.cells, Pt.slots] at X84 l84 y84 z84 st84 hQ84
    subst l84 y84 z84
    obtain ⟨rfl, Nq84, e84⟩ := hQ84
    have N84 := Fr.app Nj83 Nq84
    refine own_by (fun _ k => st84.trans k) ?_
    show own_G _ _ _ _ _ _ _ (T84.setTop (mkF m 171 #[.val (.int p0), .val (.int p1), .val (.int p2), .val (.int p3), .val (.ref b54), .val (.ref b69), .val (.int (en_78)), .val (.int (lm_75)), .val (.int ex)] [(.int (own_find FF p1 (qn - pn) pn))]))
    refine own_by (fun _ k => XS.iload X84.here hx rfl (hb hby at_171) rfl  k) ?_
    show own_G _ _ _ _ _ _ _ (T84.setTop (mkF m 173 #[.val (.int p0), .val (.int p1), .val (.int p2), .val (.int p3), .val (.ref b54), .val (.ref b69), .val (.int (en_78)), .val (.int (lm_75)), .val (.int ex)] [(.int ex), (.int (own_find FF p1 (qn - pn) pn))]))
    have hc173 : (own_find FF p1 (qn - pn) pn) = ex := (by rw [hex]; exact own_fin _ _ _ _ hpq hq4)
    refine own_by (fun _ k => XS.icmpNo X84.here hx rfl (hb hby at_173) rfl (XT.ii_ne_f hc173) k) ?_
    show own_G _ _ _ _ _ _ _ (T84.setTop (mkF m 176 #[.val (.int p0), .val (.int p1), .val (.int p2), .val (.int p3), .val (.ref b54), .val (.ref b69), .val (.int (en_78)), .val (.int (lm_75)), .val (.int ex)] []))
    refine own_by (fun _ k => XS.iconst X84.here hx rfl (hb hby at_176) k) ?_
    show own_G _ _ _ _ _ _ _ (T84.setTop (mkF m 177 #[.val (.int p0), .val (.int p1), .val (.int p2), .val (.int p3), .val (.ref b54), .val (.ref b69), .val (.int (en_78)), .val (.int (lm_75)), .val (.int ex)] [(.int (1 : Int32))]))
    refine own_by (fun _ k => XS.goto X84.here hx rfl (pc0 := 177) (pc' := 181) rfl (hb hby at_177) (by decide) (by decide) k) ?_
    show own_G _ _ _ _ _ _ _ (T84.setTop (mkF m 181 #[.val (.int p0), .val (.int p1), .val (.int p2), .val (.int p3), .val (.ref b54), .val (.ref b69), .val (.int (en_78)), .val (.int (lm_75)), .val (.int ex)] [(.int (1 : Int32))]))
    exact own_end X84 (v := some (.int (nar .boolean (1 : Int32)))) (fun h => by rw [Bd.returns] at h; cases h) (BodyLoose.notSynchronized Bd) (fun fs hr => retN X84 hx (t := .boolean) Bd.returns (by simp) (hb hby at_181) hr) (by rw [e84]; exact ⟨rfl, N84⟩) (by decide) (by decide)
  show own_G _ _ _ _ _ _ _ (T82.setTop (mkF m 82 #[.val (.int p0), .val (.int p1), .val (.int p2), .val (.int p3), .val (.ref b54), .val (.ref b69), .val (.int (en_78)), .val (.int (lm_75)), .unset] []))
  refine own_by (fun _ k => XS.aload X82.here hx rfl (hb hby at_82) rfl rfl k) ?_
  show own_G _ _ _ _ _ _ _ (T82.setTop (mkF m 84 #[.val (.int p0), .val (.int p1), .val (.int p2), .val (.int p3), .val (.ref b54), .val (.ref b69), .val (.int (en_78)), .val (.int (lm_75)), .unset] [(.ref b54)]))
  refine own_by (fun _ k => XS.iconst X82.here hx rfl (hb hby at_84) k) ?_
  show own_G _ _ _ _ _ _ _ (T82.setTop (mkF m 85 #[.val (.int p0), .val (.int p1), .val (.int p2), .val (.int p3), .val (.ref b54), .val (.ref b69), .val (.int (en_78)), .val (.int (lm_75)), .unset] [(.int (0 : Int32)), (.ref b54)]))
  refine own_by (fun _ k => XS.iload X82.here hx rfl (hb hby at_85) rfl  k) ?_
  show own_G _ _ _ _ _ _ _ (T82.setTop (mkF m 87 #[.val (.int p0), .val (.int p1), .val (.int p2), .val (.int p3), .val (.ref b54), .val (.ref b69), .val (.int (en_78)), .val (.int (lm_75)), .unset] [(.int (en_78)), (.int (0 : Int32)), (.ref b54)]))
  refine own_by (fun _ k => XS.iload X82.here hx rfl (hb hby at_87) rfl  k) ?_
  show own_G _ _ _ _ _ _ _ (T82.setTop (mkF m 89 #[.val (.int p0), .val (.int p1), .val (.int p2), .val (.int p3), .val (.ref b54), .val (.ref b69), .val (.int (en_78)), .val (.int (lm_75)), .unset] [(.int (lm_75)), (.int (en_78)), (.int (0 : Int32)), (.ref b54)]))
  refine own_by (fun _ k => XS.iloadN X82.here hx rfl (hb hby at_89) rfl  k) ?_
  show own_G _ _ _ _ _ _ _ (T82.setTop (mkF m 90 #[.val (.int p0), .val (.int p1), .val (.int p2), .val (.int p3), .val (.ref b54), .val (.ref b69), .val (.int (en_78)), .val (.int (lm_75)), .unset] [(.int p1), (.int (lm_75)), (.int (en_78)), (.int (0 : Int32)), (.ref b54)]))
  obtain ⟨_, _, ⟨T85, L85, k85, n85⟩, -, X85, ⟨Lc85, hQ85, l85, y85, z85⟩, st85⟩ := Jvm.LawKit.callS X82 hx (y := (⟨"com/example/wirelore/wirelore/dissection/ByteReaderIndexOfPinLaw", "hit", "([BIIII)Z"⟩ : MethodName)) hown (mvT hZ (hw _ (List.mem_of_getElem? (i := 58) rfl))) (mvT hZ (hw _ (List.mem_of_getElem? (i := 59) rfl))) (mvT hZ (hw _ (List.mem_of_getElem? (i := 60) rfl))) (mvT hZ (hw _ (List.mem_of_getElem? (i := 61) rfl))) (by decide) (backOf (W := 0) (rm11 l Z aw hw [] b54 (0 : Int32) (en_78) (lm_75) p1 FF 0 pn qn h78 n0 Z80 F79_0 (by decide) hpN hqN hq4) hZ (hw _ (List.mem_of_getElem? (i := 61) rfl)) (hw _ (List.mem_of_getElem? (i := 60) rfl)) (by decide) (by decide)) (g := (mkF m 90 #[.val (.int p0), .val (.int p1), .val (.int p2), .val (.int p3), .val (.ref b54), .val (.ref b69), .val (.int (en_78)), .val (.int (lm_75)), .unset] [(.int p1), (.int (lm_75)), (.int (en_78)), (.int (0 : Int32)), (.ref b54)])) rfl (by rw [hml]; rfl) (argsL := [(.ref b54), (.int (0 : Int32)), (.int (en_78)), (.int (lm_75)), (.int p1)]) (rest := []) (lenOf own_pd8 rfl) rfl (by show 2 * 0 + _ ≤ _; exact Nat.le_of_eq rfl) (hb hby at_90) (fun _ _ => ⟨rfl, e82, (by decide : 3 + 0 ≤ _), (by decide : 10 + 0 ≤ _)⟩)
  dsimp only [Pt.U, Pt.locs, Pt.cells, Pt.slots] at X85 l85 y85 z85 st85 hQ85
  subst l85 y85 z85
  obtain ⟨rfl, Nq85, e85⟩ := hQ85
  have N85 := Fr.app N82 Nq85
  refine own_by (fun _ k => st85 _ k) ?_
  show own_G _ _ _ _ _ _ _ (T85.setTop (mkF m 93 #[.val (.int p0), .val (.int p1), .val (.int p2), .val (.int p3), .val (.ref b54), .val (.ref b69), .val (.int (en_78)), .val (.int (lm_75)), .unset] [(.int (own_hit FF pn qn p1 0))]))
  by_cases hc93 : (own_hit FF pn qn p1 0) = (0 : Int32)
  · refine own_by (fun _ k => XS.ifYes X85.here hx rfl (pc0 := 93) (pc' := 102) rfl (hb hby at_93) rfl (XT.i0_eq_t hc93) (by decide) (by decide) k) ?_
    show own_G _ _ _ _ _ _ _ (T85.setTop (mkF m 102 #[.val (.int p0), .val (.int p1), .val (.int p2), .val (.int p3), .val (.ref b54), .val (.ref b69), .val (.int (en_78)), .val (.int (lm_75)), .unset] []))
    refine own_by (fun _ k => XS.aload X85.here hx rfl (hb hby at_102) rfl rfl k) ?_
    show own_G _ _ _ _ _ _ _ (T85.setTop (mkF m 104 #[.val (.int p0), .val (.int p1), .val (.int p2), .val (.int p3), .val (.ref b54), .val (.ref b69), .val (.int (en_78)), .val (.int (lm_75)), .unset] [(.ref b54)]))
    refine own_by (fun _ k => XS.iconst X85.here hx rfl (hb hby at_104) k) ?_
    show own_G _ _ _ _ _ _ _ (T85.setTop (mkF m 105 #[.val (.int p0), .val (.int p1), .val (.int p2), .val (.int p3), .val (.ref b54), .val (.ref b69), .val (.int (en_78)), .val (.int (lm_75)), .unset] [(.int (1 : Int32)), (.ref b54)]))
    refine own_by (fun _ k => XS.iload X85.here hx rfl (hb hby at_105) rfl  k) ?_
    show own_G _ _ _ _ _ _ _ (T85.setTop (mkF m 107 #[.val (.int p0), .val (.int p1), .val (.int p2), .val (.int p3), .val (.ref b54), .val (.ref b69), .val (.int (en_78)), .val (.int (lm_75)), .unset] [(.int (en_78)), (.int (1 : Int32)), (.ref b54)]))
    refine own_by (fun _ k => XS.iload X85.here hx rfl (hb hby at_107) rfl  k) ?_
    show own_G _ _ _ _ _ _ _ (T85.setTop (mkF m 109 #[.val (.int p0), .val (.int p1), .val (.int p2), .val (.int p3), .val (.ref b54), .val (.ref b69), .val (.int (en_78)), .val (.int (lm_75)), .unset] [(.int (lm_75)), (.int (en_78)), (.int (1 : Int32)), (.ref b54)]))
    refine own_by (fun _ k => XS.iloadN X85.here hx rfl (hb hby at_109) rfl  k) ?_
    show own_G _ _ _ _ _ _ _ (T85.setTop (mkF m 110 #[.val (.int p0), .val (.int p1), .val (.int p2), .val (.int p3), .val (.ref b54), .val (.ref b69), .val (.int (en_78)), .val (.int (lm_75)), .unset] [(.int p1), (.int (lm_75)), (.int (en_78)), (.int (1 : Int32)), (.ref b54)]))
    obtain ⟨_, _, ⟨T86, L86, k86, n86⟩, -, X86, ⟨Lc86, hQ86, l86, y86, z86⟩, st86⟩ := Jvm.LawKit.callS X85 hx (y := (⟨"com/example/wirelore/wirelore/dissection/ByteReaderIndexOfPinLaw", "hit", "([BIIII)Z"⟩ : MethodName)) hown (mvT hZ (hw _ (List.mem_of_getElem? (i := 58) rfl))) (mvT hZ (hw _ (List.mem_of_getElem? (i := 59) rfl))) (mvT hZ (hw _ (List.mem_of_getElem? (i := 60) rfl))) (mvT hZ (hw _ (List.mem_of_getElem? (i := 61) rfl))) (by decide) (backOf (W := 0) (rm11 l Z aw hw [] b54 (1 : Int32) (en_78) (lm_75) p1 FF 1 pn qn h78 n0 Z80 F79_0 (by decide) hpN hqN hq4) hZ (hw _ (List.mem_of_getElem? (i := 61) rfl)) (hw _ (List.mem_of_getElem? (i := 60) rfl)) (by decide) (by decide)) (g := (mkF m 110 #[.val (.int p0), .val (.int p1), .val (.int p2), .val (.int p3), .val (.ref b54), .val (.ref b69), .val (.int (en_78)), .val (.int (lm_75)), .unset] [(.int p1), (.int (lm_75)), (.int (en_78)), (.int (1 : Int32)), (.ref b54)])) rfl (by rw [hml]; rfl) (argsL := [(.ref b54), (.int (1 : Int32)), (.int (en_78)), (.int (lm_75)), (.int p1)]) (rest := []) (lenOf own_pd8 rfl) rfl (by show 2 * 0 + _ ≤ _; exact Nat.le_of_eq rfl) (hb hby at_110) (fun _ _ => ⟨rfl, e85, (by decide : 3 + 0 ≤ _), (by decide : 10 + 0 ≤ _)⟩)
    dsimp only [Pt.U, Pt.locs, Pt.cells, Pt.slots] at X86 l86 y86 z86 st86 hQ86
    subst l86 y86 z86
    obtain ⟨rfl, Nq86, e86⟩ := hQ86
    have N86 := Fr.app N85 Nq86
    refine own_by (fun _ k => st86 _ k) ?_
    show own_G _ _ _ _ _ _ _ (T86.setTop (mkF m 113 #[.val (.int p0), .val (.int p1), .val (.int p2), .val (.int p3), .val (.ref b54), .val (.ref b69), .val (.int (en_78)), .val (.int (lm_75)), .unset] [(.int (own_hit FF pn qn p1 1))]))
    by_cases hc113 : (own_hit FF pn qn p1 1) = (0 : Int32)
    · refine own_by (fun _ k => XS.ifYes X86.here hx rfl (pc0 := 113) (pc' := 122) rfl (hb hby at_113) rfl (XT.i0_eq_t hc113) (by decide) (by decide) k) ?_
      show own_G _ _ _ _ _ _ _ (T86.setTop (mkF m 122 #[.val (.int p0), .val (.int p1), .val (.int p2), .val (.int p3), .val (.ref b54), .val (.ref b69), .val (.int (en_78)), .val (.int (lm_75)), .unset] []))
      refine own_by (fun _ k => XS.aload X86.here hx rfl (hb hby at_122) rfl rfl k) ?_
      show own_G _ _ _ _ _ _ _ (T86.setTop (mkF m 124 #[.val (.int p0), .val (.int p1), .val (.int p2), .val (.int p3), .val (.ref b54), .val (.ref b69), .val (.int (en_78)), .val (.int (lm_75)), .unset] [(.ref b54)]))
      refine own_by (fun _ k => XS.iconst X86.here hx rfl (hb hby at_124) k) ?_
      show own_G _ _ _ _ _ _ _ (T86.setTop (mkF m 125 #[.val (.int p0), .val (.int p1), .val (.int p2), .val (.int p3), .val (.ref b54), .val (.ref b69), .val (.int (en_78)), .val (.int (lm_75)), .unset] [(.int (2 : Int32)), (.ref b54)]))
      refine own_by (fun _ k => XS.iload X86.here hx rfl (hb hby at_125) rfl  k) ?_
      show own_G _ _ _ _ _ _ _ (T86.setTop (mkF m 127 #[.val (.int p0), .val (.int p1), .val (.int p2), .val (.int p3), .val (.ref b54), .val (.ref b69), .val (.int (en_78)), .val (.int (lm_75)), .unset] [(.int (en_78)), (.int (2 : Int32)), (.ref b54)]))
      refine own_by (fun _ k => XS.iload X86.here hx rfl (hb hby at_127) rfl  k) ?_
      show own_G _ _ _ _ _ _ _ (T86.setTop (mkF m 129 #[.val (.int p0), .val (.int p1), .val (.int p2), .val (.int p3), .val (.ref b54), .val (.ref b69), .val (.int (en_78)), .val (.int (lm_75)), .unset] [(.int (lm_75)), (.int (en_78)), (.int (2 : Int32)), (.ref b54)]))
      refine own_by (fun _ k => XS.iloadN X86.here hx rfl (hb hby at_129) rfl  k) ?_
      show own_G _ _ _ _ _ _ _ (T86.setTop (mkF m 130 #[.val (.int p0), .val (.int p1), .val (.int p2), .val (.int p3), .val (.ref b54), .val (.ref b69), .val (.int (en_78)), .val (.int (lm_75)), .unset] [(.int p1), (.int (lm_75)), (.int (en_78)), (.int (2 : Int32)), (.ref b54)]))
      obtain ⟨_, _, ⟨T87, L87, k87, n87⟩, -, X87, ⟨Lc87, hQ87, l87, y87, z87⟩, st87⟩ := Jvm.LawKit.callS X86 hx (y := (⟨"com/example/wirelore/wirelore/dissection/ByteReaderIndexOfPinLaw", "hit", "([BIIII)Z"⟩ : MethodName)) hown (mvT hZ (hw _ (List.mem_of_getElem? (i := 58) rfl))) (mvT hZ (hw _ (List.mem_of_getElem? (i := 59) rfl))) (mvT hZ (hw _ (List.mem_of_getElem? (i := 60) rfl))) (mvT hZ (hw _ (List.mem_of_getElem? (i := 61) rfl))) (by decide) (backOf (W := 0) (rm11 l Z aw hw [] b54 (2 : Int32) (en_78) (lm_75) p1 FF 2 pn qn h78 n0 Z80 F79_0 (by decide) hpN hqN hq4) hZ (hw _ (List.mem_of_getElem? (i := 61) rfl)) (hw _ (List.mem_of_getElem? (i := 60) rfl)) (by decide) (by decide)) (g := (mkF m 130 #[.val (.int p0), .val (.int p1), .val (.int p2), .val (.int p3), .val (.ref b54), .val (.ref b69), .val (.int (en_78)), .val (.int (lm_75)), .unset] [(.int p1), (.int (lm_75)), (.int (en_78)), (.int (2 : Int32)), (.ref b54)])) rfl (by rw [hml]; rfl) (argsL := [(.ref b54), (.int (2 : Int32)), (.int (en_78)), (.int (lm_75)), (.int p1)]) (rest := []) (lenOf own_pd8 rfl) rfl (by show 2 * 0 + _ ≤ _; exact Nat.le_of_eq rfl) (hb hby at_130) (fun _ _ => ⟨rfl, e86, (by decide : 3 + 0 ≤ _), (by decide : 10 + 0 ≤ _)⟩)
      dsimp only [Pt.U, Pt.locs, Pt.cells, Pt.slots] at X87 l87 y87 z87 st87 hQ87
      subst l87 y87 z87
      obtain ⟨rfl, Nq87, e87⟩ := hQ87
      have N87 := Fr.app N86 Nq87
      refine own_by (fun _ k => st87 _ k) ?_
      show own_G _ _ _ _ _ _ _ (T87.setTop (mkF m 133 #[.val (.int p0), .val (.int p1), .val (.int p2), .val (.int p3), .val (.ref b54), .val (.ref b69), .val (.int (en_78)), .val (.int (lm_75)), .unset] [(.int (own_hit FF pn qn p1 2))]))
      by_cases hc133 : (own_hit FF pn qn p1 2) = (0 : Int32)
      · refine own_by (fun _ k => XS.ifYes X87.here hx rfl (pc0 := 133) (pc' := 142) rfl (hb hby at_133) rfl (XT.i0_eq_t hc133) (by decide) (by decide) k) ?_
        show own_G _ _ _ _ _ _ _ (T87.setTop (mkF m 142 #[.val (.int p0), .val (.int p1), .val (.int p2), .val (.int p3), .val (.ref b54), .val (.ref b69), .val (.int (en_78)), .val (.int (lm_75)), .unset] []))
        refine own_by (fun _ k => XS.aload X87.here hx rfl (hb hby at_142) rfl rfl k) ?_
        show own_G _ _ _ _ _ _ _ (T87.setTop (mkF m 144 #[.val (.int p0), .val (.int p1), .val (.int p2), .val (.int p3), .val (.ref b54), .val (.ref b69), .val (.int (en_78)), .val (.int (lm_75)), .unset] [(.ref b54)]))
        refine own_by (fun _ k => XS.iconst X87.here hx rfl (hb hby at_144) k) ?_
        show own_G _ _ _ _ _ _ _ (T87.setTop (mkF m 145 #[.val (.int p0), .val (.int p1), .val (.int p2), .val (.int p3), .val (.ref b54), .val (.ref b69), .val (.int (en_78)), .val (.int (lm_75)), .unset] [(.int (3 : Int32)), (.ref b54)]))
        refine own_by (fun _ k => XS.iload X87.here hx rfl (hb hby at_145) rfl  k) ?_
        show own_G _ _ _ _ _ _ _ (T87.setTop (mkF m 147 #[.val (.int p0), .val (.int p1), .val (.int p2), .val (.int p3), .val (.ref b54), .val (.ref b69), .val (.int (en_78)), .val (.int (lm_75)), .unset] [(.int (en_78)), (.int (3 : Int32)), (.ref b54)]))
        refine own_by (fun _ k => XS.iload X87.here hx rfl (hb hby at_147) rfl  k) ?_
        show own_G _ _ _ _ _ _ _ (T87.setTop (mkF m 149 #[.val (.int p0), .val (.int p1), .val (.int p2), .val (.int p3), .val (.ref b54), .val (.ref b69), .val (.int (en_78)), .val (.int (lm_75)), .unset] [(.int (lm_75)), (.int (en_78)), (.int (3 : Int32)), (.ref b54)]))
        refine own_by (fun _ k => XS.iloadN X87.here hx rfl (hb hby at_149) rfl  k) ?_
        show own_G _ _ _ _ _ _ _ (T87.setTop (mkF m 150 #[.val (.int p0), .val (.int p1), .val (.int p2), .val (.int p3), .val (.ref b54), .val (.ref b69), .val (.int (en_78)), .val (.int (lm_75)), .unset] [(.int p1), (.int (lm_75)), (.int (en_78)), (.int (3 : Int32)), (.ref b54)]))
        obtain ⟨_, _, ⟨T88, L88, k88, n88⟩, -, X88, ⟨Lc88, hQ88, l88, y88, z88⟩, st88⟩ := Jvm.LawKit.callS X87 hx (y := (⟨"com/example/wirelore/wirelore/dissection/ByteReaderIndexOfPinLaw", "hit", "([BIIII)Z"⟩ : MethodName)) hown (mvT hZ (hw _ (List.mem_of_getElem? (i := 58) rfl))) (mvT hZ (hw _ (List.mem_of_getElem? (i := 59) rfl))) (mvT hZ (hw _ (List.mem_of_getElem? (i := 60) rfl))) (mvT hZ (hw _ (List.mem_of_getElem? (i := 61) rfl))) (by decide) (backOf (W := 0) (rm11 l Z aw hw [] b54 (3 : Int32) (en_78) (lm_75) p1 FF 3 pn qn h78 n0 Z80 F79_0 (by decide) hpN hqN hq4) hZ (hw _ (List.mem_of_getElem? (i := 61) rfl)) (hw _ (List.mem_of_getElem? (i := 60) rfl)) (by decide) (by decide)) (g := (mkF m 150 #[.val (.int p0), .val (.int p1), .val (.int p2), .val (.int p3), .val (.ref b54), .val (.ref b69), .val (.int (en_78)), .val (.int (lm_75)), .unset] [(.int p1), (.int (lm_75)), (.int (en_78)), (.int (3 : Int32)), (.ref b54)])) rfl (by rw [hml]; rfl) (argsL := [(.ref b54), (.int (3 : Int32)), (.int (en_78)), (.int (lm_75)), (.int p1)]) (rest := []) (lenOf own_pd8 rfl) rfl (by show 2 * 0 + _ ≤ _; exact Nat.le_of_eq rfl) (hb hby at_150) (fun _ _ => ⟨rfl, e87, (by decide : 3 + 0 ≤ _), (by decide : 10 + 0 ≤ _)⟩)
        dsimp only [Pt.U, Pt.locs, Pt.cells, Pt.slots] at X88 l88 y88 z88 st88 hQ88
        subst l88 y88 z88
        obtain ⟨rfl, Nq88, e88⟩ := hQ88
        have N88 := Fr.app N87 Nq88
        refine own_by (fun _ k => st88 _ k) ?_
        show own_G _ _ _ _ _ _ _ (T88.setTop (mkF m 153 #[.val (.int p0), .val (.int p1), .val (.int p2), .val (.int p3), .val (.ref b54), .val (.ref b69), .val (.int (en_78)), .val (.int (lm_75)), .unset] [(.int (own_hit FF pn qn p1 3))]))
        by_cases hc153 : (own_hit FF pn qn p1 3) = (0 : Int32)
        · refine own_by (fun _ k => XS.ifYes X88.here hx rfl (pc0 := 153) (pc' := 162) rfl (hb hby at_153) rfl (XT.i0_eq_t hc153) (by decide) (by decide) k) ?_
          show own_G _ _ _ _ _ _ _ (T88.setTop (mkF m 162 #[.val (.int p0), .val (.int p1), .val (.int p2), .val (.int p3), .val (.ref b54), .val (.ref b69), .val (.int (en_78)), .val (.int (lm_75)), .unset] []))
          refine own_by (fun _ k => XS.iconst X88.here hx rfl (hb hby at_162) k) ?_
          show own_G _ _ _ _ _ _ _ (T88.setTop (mkF m 163 #[.val (.int p0), .val (.int p1), .val (.int p2), .val (.int p3), .val (.ref b54), .val (.ref b69), .val (.int (en_78)), .val (.int (lm_75)), .unset] [(.int (-1 : Int32))]))
          refine own_by (fun _ k => XS.istore X88.here hx rfl (hb hby at_163) rfl (l' := #[.val (.int p0), .val (.int p1), .val (.int p2), .val (.int p3), .val (.ref b54), .val (.ref b69), .val (.int (en_78)), .val (.int (lm_75)), .val (.int (-1 : Int32))]) rfl k) ?_
          exact J165 T88 _ X88 N88 e88 (-1 : Int32) (by simp only [own_ex, if_pos hc93, if_pos hc113, if_pos hc133, if_pos hc153])
        · refine own_by (fun _ k => XS.ifNo X88.here hx rfl (hb hby at_153) rfl (XT.i0_eq_f hc153) k) ?_
          show own_G _ _ _ _ _ _ _ (T88.setTop (mkF m 156 #[.val (.int p0), .val (.int p1), .val (.int p2), .val (.int p3), .val (.ref b54), .val (.ref b69), .val (.int (en_78)), .val (.int (lm_75)), .unset] []))
          refine own_by (fun _ k => XS.iconst X88.here hx rfl (hb hby at_156) k) ?_
          show own_G _ _ _ _ _ _ _ (T88.setTop (mkF m 157 #[.val (.int p0), .val (.int p1), .val (.int p2), .val (.int p3), .val (.ref b54), .val (.ref b69), .val (.int (en_78)), .val (.int (lm_75)), .unset] [(.int (3 : Int32))]))
          refine own_by (fun _ k => XS.istore X88.here hx rfl (hb hby at_157) rfl (l' := #[.val (.int p0), .val (.int p1), .val (.int p2), .val (.int p3), .val (.ref b54), .val (.ref b69), .val (.int (en_78)), .val (.int (lm_75)), .val (.int (3 : Int32))]) rfl k) ?_
          show own_G _ _ _ _ _ _ _ (T88.setTop (mkF m 159 #[.val (.int p0), .val (.int p1), .val (.int p2), .val (.int p3), .val (.ref b54), .val (.ref b69), .val (.int (en_78)), .val (.int (lm_75)), .val (.int (3 : Int32))] []))
          refine own_by (fun _ k => XS.goto X88.here hx rfl (pc0 := 159) (pc' := 165) rfl (hb hby at_159) (by decide) (by decide) k) ?_
          exact J165 T88 _ X88 N88 e88 (3 : Int32) (by simp only [own_ex, if_pos hc93, if_pos hc113, if_pos hc133, if_neg hc153])
      · refine own_by (fun _ k => XS.ifNo X87.here hx rfl (hb hby at_133) rfl (XT.i0_eq_f hc133) k) ?_
        show own_G _ _ _ _ _ _ _ (T87.setTop (mkF m 136 #[.val (.int p0), .val (.int p1), .val (.int p2), .val (.int p3), .val (.ref b54), .val (.ref b69), .val (.int (en_78)), .val (.int (lm_75)), .unset] []))
        refine own_by (fun _ k => XS.iconst X87.here hx rfl (hb hby at_136) k) ?_
        show own_G _ _ _ _ _ _ _ (T87.setTop (mkF m 137 #[.val (.int p0), .val (.int p1), .val (.int p2), .val (.int p3), .val (.ref b54), .val (.ref b69), .val (.int (en_78)), .val (.int (lm_75)), .unset] [(.int (2 : Int32))]))
        refine own_by (fun _ k => XS.istore X87.here hx rfl (hb hby at_137) rfl (l' := #[.val (.int p0), .val (.int p1), .val (.int p2), .val (.int p3), .val (.ref b54), .val (.ref b69), .val (.int (en_78)), .val (.int (lm_75)), .val (.int (2 : Int32))]) rfl k) ?_
        show own_G _ _ _ _ _ _ _ (T87.setTop (mkF m 139 #[.val (.int p0), .val (.int p1), .val (.int p2), .val (.int p3), .val (.ref b54), .val (.ref b69), .val (.int (en_78)), .val (.int (lm_75)), .val (.int (2 : Int32))] []))
        refine own_by (fun _ k => XS.goto X87.here hx rfl (pc0 := 139) (pc' := 165) rfl (hb hby at_139) (by decide) (by decide) k) ?_
        exact J165 T87 _ X87 N87 e87 (2 : Int32) (by simp only [own_ex, if_pos hc93, if_pos hc113, if_neg hc133])
    · refine own_by (fun _ k => XS.ifNo X86.here hx rfl (hb hby at_113) rfl (XT.i0_eq_f hc113) k) ?_
      show own_G _ _ _ _ _ _ _ (T86.setTop (mkF m 116 #[.val (.int p0), .val (.int p1), .val (.int p2), .val (.int p3), .val (.ref b54), .val (.ref b69), .val (.int (en_78)), .val (.int (lm_75)), .unset] []))
      refine own_by (fun _ k => XS.iconst X86.here hx rfl (hb hby at_116) k) ?_
      show own_G _ _ _ _ _ _ _ (T86.setTop (mkF m 117 #[.val (.int p0), .val (.int p1), .val (.int p2), .val (.int p3), .val (.ref b54), .val (.ref b69), .val (.int (en_78)), .val (.int (lm_75)), .unset] [(.int (1 : Int32))]))
      refine own_by (fun _ k => XS.istore X86.here hx rfl (hb hby at_117) rfl (l' := #[.val (.int p0), .val (.int p1), .val (.int p2), .val (.int p3), .val (.ref b54), .val (.ref b69), .val (.int (en_78)), .val (.int (lm_75)), .val (.int (1 : Int32))]) rfl k) ?_
      show own_G _ _ _ _ _ _ _ (T86.setTop (mkF m 119 #[.val (.int p0), .val (.int p1), .val (.int p2), .val (.int p3), .val (.ref b54), .val (.ref b69), .val (.int (en_78)), .val (.int (lm_75)), .val (.int (1 : Int32))] []))
      refine own_by (fun _ k => XS.goto X86.here hx rfl (pc0 := 119) (pc' := 165) rfl (hb hby at_119) (by decide) (by decide) k) ?_
      exact J165 T86 _ X86 N86 e86 (1 : Int32) (by simp only [own_ex, if_pos hc93, if_neg hc113])
  · refine own_by (fun _ k => XS.ifNo X85.here hx rfl (hb hby at_93) rfl (XT.i0_eq_f hc93) k) ?_
    show own_G _ _ _ _ _ _ _ (T85.setTop (mkF m 96 #[.val (.int p0), .val (.int p1), .val (.int p2), .val (.int p3), .val (.ref b54), .val (.ref b69), .val (.int (en_78)), .val (.int (lm_75)), .unset] []))
    refine own_by (fun _ k => XS.iconst X85.here hx rfl (hb hby at_96) k) ?_
    show own_G _ _ _ _ _ _ _ (T85.setTop (mkF m 97 #[.val (.int p0), .val (.int p1), .val (.int p2), .val (.int p3), .val (.ref b54), .val (.ref b69), .val (.int (en_78)), .val (.int (lm_75)), .unset] [(.int (0 : Int32))]))
    refine own_by (fun _ k => XS.istore X85.here hx rfl (hb hby at_97) rfl (l' := #[.val (.int p0), .val (.int p1), .val (.int p2), .val (.int p3), .val (.ref b54), .val (.ref b69), .val (.int (en_78)), .val (.int (lm_75)), .val (.int (0 : Int32))]) rfl k) ?_
    show own_G _ _ _ _ _ _ _ (T85.setTop (mkF m 99 #[.val (.int p0), .val (.int p1), .val (.int p2), .val (.int p3), .val (.ref b54), .val (.ref b69), .val (.int (en_78)), .val (.int (lm_75)), .val (.int (0 : Int32))] []))
    refine own_by (fun _ k => XS.goto X85.here hx rfl (pc0 := 99) (pc' := 165) rfl (hb hby at_99) (by decide) (by decide) k) ?_
    exact J165 T85 _ X85 N85 e85 (0 : Int32) (by simp only [own_ex, if_neg hc93])
set_option maxRecDepth 65536 in
set_option maxHeartbeats 40000000 in
theorem comes_1 {Post : Tables → Env → Array Value → State → Outcome → State → Prop} (hpost : ∀ tb e args s v u, (limb_1_1.after args s (.returned v) u = true ∧ limb_1_2.after args s (.returned v) u = true ∧ True) → FrameEnd s (.returned v) u (Jvm.fieldLocs frame_1_writes args s ++ Jvm.arrayLocs frame_1_arrays args s ++ Jvm.staticLocs frame_1_statics s) 16 128 → Post tb e args s (.returned v) u) :
    ArmFor flags0 classFile x code maxLocals ret World_1 tables_1 room_1 Calls_1 rest_1 Pre_1 Post := by
  intro l hfl _ _ p e ha hc hk s m args below hf hA hF happ hP
  obtain ⟨hcalls, hrest, hpre⟩ := hP
  obtain ⟨-, -, -, hnamed, -, -, -, hat⟩ := (Spec.applies_iff hf).mp happ
  obtain ⟨hg, hn⟩ := and_e (Cond.before_iff.mp (show (Jvm.Cond.and given_1 narrow_1).before args s = true from hpre))
  obtain ⟨gc, hg⟩ := and_e hg
  obtain ⟨g0, hg⟩ := and_e hg
  obtain ⟨g1, hg⟩ := and_e hg
  obtain ⟨g2, hg⟩ := and_e hg
  have g3 := hg
  obtain ⟨w0, w1, w2, w3, rfl⟩ : ∃ w0 w1 w2 w3 : Value, args = #[w0, w1, w2, w3] := by
    have hs : args.size = 4 := by simpa [Cond.value, given_1] using gc
    obtain ⟨L⟩ := args
    match L, hs with
    | [w0, w1, w2, w3], _ => exact ⟨w0, w1, w2, w3, rfl⟩
  have hw := fun d (hd : d ∈ tables_1) => atoms_spec (ws := Jvm.Cond.code x code maxLocals ret :: tables_1) hat d (List.mem_cons_of_mem _ hd)
  obtain ⟨i0, ei0⟩ := is_v g0
  obtain rfl : w0 = (.int i0) := Option.some.inj ei0
  obtain ⟨i1, ei1⟩ := is_v g1
  obtain rfl : w1 = (.int i1) := Option.some.inj ei1
  obtain ⟨i2, ei2⟩ := is_v g2
  obtain rfl : w2 = (.int i2) := Option.some.inj ei2
  obtain ⟨i3, ei3⟩ := is_v g3
  obtain rfl : w3 = (.int i3) := Option.some.inj ei3
  obtain ⟨n, o, h1, h2, h3, _, L, rfl, ⟨rfl, N⟩, hq⟩ := rm0 l s _ hw tables_1 i0 i1 i2 i3  s.heap s.heap.size (Nat.le_refl _)  p e ha hc hk s m _ below hf ((Spec.applies_iff_loose hf).mp happ).1 ⟨rfl, State.Warmed39.refl s, rfl⟩ trivial
  refine ⟨n, _, h1, h2, h3, hpost _ _ _ _ _ _ ⟨Cond.after_iff.mpr rfl, Cond.after_iff.mpr (eq_i res_at (Term.int_eval (1)) rfl), trivial⟩ ⟨hq.1, hq.2.1, (hq.2.2.sift fun y hy => Or.inr (N y hy)).mono (by decide) (by decide)⟩⟩
theorem main_1_1 : Claimed_1_1 := comes_1 fun _ _ _ _ _ _ h hF => ⟨h.1, hF⟩
theorem main_1_2 : Claimed_1_2 := comes_1 fun _ _ _ _ _ _ h hF => ⟨h.2.1, hF⟩
end Jvm.Pilot.@@N@@
namespace Jvm.Pilot.@@N@@
open Jvm Jvm.ClassFile Sem Op Lib Jvm.Free Jvm.Stand Jvm.Pilot.@@N@@.Jvm.D
/-! MADE BY PROGRAM (witnessworld.py) out of the Statement's table words and the real class files: 10 classes; the members and pool entries that the words name. The judged class is class 1, her method 2. -/
namespace start1
open Jvm.ClassFile
def u (s : String) : CpInfo := .utf8 (stringToUtf16 s)
/-- a pool by its gaps: so many unusable entries, then the entry; so many at the end -/
def gap : Nat → List CpInfo → List CpInfo
  | 0, r => r
  | n + 1, r => .unusable :: gap n r
def poolList (es : List (Nat × CpInfo)) (last : Nat) : List CpInfo := es.foldr (fun e r => gap e.1 (e.2 :: r)) (gap last [])
def pool (es : List (Nat × CpInfo)) (last : Nat) : Array CpInfo := ⟨poolList es last⟩
def fileOf (pool : Array CpInfo) (this : Nat) (attrs : Array Attribute := #[]) (ms : Array MethodInfo := #[]) (fl : Nat := 33) (sup : Nat := 0) (ifs : Array Nat := #[]) (fds : Array FieldInfo := #[]) : ClassFile where
  minorVersion := 0
  majorVersion := 65
  constantPool := pool
  accessFlags := fl
  thisClass := this
  superClass := sup
  interfaces := ifs
  fields := fds
  methods := ms
  attributes := attrs
def plain (name : String) (sup : Option ClassId) : Class where
  name := name
  kind := .ordinary
  loader := none
  accessFlags := 33
  super := sup
  interfaces := #[]
  cf := none
  fields := #[]
  methods := #[]
  instanceTypes := #[]
  staticTypes := #[]
  resolved := #[]
  callSites := []
  init := .initialized
  statics := none
  mirror := none

def pool0 : Array CpInfo := pool [(5, u "<init>"), (0, u "()V"), (1, .class_ 10), (1, u "java/lang/Object")] 113

def k0c0 : Code := { maxStack := 0, maxLocals := 1, code := object_method_1_code, exceptionTable := #[], attributes := #[] }
def k0m0 : Method := { name := "<init>", desc := "()V", sig := { parameters := [], returnType := none }, accessFlags := 1, code := some k0c0 }
/-- java/lang/Object -/
def k0 : Class := { plain "java/lang/Object" none with
  accessFlags := 33
  interfaces := #[]
  cf := some (fileOf pool0 8 #[] #[{ accessFlags := 1, nameIndex := 5, descriptorIndex := 6, attributes := #[] }] 33 0 #[] #[])
  fields := #[]
  methods := #[k0m0]
  instanceTypes := #[]
  staticTypes := #[]
  resolved := Array.replicate 124 none
  statics := none }

def pool1 : Array CpInfo := pool [(2, .class_ 4), (1, u "java/lang/Object"), (0, u "<init>"), (0, u "()V"), (0, .class_ 8), (0, u "com/example/wirelore/wirelore/dissection/ByteReader"), (0, .methodref 7 10), (0, .nameAndType 5 11), (0, u "([B)V"), (0, .methodref 7 13), (0, .nameAndType 14 15), (0, u "narrowTo"), (0, u "(I)V"), (0, .methodref 7 17), (0, .nameAndType 18 19), (0, u "split"), (0, u "(I)Lcom/example/wirelore/wirelore/dissection/ByteReader;"), (0, .methodref 7 21), (0, .nameAndType 22 23), (0, u "position"), (0, u "()I"), (0, .methodref 7 25), (0, .nameAndType 26 23), (0, u "limit"), (0, .methodref 28 29), (0, .class_ 30), (0, .nameAndType 31 32), (0, u "com/example/wirelore/wirelore/dissection/ByteReaderIndexOfPinLaw"), (0, u "hit"), (0, u "([BIIII)Z"), (0, .methodref 7 34), (0, .nameAndType 35 36), (0, u "indexOf"), (0, u "(I)I"), (3, u "law"), (0, u "(IIII)Z")] 4

def k1m0 : Method := { name := "<init>", desc := "()V", sig := { parameters := [], returnType := none }, accessFlags := 1, code := none }
def k1c1 : Code := { maxStack := 2, maxLocals := 5, code := method_2_code, exceptionTable := #[], attributes := #[] }
def k1m1 : Method := { name := "hit", desc := "([BIIII)Z", sig := { parameters := [(.array .byte), .int, .int, .int, .int], returnType := some .boolean }, accessFlags := 10, code := some k1c1 }
def k1c2 : Code := { maxStack := 5, maxLocals := 9, code := code, exceptionTable := #[], attributes := #[] }
def k1m2 : Method := { name := "law", desc := "(IIII)Z", sig := { parameters := [.int, .int, .int, .int], returnType := some .boolean }, accessFlags := 9, code := some k1c2 }
/-- com/example/wirelore/wirelore/dissection/ByteReaderIndexOfPinLaw -/
def k1 : Class := { plain "com/example/wirelore/wirelore/dissection/ByteReaderIndexOfPinLaw" (some 0) with
  accessFlags := 49
  interfaces := #[]
  cf := some (fileOf pool1 28 #[] #[{ accessFlags := 1, nameIndex := 5, descriptorIndex := 6, attributes := #[] }, { accessFlags := 10, nameIndex := 31, descriptorIndex := 32, attributes := #[] }, { accessFlags := 9, nameIndex := 40, descriptorIndex := 41, attributes := #[] }] 49 2 #[] #[])
  fields := #[]
  methods := #[k1m0, k1m1, k1m2]
  instanceTypes := #[]
  staticTypes := #[]
  resolved := Array.replicate 46 none
  statics := none }

def pool2 : Array CpInfo := pool [(1, .methodref 2 3), (0, .class_ 4), (0, .nameAndType 5 6), (0, u "com/example/wirelore/wirelore/dissection/ByteReader"), (0, u "<init>"), (0, u "([BII)V"), (0, .methodref 8 9), (0, .class_ 10), (0, .nameAndType 5 11), (0, u "java/lang/Object"), (0, u "()V"), (0, .methodref 2 13), (0, .nameAndType 14 6), (0, u "read"), (14, .fieldref 2 30), (0, .nameAndType 31 32), (0, u "input"), (0, u "[B"), (0, .fieldref 2 34), (0, .nameAndType 35 36), (0, u "position"), (0, u "I"), (0, .fieldref 2 38), (0, .nameAndType 39 36), (0, u "limit"), (1, .methodref 42 43), (0, .class_ 44), (0, .nameAndType 45 46), (0, u "java/lang/Math"), (0, u "min"), (0, u "(II)I"), (0, .methodref 2 48), (0, .nameAndType 49 50), (0, u "split"), (0, u "(ILcom/example/wirelore/wirelore/dissection/ByteReader;)V"), (3, .methodref 2 55), (0, .nameAndType 56 57), (0, u "remaining"), (0, u "()I"), (105, u "([B)V"), (6, u "narrowTo"), (0, u "(I)V"), (0, u "(I)Lcom/example/wirelore/wirelore/dissection/ByteReader;"), (20, u "indexOf"), (0, u "(I)I")] 25

def k2c0 : Code := { maxStack := 4, maxLocals := 2, code := prog_29_method_1_code, exceptionTable := #[], attributes := #[] }
def k2m0 : Method := { name := "<init>", desc := "([B)V", sig := { parameters := [(.array .byte)], returnType := none }, accessFlags := 1, code := some k2c0 }
def k2c1 : Code := { maxStack := 4, maxLocals := 4, code := prog_29_method_2_code, exceptionTable := #[], attributes := #[] }
def k2m1 : Method := { name := "<init>", desc := "([BII)V", sig := { parameters := [(.array .byte), .int, .int], returnType := none }, accessFlags := 2, code := some k2c1 }
def k2c2 : Code := { maxStack := 4, maxLocals := 4, code := prog_29_method_4_code, exceptionTable := #[], attributes := #[] }
def k2m2 : Method := { name := "read", desc := "([BII)V", sig := { parameters := [(.array .byte), .int, .int], returnType := none }, accessFlags := 2, code := some k2c2 }
def k2c3 : Code := { maxStack := 1, maxLocals := 1, code := prog_29_method_5_code, exceptionTable := #[], attributes := #[] }
def k2m3 : Method := { name := "position", desc := "()I", sig := { parameters := [], returnType := some .int }, accessFlags := 1, code := some k2c3 }
def k2c4 : Code := { maxStack := 1, maxLocals := 1, code := prog_29_method_6_code, exceptionTable := #[], attributes := #[] }
def k2m4 : Method := { name := "limit", desc := "()I", sig := { parameters := [], returnType := some .int }, accessFlags := 1, code := some k2c4 }
def k2c5 : Code := { maxStack := 2, maxLocals := 1, code := prog_29_method_7_code, exceptionTable := #[], attributes := #[] }
def k2m5 : Method := { name := "remaining", desc := "()I", sig := { parameters := [], returnType := some .int }, accessFlags := 1, code := some k2c5 }
def k2c6 : Code := { maxStack := 4, maxLocals := 2, code := prog_29_method_8_code, exceptionTable := #[], attributes := #[] }
def k2m6 : Method := { name := "narrowTo", desc := "(I)V", sig := { parameters := [.int], returnType := none }, accessFlags := 1, code := some k2c6 }
def k2c7 : Code := { maxStack := 5, maxLocals := 3, code := prog_29_method_9_code, exceptionTable := #[], attributes := #[] }
def k2m7 : Method := { name := "split", desc := "(I)Lcom/example/wirelore/wirelore/dissection/ByteReader;", sig := { parameters := [.int], returnType := some (.object "com/example/wirelore/wirelore/dissection/ByteReader") }, accessFlags := 1, code := some k2c7 }
def k2c8 : Code := { maxStack := 4, maxLocals := 4, code := prog_29_method_10_code, exceptionTable := #[], attributes := #[] }
def k2m8 : Method := { name := "split", desc := "(ILcom/example/wirelore/wirelore/dissection/ByteReader;)V", sig := { parameters := [.int, (.object "com/example/wirelore/wirelore/dissection/ByteReader")], returnType := none }, accessFlags := 1, code := some k2c8 }
def k2c9 : Code := { maxStack := 2, maxLocals := 3, code := prog_29_method_23_code, exceptionTable := #[], attributes := #[] }
def k2m9 : Method := { name := "indexOf", desc := "(I)I", sig := { parameters := [.int], returnType := some .int }, accessFlags := 1, code := some k2c9 }
/-- com/example/wirelore/wirelore/dissection/ByteReader -/
def k2 : Class := { plain "com/example/wirelore/wirelore/dissection/ByteReader" (some 0) with
  accessFlags := 49
  interfaces := #[]
  cf := some (fileOf pool2 2 #[] #[{ accessFlags := 1, nameIndex := 5, descriptorIndex := 163, attributes := #[] }, { accessFlags := 2, nameIndex := 5, descriptorIndex := 6, attributes := #[] }, { accessFlags := 2, nameIndex := 14, descriptorIndex := 6, attributes := #[] }, { accessFlags := 1, nameIndex := 35, descriptorIndex := 57, attributes := #[] }, { accessFlags := 1, nameIndex := 39, descriptorIndex := 57, attributes := #[] }, { accessFlags := 1, nameIndex := 56, descriptorIndex := 57, attributes := #[] }, { accessFlags := 1, nameIndex := 170, descriptorIndex := 171, attributes := #[] }, { accessFlags := 1, nameIndex := 49, descriptorIndex := 172, attributes := #[] }, { accessFlags := 1, nameIndex := 49, descriptorIndex := 50, attributes := #[] }, { accessFlags := 1, nameIndex := 193, descriptorIndex := 194, attributes := #[] }] 49 8 #[] #[{ accessFlags := 2, nameIndex := 31, descriptorIndex := 32, attributes := #[] }, { accessFlags := 2, nameIndex := 35, descriptorIndex := 36, attributes := #[] }, { accessFlags := 2, nameIndex := 39, descriptorIndex := 36, attributes := #[] }])
  fields := #[{ name := "input", type := (.array .byte), accessFlags := 2, slot := 0, constantValue := 0 }, { name := "position", type := .int, accessFlags := 2, slot := 1, constantValue := 0 }, { name := "limit", type := .int, accessFlags := 2, slot := 2, constantValue := 0 }]
  methods := #[k2m0, k2m1, k2m2, k2m3, k2m4, k2m5, k2m6, k2m7, k2m8, k2m9]
  instanceTypes := #[(.array .byte), .int, .int]
  staticTypes := #[]
  resolved := Array.replicate 220 none
  statics := none }

def pool3 : Array CpInfo := pool [(1, .class_ 2), (0, u "java/lang/Math"), (1, .class_ 6), (1, u "java/lang/Object"), (0, u "<init>"), (0, u "()V"), (89, .class_ 100), (1, u "java/lang/Math$RandomNumberGeneratorHolder"), (71, u "negativeZeroFloatBits"), (0, u "J"), (2, u "negativeZeroDoubleBits"), (24, u "min"), (43, u "$assertionsDisabled"), (0, u "Z"), (88, u "(II)I"), (2, u "twoToTheDoubleScaleDown"), (0, u "D"), (4, u "twoToTheDoubleScaleUp"), (9, u "E"), (3, u "PI"), (2, u "TAU"), (2, u "DEGREES_TO_RADIANS"), (0, u "RADIANS_TO_DEGREES")] 94

def k3m0 : Method := { name := "<init>", desc := "()V", sig := { parameters := [], returnType := none }, accessFlags := 2, code := none }
def k3c1 : Code := { maxStack := 2, maxLocals := 2, code := jdk_29_method_69_code, exceptionTable := #[], attributes := #[] }
def k3m1 : Method := { name := "min", desc := "(II)I", sig := { parameters := [.int, .int], returnType := some .int }, accessFlags := 9, code := some k3c1 }
/-- java/lang/Math -/
def k3 : Class := { plain "java/lang/Math" (some 0) with
  accessFlags := 49
  interfaces := #[]
  cf := some (fileOf pool3 1 #[.nestMembers #[98]] #[{ accessFlags := 2, nameIndex := 7, descriptorIndex := 8, attributes := #[] }, { accessFlags := 9, nameIndex := 201, descriptorIndex := 335, attributes := #[] }] 49 4 #[] #[{ accessFlags := 25, nameIndex := 354, descriptorIndex := 339, attributes := #[] }, { accessFlags := 25, nameIndex := 358, descriptorIndex := 339, attributes := #[] }, { accessFlags := 25, nameIndex := 361, descriptorIndex := 339, attributes := #[] }, { accessFlags := 26, nameIndex := 364, descriptorIndex := 339, attributes := #[] }, { accessFlags := 26, nameIndex := 365, descriptorIndex := 339, attributes := #[] }, { accessFlags := 26, nameIndex := 172, descriptorIndex := 173, attributes := #[] }, { accessFlags := 26, nameIndex := 176, descriptorIndex := 173, attributes := #[] }, { accessFlags := 8, nameIndex := 344, descriptorIndex := 339, attributes := #[] }, { accessFlags := 8, nameIndex := 338, descriptorIndex := 339, attributes := #[] }, { accessFlags := 4120, nameIndex := 245, descriptorIndex := 246, attributes := #[] }])
  fields := #[{ name := "E", type := .double, accessFlags := 25, slot := 0, constantValue := 0 }, { name := "PI", type := .double, accessFlags := 25, slot := 1, constantValue := 0 }, { name := "TAU", type := .double, accessFlags := 25, slot := 2, constantValue := 0 }, { name := "DEGREES_TO_RADIANS", type := .double, accessFlags := 26, slot := 3, constantValue := 0 }, { name := "RADIANS_TO_DEGREES", type := .double, accessFlags := 26, slot := 4, constantValue := 0 }, { name := "negativeZeroFloatBits", type := .long, accessFlags := 26, slot := 5, constantValue := 0 }, { name := "negativeZeroDoubleBits", type := .long, accessFlags := 26, slot := 6, constantValue := 0 }, { name := "twoToTheDoubleScaleUp", type := .double, accessFlags := 8, slot := 7, constantValue := 0 }, { name := "twoToTheDoubleScaleDown", type := .double, accessFlags := 8, slot := 8, constantValue := 0 }, { name := "$assertionsDisabled", type := .boolean, accessFlags := 4120, slot := 9, constantValue := 0 }]
  methods := #[k3m0, k3m1]
  instanceTypes := #[]
  staticTypes := #[.double, .double, .double, .double, .double, .long, .long, .double, .double, .boolean]
  resolved := Array.replicate 460 none
  statics := none }

def pool4 : Array CpInfo := pool [(1, u "java/lang/Cloneable"), (0, .class_ 1), (0, u "java/lang/Object"), (0, .class_ 3)] 3

/-- java/lang/Cloneable -/
def k4 : Class := { plain "java/lang/Cloneable" (some 0) with
  accessFlags := 1537
  interfaces := #[]
  cf := some (fileOf pool4 2 #[] #[] 1537 4 #[] #[])
  fields := #[]
  methods := #[]
  instanceTypes := #[]
  staticTypes := #[]
  resolved := Array.replicate 8 none
  statics := none }

def pool5 : Array CpInfo := pool [(1, u "java/io/Serializable"), (0, .class_ 1), (0, u "java/lang/Object"), (0, .class_ 3)] 3

/-- java/io/Serializable -/
def k5 : Class := { plain "java/io/Serializable" (some 0) with
  accessFlags := 1537
  interfaces := #[]
  cf := some (fileOf pool5 2 #[] #[] 1537 4 #[] #[])
  fields := #[]
  methods := #[]
  instanceTypes := #[]
  staticTypes := #[]
  resolved := Array.replicate 8 none
  statics := none }

/-- the primitive byte -/
def k6 : Class := { plain "byte" none with kind := .primitive 'B', accessFlags := 0x411 }
/-- [B -/
def k7 : Class := { plain "[B" (some 0) with kind := .array 6 .byte, interfaces := #[4, 5], accessFlags := 1041 }

/-- the primitive int -/
def k8 : Class := { plain "int" none with kind := .primitive 'I', accessFlags := 0x411 }
/-- [I -/
def k9 : Class := { plain "[I" (some 0) with kind := .array 8 .int, interfaces := #[4, 5], accessFlags := 1041 }

def heap : Heap := #[]
def classes : Array Class := #[k0, k1, k2, k3, k4, k5, k6, k7, k8, k9]
def interned : List (Array UInt16 × Addr) := []
def slotsUsed : Nat := 0
def theMethod : MethodId := ⟨1, 2⟩
def args0 : Array Value := #[.int 5, .int 5, .int 5, .int 5]
def aboutOver (below : List Frame) : State where
  vm := { classes := classes, interned := interned.toArray }
  heap := heap
  slotsUsed := slotsUsed
  threads := #[{ frames := .invoking theMethod args0 :: below }]
def below0 : List Frame := [.native { method := ⟨0, 0⟩, args := #[] }]
def about1 : State := aboutOver below0
def p0 : Program := .bare "" "" ""
def e0 : Env := launch0.env 0 0 0
theorem w_frames : about1.frames = Frame.invoking theMethod args0 :: below0 := rfl
set_option maxRecDepth 65536 in
theorem w_args : argsFit about1.vm theMethod args0 = true := by decide +kernel
set_option maxRecDepth 65536 in
theorem w_heap : heapFits about1 = true := by decide +kernel
set_option maxRecDepth 65536 in
theorem w_runnable : about1.curStatus? = some .runnable := by decide +kernel
set_option maxRecDepth 65536 in
theorem w_alone : about1.alone = true := by decide +kernel
set_option maxRecDepth 65536 in
theorem w_named : about1.methodNamed? x = some theMethod := by decide +kernel
set_option maxRecDepth 65536 in
theorem w_hears : about1.hears theMethod below0 = true := by decide +kernel
set_option maxRecDepth 65536 in
theorem w_ripe : about1.ripe theMethod args0 below0 = true := by decide +kernel
theorem w_running : about1.status = .running := rfl
set_option maxRecDepth 65536 in
theorem w_room : about1.hasRoom e0.platform room_1 = true :=
  launch0.hasRoom_least _ room_1 (by decide +kernel) (by decide +kernel) (by decide +kernel) (by decide +kernel) (by decide +kernel) (by decide +kernel)
theorem allAtoms_all (ts : List Jvm.Cond) (a : Array Jvm.Value) (st : Jvm.State) : (allAtoms ts).before a st = ts.all (fun c => c.before a st) := by
  induction ts with
  | nil => rfl
  | cons c t ih =>
    show (Jvm.Cond.and c (allAtoms t)).before a st = _
    rw [Jvm.Cond.before_and, ih, List.all_cons]
def words1 : List Jvm.Cond := Jvm.Cond.code x code maxLocals ret :: tables_1
/-- a 'code' word, met by the world's own term for the bytes: nothing is compared byte by byte -/
theorem code_word {y : MethodName} {bytes : ByteArray} {mx : Nat} {rt : Option FieldType} {a : Array Value} {s : State} {m : MethodId} {meth : Method} {c : Code} (h1 : s.methodNamed? y = some m) (h2 : s.vm.method? m = some meth) (h3 : meth.code = some c) (h4 : c.code = bytes)
    (h5 : (c.maxLocals == mx && c.exceptionTable.isEmpty && decide (c.maxStack ≤ mostOperands) && decide (meth.sig.returnType = rt) && !meth.locks && decide (parseMethodDescriptor y.desc = some meth.sig)) = true) : (Jvm.Cond.code y bytes mx rt).before a s = true := by
  simp only [Bool.and_eq_true, beq_iff_eq, Bool.not_eq_true', decide_eq_true_eq] at h5
  obtain ⟨⟨⟨⟨⟨g1, g2⟩, g3⟩, g4⟩, g5⟩, g6⟩ := h5
  simp [Cond.before, Cond.holds, Cond.value, h1, h2, h3, h4, g1, g2, g3, g4, g5, g6]
def isCode : Jvm.Cond → Bool
  | .code _ _ _ _ => true
  | _ => false
theorem all_split {L : List Jvm.Cond} {P : Jvm.Cond → Bool} (h1 : L.all (fun c => isCode c || P c) = true) (h2 : ∀ c ∈ L.filter isCode, P c = true) : L.all P = true := by
  refine List.all_eq_true.mpr fun c hc => ?_
  have h := List.all_eq_true.mp h1 c hc
  rcases Bool.eq_false_or_eq_true (isCode c) with hi | hi
  · exact h2 c (List.mem_filter.mpr ⟨hc, hi⟩)
  · simpa [hi] using h
set_option maxRecDepth 65536 in
theorem w_c0 : (Jvm.Cond.code x code maxLocals ret).before args0 about1 = true := code_word (m := ⟨1, 2⟩) (meth := k1m2) (c := k1c2) (by decide +kernel) rfl rfl rfl (by decide +kernel)
set_option maxRecDepth 65536 in
theorem w_c1 : (Jvm.Cond.code ({ cls := "com/example/wirelore/wirelore/dissection/ByteReader", name := "<init>", desc := "([B)V" } : Jvm.MethodName) prog_29_method_1_code (2 : Nat) (Option.none : Option Jvm.ClassFile.FieldType)).before args0 about1 = true := code_word (m := ⟨2, 0⟩) (meth := k2m0) (c := k2c0) (by decide +kernel) rfl rfl rfl (by decide +kernel)
set_option maxRecDepth 65536 in
theorem w_c2 : (Jvm.Cond.code ({ cls := "com/example/wirelore/wirelore/dissection/ByteReader", name := "<init>", desc := "([BII)V" } : Jvm.MethodName) prog_29_method_2_code (4 : Nat) (Option.none : Option Jvm.ClassFile.FieldType)).before args0 about1 = true := code_word (m := ⟨2, 1⟩) (meth := k2m1) (c := k2c1) (by decide +kernel) rfl rfl rfl (by decide +kernel)
set_option maxRecDepth 65536 in
theorem w_c3 : (Jvm.Cond.code ({ cls := "java/lang/Object", name := "<init>", desc := "()V" } : Jvm.MethodName) object_method_1_code (1 : Nat) (Option.none : Option Jvm.ClassFile.FieldType)).before args0 about1 = true := code_word (m := ⟨0, 0⟩) (meth := k0m0) (c := k0c0) (by decide +kernel) rfl rfl rfl (by decide +kernel)
set_option maxRecDepth 65536 in
theorem w_c4 : (Jvm.Cond.code ({ cls := "com/example/wirelore/wirelore/dissection/ByteReader", name := "read", desc := "([BII)V" } : Jvm.MethodName) prog_29_method_4_code (4 : Nat) (Option.none : Option Jvm.ClassFile.FieldType)).before args0 about1 = true := code_word (m := ⟨2, 2⟩) (meth := k2m2) (c := k2c2) (by decide +kernel) rfl rfl rfl (by decide +kernel)
set_option maxRecDepth 65536 in
theorem w_c5 : (Jvm.Cond.code ({ cls := "com/example/wirelore/wirelore/dissection/ByteReader", name := "narrowTo", desc := "(I)V" } : Jvm.MethodName) prog_29_method_8_code (2 : Nat) (Option.none : Option Jvm.ClassFile.FieldType)).before args0 about1 = true := code_word (m := ⟨2, 6⟩) (meth := k2m6) (c := k2c6) (by decide +kernel) rfl rfl rfl (by decide +kernel)
set_option maxRecDepth 65536 in
theorem w_c6 : (Jvm.Cond.code ({ cls := "java/lang/Math", name := "min", desc := "(II)I" } : Jvm.MethodName) jdk_29_method_69_code (2 : Nat) (Option.some Jvm.ClassFile.FieldType.int)).before args0 about1 = true := code_word (m := ⟨3, 1⟩) (meth := k3m1) (c := k3c1) (by decide +kernel) rfl rfl rfl (by decide +kernel)
set_option maxRecDepth 65536 in
theorem w_c7 : (Jvm.Cond.code ({ cls := "com/example/wirelore/wirelore/dissection/ByteReader", name := "split", desc := "(I)Lcom/example/wirelore/wirelore/dissection/ByteReader;" } : Jvm.MethodName) prog_29_method_9_code (3 : Nat) (Option.some (Jvm.ClassFile.FieldType.object "com/example/wirelore/wirelore/dissection/ByteReader"))).before args0 about1 = true := code_word (m := ⟨2, 7⟩) (meth := k2m7) (c := k2c7) (by decide +kernel) rfl rfl rfl (by decide +kernel)
set_option maxRecDepth 65536 in
theorem w_c8 : (Jvm.Cond.code ({ cls := "com/example/wirelore/wirelore/dissection/ByteReader", name := "split", desc := "(ILcom/example/wirelore/wirelore/dissection/ByteReader;)V" } : Jvm.MethodName) prog_29_method_10_code (4 : Nat) (Option.none : Option Jvm.ClassFile.FieldType)).before args0 about1 = true := code_word (m := ⟨2, 8⟩) (meth := k2m8) (c := k2c8) (by decide +kernel) rfl rfl rfl (by decide +kernel)
set_option maxRecDepth 65536 in
theorem w_c9 : (Jvm.Cond.code ({ cls := "com/example/wirelore/wirelore/dissection/ByteReader", name := "remaining", desc := "()I" } : Jvm.MethodName) prog_29_method_7_code (1 : Nat) (Option.some Jvm.ClassFile.FieldType.int)).before args0 about1 = true := code_word (m := ⟨2, 5⟩) (meth := k2m5) (c := k2c5) (by decide +kernel) rfl rfl rfl (by decide +kernel)
set_option maxRecDepth 65536 in
theorem w_c10 : (Jvm.Cond.code ({ cls := "com/example/wirelore/wirelore/dissection/ByteReader", name := "position", desc := "()I" } : Jvm.MethodName) prog_29_method_5_code (1 : Nat) (Option.some Jvm.ClassFile.FieldType.int)).before args0 about1 = true := code_word (m := ⟨2, 3⟩) (meth := k2m3) (c := k2c3) (by decide +kernel) rfl rfl rfl (by decide +kernel)
set_option maxRecDepth 65536 in
theorem w_c11 : (Jvm.Cond.code ({ cls := "com/example/wirelore/wirelore/dissection/ByteReader", name := "limit", desc := "()I" } : Jvm.MethodName) prog_29_method_6_code (1 : Nat) (Option.some Jvm.ClassFile.FieldType.int)).before args0 about1 = true := code_word (m := ⟨2, 4⟩) (meth := k2m4) (c := k2c4) (by decide +kernel) rfl rfl rfl (by decide +kernel)
set_option maxRecDepth 65536 in
theorem w_c12 : (Jvm.Cond.code ({ cls := "com/example/wirelore/wirelore/dissection/ByteReaderIndexOfPinLaw", name := "hit", desc := "([BIIII)Z" } : Jvm.MethodName) method_2_code (5 : Nat) (Option.some Jvm.ClassFile.FieldType.boolean)).before args0 about1 = true := code_word (m := ⟨1, 1⟩) (meth := k1m1) (c := k1c1) (by decide +kernel) rfl rfl rfl (by decide +kernel)
set_option maxRecDepth 65536 in
theorem w_c13 : (Jvm.Cond.code ({ cls := "com/example/wirelore/wirelore/dissection/ByteReader", name := "indexOf", desc := "(I)I" } : Jvm.MethodName) prog_29_method_23_code (3 : Nat) (Option.some Jvm.ClassFile.FieldType.int)).before args0 about1 = true := code_word (m := ⟨2, 9⟩) (meth := k2m9) (c := k2c9) (by decide +kernel) rfl rfl rfl (by decide +kernel)
def codes1 : List Jvm.Cond := [Jvm.Cond.code x code maxLocals ret, Jvm.Cond.code ({ cls := "com/example/wirelore/wirelore/dissection/ByteReader", name := "<init>", desc := "([B)V" } : Jvm.MethodName) prog_29_method_1_code (2 : Nat) (Option.none : Option Jvm.ClassFile.FieldType), Jvm.Cond.code ({ cls := "com/example/wirelore/wirelore/dissection/ByteReader", name := "<init>", desc := "([BII)V" } : Jvm.MethodName) prog_29_method_2_code (4 : Nat) (Option.none : Option Jvm.ClassFile.FieldType), Jvm.Cond.code ({ cls := "java/lang/Object", name := "<init>", desc := "()V" } : Jvm.MethodName) object_method_1_code (1 : Nat) (Option.none : Option Jvm.ClassFile.FieldType), Jvm.Cond.code ({ cls := "com/example/wirelore/wirelore/dissection/ByteReader", name := "read", desc := "([BII)V" } : Jvm.MethodName) prog_29_method_4_code (4 : Nat) (Option.none : Option Jvm.ClassFile.FieldType), Jvm.Cond.code ({ cls := "com/example/wirelore/wirelore/dissection/ByteReader", name := "narrowTo", desc := "(I)V" } : Jvm.MethodName) prog_29_method_8_code (2 : Nat) (Option.none : Option Jvm.ClassFile.FieldType), Jvm.Cond.code ({ cls := "java/lang/Math", name := "min", desc := "(II)I" } : Jvm.MethodName) jdk_29_method_69_code (2 : Nat) (Option.some Jvm.ClassFile.FieldType.int), Jvm.Cond.code ({ cls := "com/example/wirelore/wirelore/dissection/ByteReader", name := "split", desc := "(I)Lcom/example/wirelore/wirelore/dissection/ByteReader;" } : Jvm.MethodName) prog_29_method_9_code (3 : Nat) (Option.some (Jvm.ClassFile.FieldType.object "com/example/wirelore/wirelore/dissection/ByteReader")), Jvm.Cond.code ({ cls := "com/example/wirelore/wirelore/dissection/ByteReader", name := "split", desc := "(ILcom/example/wirelore/wirelore/dissection/ByteReader;)V" } : Jvm.MethodName) prog_29_method_10_code (4 : Nat) (Option.none : Option Jvm.ClassFile.FieldType), Jvm.Cond.code ({ cls := "com/example/wirelore/wirelore/dissection/ByteReader", name := "remaining", desc := "()I" } : Jvm.MethodName) prog_29_method_7_code (1 : Nat) (Option.some Jvm.ClassFile.FieldType.int), Jvm.Cond.code ({ cls := "com/example/wirelore/wirelore/dissection/ByteReader", name := "position", desc := "()I" } : Jvm.MethodName) prog_29_method_5_code (1 : Nat) (Option.some Jvm.ClassFile.FieldType.int), Jvm.Cond.code ({ cls := "com/example/wirelore/wirelore/dissection/ByteReader", name := "limit", desc := "()I" } : Jvm.MethodName) prog_29_method_6_code (1 : Nat) (Option.some Jvm.ClassFile.FieldType.int), Jvm.Cond.code ({ cls := "com/example/wirelore/wirelore/dissection/ByteReaderIndexOfPinLaw", name := "hit", desc := "([BIIII)Z" } : Jvm.MethodName) method_2_code (5 : Nat) (Option.some Jvm.ClassFile.FieldType.boolean), Jvm.Cond.code ({ cls := "com/example/wirelore/wirelore/dissection/ByteReader", name := "indexOf", desc := "(I)I" } : Jvm.MethodName) prog_29_method_23_code (3 : Nat) (Option.some Jvm.ClassFile.FieldType.int)]
set_option maxRecDepth 65536 in
theorem codes_eq : words1.filter isCode = codes1 := rfl
theorem w_codes : ∀ c ∈ words1.filter isCode, c.before args0 about1 = true := by
  rw [codes_eq]
  intro c hc
  simp only [codes1, List.mem_cons, List.not_mem_nil, or_false] at hc
  rcases hc with rfl | rfl | rfl | rfl | rfl | rfl | rfl | rfl | rfl | rfl | rfl | rfl | rfl | rfl
  · exact w_c0
  · exact w_c1
  · exact w_c2
  · exact w_c3
  · exact w_c4
  · exact w_c5
  · exact w_c6
  · exact w_c7
  · exact w_c8
  · exact w_c9
  · exact w_c10
  · exact w_c11
  · exact w_c12
  · exact w_c13
set_option maxRecDepth 65536 in
theorem w_t1 : (words1.take 24).all (fun c => isCode c || c.before args0 about1) = true := by decide +kernel
set_option maxRecDepth 65536 in
theorem w_t2 : ((words1.drop 24).take 24).all (fun c => isCode c || c.before args0 about1) = true := by decide +kernel
set_option maxRecDepth 65536 in
theorem w_t3 : ((words1.drop 24).drop 24).all (fun c => isCode c || c.before args0 about1) = true := by decide +kernel
theorem w_tables : (allAtoms (Jvm.Cond.code x code maxLocals ret :: tables_1)).before args0 about1 = true := by
  rw [allAtoms_all]
  show words1.all (fun c => c.before args0 about1) = true
  refine all_split ?_ w_codes
  rw [← List.take_append_drop 24 words1, List.all_append, w_t1, ← List.take_append_drop 24 (words1.drop 24), List.all_append, w_t2, w_t3]
  rfl
set_option maxRecDepth 65536 in
theorem w_case : (Jvm.Cond.and given_1 narrow_1).before args0 about1 = true := by decide +kernel
theorem w_applies : (headSpec (Jvm.Cond.code x code maxLocals ret :: tables_1) room_1).applies x e0.platform about1 = true :=
  (Spec.applies_iff w_frames).mpr ⟨w_running, w_runnable, w_alone, w_named, w_hears, w_ripe, w_room, w_tables⟩
theorem atStart : AtStart classFile x code maxLocals ret World_1 tables_1 room_1 Calls_1 rest_1 Pre_1 launch0 p0 e0 about1 theMethod args0 below0 :=
  ⟨lists_1, trivial, launch0.admits_env _ _ _, launch0.least_env, fairChoices_fair.cas, fairChoices_fair.clock, w_frames, w_args, w_heap, w_applies, trivial, trivial, w_case⟩
end start1
theorem witness_1 : WitnessClaimed_1 := ⟨start1.p0, start1.e0, start1.about1, start1.theMethod, start1.args0, start1.below0, start1.atStart⟩
end Jvm.Pilot.@@N@@
