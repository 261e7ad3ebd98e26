import JvmDerived
import JvmDerived.Pilot.@@N@@Statement
import JvmDerived.Pilot.@@N@@Code
set_option linter.unusedVariables false
set_option linter.unusedSimpArgs false
namespace Jvm.RoadKit
open Sem ClassFile Op Lib Jvm.Stand Jvm.Free Jvm.LawKit
section New
variable {p : Program} {l : Launch} {e : Env} {R : Room} {s : State} {m : MethodId} {args : Array Value} {below : List Frame} {meth : Method} {c : Code} {T : State} {locs : List Loc} {cells slots : Nat}
theorem retI (X : Stand p l e R s m args below meth c T locs cells slots) (hx : p.tables.exec = Jvm.exec) {pc : Nat} {Ls : Array Slot} {z : Int32} {rest : List Value} (hret : meth.sig.returnType = some .int) (hd : decode c.code pc = .ok (.ireturn, 1)) {fs : List Frame}
    (hl : ∀ (f : JFrame) (acts : List Action), f.method = m → f.locked = none → f.entered = [] → (doReturn e (T.setTop f) acts (some (.int z))).1 = T.setFrames fs) : Steps p.tables e below (T.setTop (mkF m pc Ls (.int z :: rest))) (T.setFrames fs) := by
  have hm' : T.vm.method? m = some meth := X.method'
  have hn : narrow .int (.int z) = .int z := rfl
  show Steps p.tables e below (T.setTop { method := m, pc := pc, locals := Ls, stack := _ :: rest, locked := none }) _
  jvm_step X.here [X.here.top, hx, hd, hm', hret, hn]
  first | (intro acts; rw [hl _ acts rfl rfl rfl]) | rw [hl _ _ rfl rfl rfl]
  exact Steps.refl _
/-- the run from A comes to its end, and there Q holds -/
def own_G (tb : Tables) (e : Env) (below : List Frame) (s : State) (Q : Option Value → Heap → List Loc → Prop) (C S : Nat) (A : State) : Prop :=
  ∃ s₂ o, Steps tb e below A s₂ ∧ s₂.status = .running ∧ Ended s₂ below o ∧ ∃ v L, o = .returned v ∧ Q v s₂.heap L ∧ FrameEnd s o s₂ L C S
theorem own_by {tb : Tables} {Q : Option Value → Heap → List Loc → Prop} {C S : Nat} {A B : State} (st : ∀ t, Steps tb e below B t → Steps tb e below A t) (k : own_G tb e below s Q C S B) : own_G tb e below s Q C S A := by
  obtain ⟨s₂, o, h, r⟩ := k
  exact ⟨s₂, o, st _ h, r⟩
theorem own_end (X : Stand p l e R s m args below meth c T locs cells slots) {v : Option Value} (hv : meth.sig.returnType = none → v = none) (hlk : meth.locks = false) {Q : Option Value → Heap → List Loc → Prop} {C S : Nat} {A : State}
    (st : ∀ fs, (∀ (f : JFrame) (acts : List Action), f.method = m → f.locked = none → f.entered = [] → (doReturn e (T.setTop f) acts v).1 = T.setFrames fs) → Steps p.tables e below A (T.setFrames fs))
    (hQ : Q v T.heap locs) (hc : cells ≤ C) (hs : slots ≤ S) : own_G p.tables e below s Q C S A := by
  obtain ⟨fs, hr, hrun, hended, hW, hsame⟩ := X.leave hv hlk
  exact ⟨_, _, st fs hr, hrun, hended, _, _, rfl, hQ, ⟨_, rfl⟩, hW, hsame.mono hc hs⟩
theorem own_lremM {tb : Tables} [Ours tb] {target : State} {g : JFrame} (h : At T m c below) (hx : tb.exec = Jvm.exec) (hg : g.method = m) {x y : Int64} {rest : List Value} (hd : decode c.code g.pc = .ok (.lrem, 1)) (hs : g.stack = .long y :: .long x :: rest) (hy : y ≠ 0)
    (hr : Steps tb e below (T.setTop { g with pc := g.pc + 1, stack := .long (x % y) :: rest }) target) : Steps tb e below (T.setTop g) target := by
  have q : x - x / y * y = x % y := lrem_mod x y
  exact XT.lrem h hx hg hd hs hy (by rw [q]; exact hr)
variable {Z : State} {a0 : Array Value} {h h' : Heap} {a b : Addr} {ty : FieldType} {n : Nat} {f : Nat → Value} {sl : Nat} {v : Value} {ws : List Addr}
/-- the array at a has n places, place k holds f k -/
def own_A (Z : State) (h : Heap) (a : Addr) (ty : FieldType) (n : Nat) (f : Nat → Value) : Prop := ∃ c : Cell, Arr Z h a c ty ∧ c.slots.size = n ∧ ∀ k, k < n → c.slots[k]? = some (f k)
abbrev own_AJ (Z : State) (h : Heap) (a : Addr) (n : Nat) (F : Nat → Int64) : Prop := own_A Z h a .long n (fun k => .long (F k))
abbrev own_AI (Z : State) (h : Heap) (a : Addr) (n : Nat) (F : Nat → Int32) : Prop := own_A Z h a .int n (fun k => .int (F k))
abbrev own_AB (Z : State) (h : Heap) (a : Addr) (n : Nat) (F : Nat → Int32) : Prop := own_A Z h a .byte n (fun k => .int (F k))
def own_upd {α : Type} (f : Nat → α) (k : Nat) (x : α) : Nat → α := fun i => if i = k then x else f i
theorem own_A.lt (F : own_A Z h a ty n f) : a < h.size := by obtain ⟨c, A, -⟩ := F; exact A.lt
theorem own_A.ext (F : own_A Z h a ty n f) (E : Ext h h') : own_A Z h' a ty n f := by obtain ⟨c, A, r⟩ := F; exact ⟨c, A.ext E, r⟩
theorem own_A.other (F : own_A Z h b ty n f) (W : Wr h h' a sl v) (q : b ≠ a) : own_A Z h' b ty n f := by obtain ⟨c, A, r⟩ := F; exact ⟨c, A.other W q, r⟩
theorem own_A.keep (F : own_A Z h a ty n f) (K : Keep h h' ws) (q : a ∉ ws) : own_A Z h' a ty n f := by obtain ⟨c, A, r⟩ := F; exact ⟨c, ⟨K.2.1 a c A.1 q, A.2⟩, r⟩
theorem own_A.cast {f' : Nat → Value} (F : own_A Z h a ty n f) (q : ∀ k, k < n → f k = f' k) : own_A Z h a ty n f' := by obtain ⟨c, A, S, H⟩ := F; exact ⟨c, A, S, fun k hk => by rw [H k hk, q k hk]⟩
theorem own_idx {j : Int32} {k n : Nat} (hk : j.toInt = k) (hn : k < n) {c : Cell} (S : c.slots.size = n) : ¬ (j < 0 ∨ c.slots.size ≤ j.toNatClampNeg) ∧ j.toNatClampNeg = k := by
  have e : j.toNatClampNeg = k := by show j.toInt.toNat = k; rw [hk]; rfl
  refine ⟨?_, e⟩
  rw [e, S]
  rintro (q | q)
  · rw [Int32.lt_iff_toInt_lt] at q; have : (0 : Int32).toInt = 0 := by decide
    omega
  · omega
theorem own_A.set {c : Cell} (A : Arr Z h a c ty) (S : c.slots.size = n) (H : ∀ k, k < n → c.slots[k]? = some (f k)) {j : Nat} (W : Wr h h' a j v) (hj : j < n) {f' : Nat → Value} (q : ∀ k, k < n → f' k = if k = j then v else f k) : own_A Z h' a ty n f' := by
  refine ⟨c.setSlot j v, A.same W, by rw [sz_set]; exact S, fun i hi => ?_⟩
  rw [q i hi]
  by_cases e : i = j
  · subst e; simp [Cell.setSlot, S, hi]
  · rw [if_neg e, ← H i hi]; show (c.slots.setIfInBounds j v)[i]? = _; exact Array.getElem?_setIfInBounds_ne (Ne.symm e)
theorem own_ldJ (X : Stand p l e R s m args below meth c T locs cells slots) (hx : p.tables.exec = Jvm.exec) (hZ : Z.Warmed39 s.vm) (eT : T.heap = h) {F : Nat → Int64} (V : own_AJ Z h a n F) {j : Int32} {k : Nat} (hk : j.toInt = k) (hn : k < n) {g : JFrame} (hg : g.method = m) {rest : List Value} (hs : g.stack = .int j :: .ref a :: rest) (hd : decode c.code g.pc = .ok (.laload, 1)) :
    ∀ target, Steps p.tables e below (T.setTop { g with pc := g.pc + 1, stack := .long (F k) :: rest }) target → Steps p.tables e below (T.setTop g) target := by
  obtain ⟨c, A, S, H⟩ := V
  obtain ⟨q, e'⟩ := own_idx hk hn S
  intro target hr
  exact X.laload hx (by rw [eT]; exact A.1) (State.isArrayOf_alike hZ.alike A.2.1) A.2.2 q (v := .long (F k)) (by rw [e']; exact H k hn) hg hs hd target hr
theorem own_ldI (X : Stand p l e R s m args below meth c T locs cells slots) (hx : p.tables.exec = Jvm.exec) (hZ : Z.Warmed39 s.vm) (eT : T.heap = h) {F : Nat → Int32} (V : own_AI Z h a n F) {j : Int32} {k : Nat} (hk : j.toInt = k) (hn : k < n) {g : JFrame} (hg : g.method = m) {rest : List Value} (hs : g.stack = .int j :: .ref a :: rest) (hd : decode c.code g.pc = .ok (.iaload, 1)) :
    ∀ target, Steps p.tables e below (T.setTop { g with pc := g.pc + 1, stack := .int (F k) :: rest }) target → Steps p.tables e below (T.setTop g) target := by
  obtain ⟨c, A, S, H⟩ := V
  obtain ⟨q, e'⟩ := own_idx hk hn S
  intro target hr
  exact X.iaload hx (by rw [eT]; exact A.1) (State.isArrayOf_alike hZ.alike A.2.1) A.2.2 q (v := .int (F k)) (by rw [e']; exact H k hn) hg hs hd target hr
theorem own_ldB (X : Stand p l e R s m args below meth c T locs cells slots) (hx : p.tables.exec = Jvm.exec) (hZ : Z.Warmed39 s.vm) (eT : T.heap = h) {F : Nat → Int32} (V : own_AB Z h a n F) {j : Int32} {k : Nat} (hk : j.toInt = k) (hn : k < n) {g : JFrame} (hg : g.method = m) {rest : List Value} (hs : g.stack = .int j :: .ref a :: rest) (hd : decode c.code g.pc = .ok (.baload, 1)) :
    ∀ target, Steps p.tables e below (T.setTop { g with pc := g.pc + 1, stack := .int (F k) :: rest }) target → Steps p.tables e below (T.setTop g) target := by
  obtain ⟨c, A, S, H⟩ := V
  obtain ⟨q, e'⟩ := own_idx hk hn S
  intro target hr
  exact X.baloadBytes hx (by rw [eT]; exact A.1) (State.isArrayOf_alike hZ.alike A.2.1) A.2.2 q (v := .int (F k)) (by rw [e']; exact H k hn) hg hs hd target hr
theorem own_stJ (X : Stand p l e R s m args below meth c T locs cells slots) (hx : p.tables.exec = Jvm.exec) (hZ : Z.Warmed39 s.vm) (eT : T.heap = h) {F : Nat → Int64} (V : own_AJ Z h a n F) {j : Int32} {x : Int64} {k : Nat} (hk : j.toInt = k) (hn : k < n) {g : JFrame} (hg : g.method = m) {rest : List Value} (hs : g.stack = .long x :: .int j :: .ref a :: rest) (hd : decode c.code g.pc = .ok (.lastore, 1)) :
    ∃ T' h', Stand p l e R s m args below meth c T' (locs ++ [⟨a, j.toNatClampNeg⟩]) cells slots ∧ T'.heap = h' ∧ Wr h h' a j.toNatClampNeg (.long x) ∧ own_AJ Z h' a n (own_upd F k x) ∧ ∀ target, Steps p.tables e below (T'.setTop { g with pc := g.pc + 1, stack := rest }) target → Steps p.tables e below (T.setTop g) target := by
  obtain ⟨c, A, S, H⟩ := V
  obtain ⟨q, e'⟩ := own_idx hk hn S
  obtain ⟨T', h', X', e1, W, st⟩ := stJ X hx hZ eT A q hg hs hd
  exact ⟨T', h', X', e1, W, own_A.set A S H W (by rw [e']; exact hn) (fun i _ => by rw [e']; show Value.long (if i = k then x else F i) = _; by_cases z : i = k <;> simp [z]), st⟩
theorem own_stI (X : Stand p l e R s m args below meth c T locs cells slots) (hx : p.tables.exec = Jvm.exec) (hZ : Z.Warmed39 s.vm) (eT : T.heap = h) {F : Nat → Int32} (V : own_AI Z h a n F) {j : Int32} {x : Int32} {k : Nat} (hk : j.toInt = k) (hn : k < n) {g : JFrame} (hg : g.method = m) {rest : List Value} (hs : g.stack = .int x :: .int j :: .ref a :: rest) (hd : decode c.code g.pc = .ok (.iastore, 1)) :
    ∃ T' h', Stand p l e R s m args below meth c T' (locs ++ [⟨a, j.toNatClampNeg⟩]) cells slots ∧ T'.heap = h' ∧ Wr h h' a j.toNatClampNeg (.int x) ∧ own_AI Z h' a n (own_upd F k x) ∧ ∀ target, Steps p.tables e below (T'.setTop { g with pc := g.pc + 1, stack := rest }) target → Steps p.tables e below (T.setTop g) target := by
  obtain ⟨c, A, S, H⟩ := V
  obtain ⟨q, e'⟩ := own_idx hk hn S
  obtain ⟨T', h', X', e1, W, st⟩ := stI X hx hZ eT A q hg hs hd
  exact ⟨T', h', X', e1, W, own_A.set A S H W (by rw [e']; exact hn) (fun i _ => by rw [e']; show Value.int (if i = k then x else F i) = _; by_cases z : i = k <;> simp [z]), st⟩
theorem own_stB (X : Stand p l e R s m args below meth c T locs cells slots) (hx : p.tables.exec = Jvm.exec) (hZ : Z.Warmed39 s.vm) (eT : T.heap = h) {F : Nat → Int32} (V : own_AB Z h a n F) {j : Int32} {x : Int32} {k : Nat} (hk : j.toInt = k) (hn : k < n) {g : JFrame} (hg : g.method = m) {rest : List Value} (hs : g.stack = .int x :: .int j :: .ref a :: rest) (hd : decode c.code g.pc = .ok (.bastore, 1)) :
    ∃ T' h', Stand p l e R s m args below meth c T' (locs ++ [⟨a, j.toNatClampNeg⟩]) cells slots ∧ T'.heap = h' ∧ Wr h h' a j.toNatClampNeg (.int (nar .byte x)) ∧ own_AB Z h' a n (own_upd F k (nar .byte x)) ∧ ∀ target, Steps p.tables e below (T'.setTop { g with pc := g.pc + 1, stack := rest }) target → Steps p.tables e below (T.setTop g) target := by
  obtain ⟨c, A, S, H⟩ := V
  obtain ⟨q, e'⟩ := own_idx hk hn S
  obtain ⟨T', h', X', e1, W, st⟩ := stB X hx hZ eT A q hg hs hd
  exact ⟨T', h', X', e1, W, own_A.set A S H W (by rw [e']; exact hn) (fun i _ => by rw [e']; show Value.int (if i = k then nar .byte x else F i) = _; by_cases z : i = k <;> simp [z]), st⟩
theorem own_newA {cA : ClassId} {z : Int32} {N : Nat} (A : Arr Z h a (newA cA ty z) ty) (hz : z.toInt = N) : own_A Z h a ty N (fun _ => defaultValue ty) := by
  have e : z.toNatClampNeg = N := by show z.toInt.toNat = N; rw [hz]; rfl
  refine ⟨_, A, by rw [sz_new]; exact e, fun k hk => ?_⟩
  show (Array.replicate z.toNatClampNeg (defaultValue ty))[k]? = _
  rw [e]; simp [hk]
theorem own_neg {z : Int32} {N : Nat} (hz : z.toInt = N) : ¬ z < 0 ∧ z.toNatClampNeg = N := by
  refine ⟨fun q => ?_, by show z.toInt.toNat = N; rw [hz]; rfl⟩
  rw [Int32.lt_iff_toInt_lt] at q; have : (0 : Int32).toInt = 0 := by decide
  omega
theorem own_newJ (X : Stand p l e R s m args below meth c T locs cells slots) (hx : p.tables.exec = Jvm.exec) (hZ : Z.Warmed39 s.vm) (w : (Cond.arrayClass .long).before a0 Z = true) (eT : T.heap = h) {g : JFrame} (hg : g.method = m) (hd : decode c.code g.pc = .ok (.newarray .long, 2)) {z : Int32} {rest : List Value} (hs : g.stack = .int z :: rest)
    {N : Nat} (hz : z.toInt = N) {cap : Nat} (hcap : N ≤ cap) (hb : cap * 8 ≤ 536870912) (hc : cells + 1 ≤ R.cells) (hl : slots + cap ≤ R.slots) :
    ∃ T' h', Stand p l e R s m args below meth c T' locs (cells + 1) (slots + cap) ∧ T'.heap = h' ∧ Ext h h' ∧ own_AJ Z h' h.size N (fun _ => 0) ∧ ∀ target, Steps p.tables e below (T'.setTop { g with pc := g.pc + 2, stack := .ref h.size :: rest }) target → Steps p.tables e below (T.setTop g) target := by
  obtain ⟨q1, q2⟩ := own_neg hz
  obtain ⟨T', h', cA, X', e1, E, A, st⟩ := newP X hx hZ (aty := .long) w eT hg hd hs q1 (cap := cap) (by rw [q2]; exact hcap) hb hc hl
  exact ⟨T', h', X', e1, E, own_newA A hz, st⟩
theorem own_newI (X : Stand p l e R s m args below meth c T locs cells slots) (hx : p.tables.exec = Jvm.exec) (hZ : Z.Warmed39 s.vm) (w : (Cond.arrayClass .int).before a0 Z = true) (eT : T.heap = h) {g : JFrame} (hg : g.method = m) (hd : decode c.code g.pc = .ok (.newarray .int, 2)) {z : Int32} {rest : List Value} (hs : g.stack = .int z :: rest)
    {N : Nat} (hz : z.toInt = N) {cap : Nat} (hcap : N ≤ cap) (hb : cap * 8 ≤ 536870912) (hc : cells + 1 ≤ R.cells) (hl : slots + cap ≤ R.slots) :
    ∃ T' h', Stand p l e R s m args below meth c T' locs (cells + 1) (slots + cap) ∧ T'.heap = h' ∧ Ext h h' ∧ own_AI Z h' h.size N (fun _ => 0) ∧ ∀ target, Steps p.tables e below (T'.setTop { g with pc := g.pc + 2, stack := .ref h.size :: rest }) target → Steps p.tables e below (T.setTop g) target := by
  obtain ⟨q1, q2⟩ := own_neg hz
  obtain ⟨T', h', cA, X', e1, E, A, st⟩ := newP X hx hZ (aty := .int) w eT hg hd hs q1 (cap := cap) (by rw [q2]; exact hcap) hb hc hl
  exact ⟨T', h', X', e1, E, own_newA A hz, st⟩
theorem own_newB (X : Stand p l e R s m args below meth c T locs cells slots) (hx : p.tables.exec = Jvm.exec) (hZ : Z.Warmed39 s.vm) (w : (Cond.arrayClass .byte).before a0 Z = true) (eT : T.heap = h) {g : JFrame} (hg : g.method = m) (hd : decode c.code g.pc = .ok (.newarray .byte, 2)) {z : Int32} {rest : List Value} (hs : g.stack = .int z :: rest)
    {N : Nat} (hz : z.toInt = N) {cap : Nat} (hcap : N ≤ cap) (hb : cap * 8 ≤ 536870912) (hc : cells + 1 ≤ R.cells) (hl : slots + cap ≤ R.slots) :
    ∃ T' h', Stand p l e R s m args below meth c T' locs (cells + 1) (slots + cap) ∧ T'.heap = h' ∧ Ext h h' ∧ own_AB Z h' h.size N (fun _ => 0) ∧ ∀ target, Steps p.tables e below (T'.setTop { g with pc := g.pc + 2, stack := .ref h.size :: rest }) target → Steps p.tables e below (T.setTop g) target := by
  obtain ⟨q1, q2⟩ := own_neg hz
  obtain ⟨T', h', cA, X', e1, E, A, st⟩ := newP X hx hZ (aty := .byte) w eT hg hd hs q1 (cap := cap) (by rw [q2]; exact hcap) hb hc hl
  exact ⟨T', h', X', e1, E, own_newA A hz, st⟩
theorem own_len (X : Stand p l e R s m args below meth c T locs cells slots) (hx : p.tables.exec = Jvm.exec) (hZ : Z.Warmed39 s.vm) (eT : T.heap = h) (V : own_A Z h a ty n f) {z : Int32} (hz : z.toInt = n) {g : JFrame} (hg : g.method = m) {rest : List Value} (hs : g.stack = .ref a :: rest) (hd : decode c.code g.pc = .ok (.arraylength, 1)) :
    ∀ target, Steps p.tables e below (T.setTop { g with pc := g.pc + 1, stack := .int z :: rest }) target → Steps p.tables e below (T.setTop g) target := by
  obtain ⟨c, A, S, H⟩ := V
  obtain ⟨q1, q2⟩ := own_neg hz
  intro target hr
  exact X.arraylength hx (by rw [eT]; exact A.1) (State.isArrayOf_alike hZ.alike A.2.1) hg hs hd target (by rw [len_of (S.trans q2.symm) q1]; exact hr)
theorem own_A.len {n' : Nat} (F : own_A Z h a ty n f) (e : n = n') : own_A Z h a ty n' f := e ▸ F
theorem own_getD_map (F : Nat → Int32) (n k : Nat) (hk : k < n) : ((List.range n).map fun i => Value.int (F i)).getD k (.int 0) = .int (F k) := by
  rw [List.getD_eq_getElem?_getD, List.getElem?_map, List.getElem?_range hk]; rfl
theorem own_arv {F : Nat → Int32} {z : Int32} (V : own_AB Z h a n F) (hz : z.toInt = n) (hf : ∀ k, k < n → fits .byte (.int (F k)) = true) : ∃ k, Arv Z h a k .byte z ((List.range n).map fun i => Value.int (F i)) (.int 0) := by
  obtain ⟨c, A, S, H⟩ := V
  obtain ⟨q1, q2⟩ := own_neg hz
  refine ⟨c.cls, c, A, rfl, by rw [S, q2], q1, fun i hi => ?_, fun i hi => ?_⟩
  · rw [S] at hi; rw [own_getD_map F n i hi]; exact H i hi
  · rw [S] at hi; rw [own_getD_map F n i hi]; exact hf i hi
theorem own_unarv {z : Int32} {vs : List Value} {k : ClassId} {G : Nat → Int32} (V : Arv Z h a k .byte z vs (.int 0)) (hz : z.toInt = n) (hG : ∀ i, i < n → vs.getD i (.int 0) = .int (G i)) : own_AB Z h a n G := by
  obtain ⟨c, A, -, S, -, H, -⟩ := V
  obtain ⟨-, q2⟩ := own_neg hz
  refine ⟨c, A, by rw [S, q2], fun i hi => ?_⟩
  rw [H i (by rw [S, q2]; exact hi), hG i hi]
def own_mix (FA FB : Nat → Int32) (D m : Nat) (j : Nat) : Int32 := if D ≤ j ∧ j < D + m then FA (j - D) else FB j
theorem own_cpB (X : Stand p l e R s m args below meth c T locs cells slots) (hx : p.tables.exec = Jvm.exec) (hZ : Z.Warmed39 s.vm) {own : String} {index : Nat} (hown : s.vm.findClass own = some m.cls)
    (w1 : (Cond.methodLink own index Jvm.Stand.acN).before a0 Z = true) (w2 : (Cond.native Jvm.Stand.acN).before a0 Z = true) (w3 : (Cond.static Jvm.Stand.acN).before a0 Z = true) (w4 : (Cond.initialized "java/lang/System").before a0 Z = true) (eT : T.heap = h)
    {nA nB D : Nat} {FA FB : Nat → Int32} {dp nn zb : Int32} (VA : own_AB Z h a nA FA) (VB : own_AB Z h b nB FB) (fA : ∀ k, k < nA → fits .byte (.int (FA k)) = true) (fB : ∀ k, k < nB → fits .byte (.int (FB k)) = true)
    (hnn : nn.toInt = nA) (hzb : zb.toInt = nB) (hdp : dp.toInt = D) (hle : D + nA ≤ nB) {n0 : Nat} (N : Fr n0 locs) (ge : n0 ≤ b)
    {g : JFrame} (hg : g.method = m) (hsize : g.locals.size = c.maxLocals) {rest : List Value} (hs : g.stack = .int nn :: .int dp :: .ref b :: .int 0 :: .ref a :: rest) (hd : decode c.code g.pc = .ok (.invokestatic index, 3))
    (hf : 1 ≤ R.frames) {W : Nat} (hW : 2 * g.monitorRoom + (rest.map fun v => v.category).sum ≤ W) (hlo : W + (nativeFrameWords "java/lang/System" "arraycopy" 5 + 11) ≤ R.locals) :
    ∃ T' h' L, Stand p l e R s m args below meth c T' L cells slots ∧ T'.heap = h' ∧ Fr n0 L ∧ Keep h h' [b] ∧ own_AB Z h' b nB (own_mix FA FB D nA) ∧
      ∀ target, Steps p.tables e below (T'.setTop { g with pc := g.pc + 3, stack := rest }) target → Steps p.tables e below (T.setTop g) target := by
  obtain ⟨ka, A⟩ := own_arv VA hnn fA
  obtain ⟨kb, B⟩ := own_arv VB hzb fB
  obtain ⟨q1, q2⟩ := own_neg hnn
  obtain ⟨q3, q4⟩ := own_neg hzb
  obtain ⟨q5, q6⟩ := own_neg hdp
  obtain ⟨T', h', L, X', e1, N', K, V, st⟩ := cpA X hx hZ hown w1 w2 w3 w4 eT (sp := 0) (dp := dp) (nn := nn) (us := (List.range nA).map fun i => Value.int (FA i)) A B (Or.inl ⟨rfl, rfl⟩) (by decide) q5 q1 (by rw [q2]; exact Nat.le_of_eq (Nat.zero_add _)) (by rw [q6, q2, q4]; exact hle)
    (by rw [q2]; refine List.map_congr_left fun i hi => ?_; rw [show (0 : Int32).toNatClampNeg = 0 by decide, Nat.zero_add, own_getD_map FA nA i (List.mem_range.mp hi)]) (by rw [q6, q2, List.length_map, List.length_range]; exact hle) N ge hg hsize hs hd hf hW hlo
  refine ⟨T', h', L, X', e1, N', K, own_unarv V hzb fun i hi => ?_, st⟩
  rw [q6, q2]
  have len1 : (List.take D ((List.range nB).map fun i => Value.int (FB i))).length = D := by rw [List.length_take, List.length_map, List.length_range]; omega
  have len2 : ((List.range nA).map fun i => Value.int (FA i)).length = nA := by rw [List.length_map, List.length_range]
  unfold own_mix
  by_cases a1 : i < D
  · rw [if_neg (by omega), List.append_assoc, List.getD_eq_getElem?_getD, List.getElem?_append_left (by rw [len1]; exact a1), List.getElem?_take_of_lt a1, ← List.getD_eq_getElem?_getD, own_getD_map FB nB i hi]
  · by_cases a2 : i < D + nA
    · rw [if_pos ⟨by omega, a2⟩, List.append_assoc, List.getD_eq_getElem?_getD, List.getElem?_append_right (by rw [len1]; omega), len1, List.getElem?_append_left (by rw [len2]; omega), ← List.getD_eq_getElem?_getD, own_getD_map FA nA (i - D) (by omega)]
    · rw [if_neg (by omega), List.append_assoc, List.getD_eq_getElem?_getD, List.getElem?_append_right (by rw [len1]; omega), len1, List.getElem?_append_right (by rw [len2]; omega), len2, List.getElem?_drop, show D + nA + (i - D - nA) = i by omega, ← List.getD_eq_getElem?_getD, own_getD_map FB nB i hi]
end New
end Jvm.RoadKit
namespace Jvm.Pilot.@@N@@
open Jvm Jvm.ClassFile Sem Op Lib Jvm.Free Jvm.Stand Jvm.LawKit Jvm.RoadKit Bundle Jvm.Pilot.@@N@@.Jvm.D
def own_fill (k : Int64) (i : Int32) : Int32 := nar .byte ((XT.ushrL k ((8 : Int32) * i)).toInt32.toInt8.toInt32)
def own_expd (k : Int64) (i at_ n b0 b1 b2 : Int32) : Int32 := if (i - at_) < (0 : Int32) then nar .byte (own_fill k i) else if (i - at_) < n then (if (i - at_) = (0 : Int32) then nar .byte b0 else if (i - at_) = (1 : Int32) then nar .byte b1 else nar .byte b2) else nar .byte (own_fill k i)
def own_lit (b0 b1 b2 : Int32) (j : Nat) : Int32 := if j = 0 then nar .byte b0 else if j = 1 then nar .byte b1 else nar .byte b2
def own_fk (k : Int64) (j : Nat) : Int32 := nar .byte (own_fill k (Int32.ofNat j))
theorem own_narfit (x : Int32) : fits .byte (.int (nar .byte x)) = true := fits_nar_byte x
theorem own_litfit (b0 b1 b2 : Int32) (j : Nat) : fits .byte (.int (own_lit b0 b1 b2 j)) = true := by
  unfold own_lit; split
  · exact own_narfit _
  · split <;> exact own_narfit _
theorem own_lt {x y : Int32} {a b : Nat} (hx : x.toInt = a) (hy : y.toInt = b) : x < y ↔ a < b := by
  rw [Int32.lt_iff_toInt_lt]; omega
theorem own_n3 (x : Int32) : ∃ N : Nat, (x &&& (3 : Int32)).toInt = N ∧ N < 4 := by
  have h := c_mask x (3 : Int32) 2 (by decide) (by decide)
  exact ⟨(x &&& (3 : Int32)).toInt.toNat, by omega, by omega⟩
theorem own_7n {n : Int32} {N : Nat} (h : n.toInt = N) (hN : N < 4) : ((7 : Int32) - n).toInt = 7 - (N : Int) := by
  have q := c_isub (7 : Int32) n
  have r := rng32 ((7 : Int32) - n)
  have k : (7 : Int32).toInt = 7 := by decide
  omega
theorem own_7z {n : Int32} {N : Nat} (h : n.toInt = N) (hN : N < 4) : ((7 : Int32) - n) ≠ 0 := fun z => by
  have e := own_7n h hN
  rw [z, show (0 : Int32).toInt = 0 by decide] at e; omega
theorem own_at {n x : Int32} {N : Nat} (h : n.toInt = N) (hN : N < 4) : ∃ D : Nat, ((XT.ushr x (2 : Int32)) % ((7 : Int32) - n)).toInt = D ∧ D + N ≤ 6 := by
  have e := own_7n h hN
  have u : (XT.ushr x (2 : Int32)).toInt = (x.toInt % 4294967296) / (2 ^ 2 : Nat) := c_iushr x (2 : Int32) 2 (by decide) (by decide)
  have p : 0 ≤ (XT.ushr x (2 : Int32)).toInt := by rw [u]; omega
  have d := (c_irem (XT.ushr x (2 : Int32)) ((7 : Int32) - n) _ e).1 p
  have b1 := Int.emod_nonneg (XT.ushr x (2 : Int32)).toInt (show (7 - (N : Int)) ≠ 0 by omega)
  have b2 := Int.emod_lt_of_pos (XT.ushr x (2 : Int32)).toInt (show (0 : Int) < 7 - (N : Int) by omega)
  rw [← d] at b1 b2
  exact ⟨((XT.ushr x (2 : Int32)) % ((7 : Int32) - n)).toInt.toNat, by omega, by omega⟩
theorem own_fin {k : Int64} {i at_ n b0 b1 b2 : Int32} {I D N : Nat} (hi : i.toInt = I) (ha : at_.toInt = D) (hn : n.toInt = N) (hI : I < 6) (hD : D + N ≤ 6) (hN : N < 4) {FL : Nat → Int32} (hFL : ∀ j, j < N → FL j = own_lit b0 b1 b2 j) (e : i = Int32.ofNat I) :
    own_mix FL (own_fk k) D N I = own_expd k i at_ n b0 b1 b2 := by
  have q := c_isub i at_
  have r := rng32 (i - at_)
  have k0 : (0 : Int32).toInt = 0 := by decide
  have k1 : (1 : Int32).toInt = 1 := by decide
  have v : (i - at_).toInt = (I : Int) - (D : Int) := by omega
  unfold own_mix own_expd own_fk
  simp only [Int32.lt_iff_toInt_lt, ← Int32.toInt_inj, v, k0, k1, hn, ← e]
  by_cases a : I < D
  · rw [if_neg (by omega), if_pos (by omega)]
  · rw [if_neg (show ¬ (I : Int) - (D : Int) < 0 by omega)]
    by_cases b : I < D + N
    · rw [if_pos (show D ≤ I ∧ I < D + N by omega), if_pos (show (I : Int) - (D : Int) < (N : Int) by omega), hFL _ (by omega)]
      unfold own_lit
      by_cases c : I - D = 0
      · rw [if_pos c, if_pos (show (I : Int) - (D : Int) = 0 by omega)]
      · rw [if_neg c, if_neg (show ¬ (I : Int) - (D : Int) = 0 by omega)]
        by_cases d : I - D = 1
        · rw [if_pos d, if_pos (show (I : Int) - (D : Int) = 1 by omega)]
        · rw [if_neg d, if_neg (show ¬ (I : Int) - (D : Int) = 1 by omega)]
    · rw [if_neg (show ¬ (D ≤ I ∧ I < D + N) by omega), if_neg (show ¬ (I : Int) - (D : Int) < (N : Int) by omega)]
theorem own_d1_0 : decode method_3_code 0 = .ok (.lload_n 0, 1) := by decide +kernel
theorem own_d1_1 : decode method_3_code 1 = .ok (.bipush 8, 2) := by decide +kernel
theorem own_d1_3 : decode method_3_code 3 = .ok (.iload_n 2, 1) := by decide +kernel
theorem own_d1_4 : decode method_3_code 4 = .ok (.imul, 1) := by decide +kernel
theorem own_d1_5 : decode method_3_code 5 = .ok (.lushr, 1) := by decide +kernel
theorem own_d1_6 : decode method_3_code 6 = .ok (.l2i, 1) := by decide +kernel
theorem own_d1_7 : decode method_3_code 7 = .ok (.i2b, 1) := by decide +kernel
theorem own_d1_8 : decode method_3_code 8 = .ok (.ireturn, 1) := by decide +kernel
theorem own_pn0 : plainName "com/example/keys_into_regions/keysintoregions/LiteralWritePinLaw" = true := by first | (simp [plainName, overriddenIn]; done) | decide +kernel
theorem own_ef1 (m : MethodId) (x0 : Int64) (x1 : Int32) : entryFrame m #[(.long x0), (.int x1)] 3 = mkF m 0 #[.val (.long x0), .second, .val (.int x1)] [] := by first | (simp [entryFrame, mkF, argsToLocals, Value.category]; done) | rfl
def own_Q1 (Z : State) (q0 : Int64) (p1 : Int32) (h0 : Heap) (n0 : Nat) (v : Option Value) (h : Heap) (L : List Loc) : Prop := v = some (.int (own_fill q0 p1)) ∧ Fr n0 L ∧ h = h0
set_option maxRecDepth 65536 in
set_option maxHeartbeats 40000000 in
theorem rm1 (l : Launch) (Z : State) (aw : Array Value) (hw : ∀ d ∈ tables_1, d.before aw Z = true) (ws : List Jvm.Cond) (q0 : Int64) (p1 : Int32) (h0 : Heap) (n0 : Nat) (Z0 : n0 ≤ h0.size) :
    MetFree l (⟨"com/example/keys_into_regions/keysintoregions/LiteralWritePinLaw", "fill", "(JI)B"⟩ : MethodName) (head1 (Jvm.Cond.code (⟨"com/example/keys_into_regions/keysintoregions/LiteralWritePinLaw", "fill", "(JI)B"⟩ : MethodName) method_3_code 3 (some .byte) :: ws) ({ frames := 0, cells := 0, slots := 0, locals := 0 } : Room)) (fun a U => a = #[(.long q0), (.int p1)] ∧ Z.Warmed39 U.vm ∧ U.heap = h0) (fun _ _ _ _ _ => True) (fun _ U o U' => ∃ v L, o = .returned v ∧ own_Q1 Z q0 p1 h0 n0 v U'.heap L ∧ FrameEnd U o U' L ({ frames := 0, cells := 0, slots := 0, locals := 0 } : Room).cells ({ frames := 0, cells := 0, slots := 0, locals := 0 } : Room).slots) := by
  refine MetFree.of_bodySF (plainFor_of_name own_pn0) hisR ?_
  intro p e s m args below meth c s₁ Bd hml0 hP hK
  obtain ⟨rfl, hZ, hh⟩ := hP
  have hx := Bd.exec
  have hby := Bd.bytes
  have hml : c.maxLocals = 3 := hml0
  have hown : s.vm.findClass "com/example/keys_into_regions/keysintoregions/LiteralWritePinLaw" = some m.cls := findClass_of_methodNamed Bd.named
  have hnm := (name_of_methodNamed Bd.named Bd.method).1
  have X0 : Stand p l e ({ frames := 0, cells := 0, slots := 0, locals := 0 } : Room) s m #[(.long q0), (.int p1)] below meth c s₁ [] 0 0 := Stand.of_body Bd
  have e0 : s₁.heap = h0 := by rw [← hh, Bd.state]; rfl
  have N0 := Fr.nil n0
  show own_G p.tables e below s (own_Q1 Z q0 p1 h0 n0) ({ frames := 0, cells := 0, slots := 0, locals := 0 } : Room).cells ({ frames := 0, cells := 0, slots := 0, locals := 0 } : Room).slots (s₁.setTop (entryFrame m #[(.long q0), (.int p1)] 3))
  refine own_by (fun _ k => castTop (own_ef1 m q0 p1) k) ?_
  show own_G _ _ _ _ _ _ _ (s₁.setTop (mkF m 0 #[.val (.long q0), .second, .val (.int p1)] []))
  refine own_by (fun _ k => XT.lloadN X0.here hx rfl (hb hby own_d1_0) rfl  k) ?_
  show own_G _ _ _ _ _ _ _ (s₁.setTop (mkF m 1 #[.val (.long q0), .second, .val (.int p1)] [(.long q0)]))
  refine own_by (fun _ k => XS.bipush X0.here hx rfl (hb hby own_d1_1) k) ?_
  show own_G _ _ _ _ _ _ _ (s₁.setTop (mkF m 3 #[.val (.long q0), .second, .val (.int p1)] [(.int (8 : Int32)), (.long q0)]))
  refine own_by (fun _ k => XS.iloadN X0.here hx rfl (hb hby own_d1_3) rfl  k) ?_
  show own_G _ _ _ _ _ _ _ (s₁.setTop (mkF m 4 #[.val (.long q0), .second, .val (.int p1)] [(.int p1), (.int (8 : Int32)), (.long q0)]))
  refine own_by (fun _ k => XS.imul X0.here hx rfl (hb hby own_d1_4) rfl k) ?_
  show own_G _ _ _ _ _ _ _ (s₁.setTop (mkF m 5 #[.val (.long q0), .second, .val (.int p1)] [(.int ((8 : Int32) * p1)), (.long q0)]))
  refine own_by (fun _ k => XT.lushr X0.here hx rfl (hb hby own_d1_5) rfl k) ?_
  show own_G _ _ _ _ _ _ _ (s₁.setTop (mkF m 6 #[.val (.long q0), .second, .val (.int p1)] [(.long (XT.ushrL q0 ((8 : Int32) * p1)))]))
  refine own_by (fun _ k => XT.l2i X0.here hx rfl (hb hby own_d1_6) rfl k) ?_
  show own_G _ _ _ _ _ _ _ (s₁.setTop (mkF m 7 #[.val (.long q0), .second, .val (.int p1)] [(.int (XT.ushrL q0 ((8 : Int32) * p1)).toInt32)]))
  refine own_by (fun _ k => XT.i2b X0.here hx rfl (hb hby own_d1_7) rfl k) ?_
  show own_G _ _ _ _ _ _ _ (s₁.setTop (mkF m 8 #[.val (.long q0), .second, .val (.int p1)] [(.int (XT.ushrL q0 ((8 : Int32) * p1)).toInt32.toInt8.toInt32)]))
  exact own_end X0 (v := some (.int (nar .byte (XT.ushrL q0 ((8 : Int32) * p1)).toInt32.toInt8.toInt32))) (fun h => by rw [Bd.returns] at h; cases h) (BodyLoose.notSynchronized Bd) (fun fs hr => retN X0 hx (t := .byte) Bd.returns (by simp) (hb hby own_d1_8) hr) (by rw [e0]; exact ⟨rfl, N0, rfl⟩) (by decide) (by decide)
theorem own_d6_0 : decode method_4_code 0 = .ok (.iload_n 2, 1) := by decide +kernel
theorem own_d6_1 : decode method_4_code 1 = .ok (.iload_n 3, 1) := by decide +kernel
theorem own_d6_2 : decode method_4_code 2 = .ok (.isub, 1) := by decide +kernel
theorem own_d6_3 : decode method_4_code 3 = .ok (.istore 8, 2) := by decide +kernel
theorem own_d6_5 : decode method_4_code 5 = .ok (.iload 8, 2) := by decide +kernel
theorem own_d6_7 : decode method_4_code 7 = .ok (.ifCond .lt 10, 3) := by decide +kernel
theorem own_d6_17 : decode method_4_code 17 = .ok (.lload_n 0, 1) := by decide +kernel
theorem own_d6_18 : decode method_4_code 18 = .ok (.iload_n 2, 1) := by decide +kernel
theorem own_d6_19 : decode method_4_code 19 = .ok (.invokestatic 7, 3) := by decide +kernel
theorem own_pd0 : parseMethodDescriptor "(JI)B" = some ⟨[.long, .int], some .byte⟩ := by decide +kernel
theorem own_d6_22 : decode method_4_code 22 = .ok (.ireturn, 1) := by decide +kernel
theorem own_d6_10 : decode method_4_code 10 = .ok (.iload 8, 2) := by decide +kernel
theorem own_d6_12 : decode method_4_code 12 = .ok (.iload 4, 2) := by decide +kernel
theorem own_d6_14 : decode method_4_code 14 = .ok (.if_icmp .lt 9, 3) := by decide +kernel
theorem own_d6_23 : decode method_4_code 23 = .ok (.iload 8, 2) := by decide +kernel
theorem own_d6_25 : decode method_4_code 25 = .ok (.ifCond .ne 6, 3) := by decide +kernel
theorem own_d6_28 : decode method_4_code 28 = .ok (.iload 5, 2) := by decide +kernel
theorem own_d6_30 : decode method_4_code 30 = .ok (.ireturn, 1) := by decide +kernel
theorem own_d6_31 : decode method_4_code 31 = .ok (.iload 8, 2) := by decide +kernel
theorem own_d6_33 : decode method_4_code 33 = .ok (.iconst 1, 1) := by decide +kernel
theorem own_d6_34 : decode method_4_code 34 = .ok (.if_icmp .ne 6, 3) := by decide +kernel
theorem own_d6_37 : decode method_4_code 37 = .ok (.iload 6, 2) := by decide +kernel
theorem own_d6_39 : decode method_4_code 39 = .ok (.ireturn, 1) := by decide +kernel
theorem own_d6_40 : decode method_4_code 40 = .ok (.iload 7, 2) := by decide +kernel
theorem own_d6_42 : decode method_4_code 42 = .ok (.ireturn, 1) := by decide +kernel
theorem own_ef2 (m : MethodId) (x0 : Int64) (x1 : Int32) (x2 : Int32) (x3 : Int32) (x4 : Int32) (x5 : Int32) (x6 : Int32) : entryFrame m #[(.long x0), (.int x1), (.int x2), (.int x3), (.int x4), (.int x5), (.int x6)] 9 = mkF m 0 #[.val (.long x0), .second, .val (.int x1), .val (.int x2), .val (.int x3), .val (.int x4), .val (.int x5), .val (.int x6), .unset] [] := by first | (simp [entryFrame, mkF, argsToLocals, Value.category]; done) | rfl
def own_Q2 (Z : State) (q0 : Int64) (p1 : Int32) (p2 : Int32) (p3 : Int32) (p4 : Int32) (p5 : Int32) (p6 : Int32) (h0 : Heap) (n0 : Nat) (v : Option Value) (h : Heap) (L : List Loc) : Prop := v = some (.int (own_expd q0 p1 p2 p3 p4 p5 p6)) ∧ Fr n0 L ∧ h = h0
set_option maxRecDepth 65536 in
set_option maxHeartbeats 40000000 in
theorem rm2 (l : Launch) (Z : State) (aw : Array Value) (hw : ∀ d ∈ tables_1, d.before aw Z = true) (ws : List Jvm.Cond) (q0 : Int64) (p1 : Int32) (p2 : Int32) (p3 : Int32) (p4 : Int32) (p5 : Int32) (p6 : Int32) (h0 : Heap) (n0 : Nat) (Z0 : n0 ≤ h0.size) :
    MetFree l (⟨"com/example/keys_into_regions/keysintoregions/LiteralWritePinLaw", "expected", "(JIIIBBB)B"⟩ : MethodName) (head1 (Jvm.Cond.code (⟨"com/example/keys_into_regions/keysintoregions/LiteralWritePinLaw", "expected", "(JIIIBBB)B"⟩ : MethodName) method_4_code 9 (some .byte) :: ws) ({ frames := 1, cells := 0, slots := 0, locals := 14 } : Room)) (fun a U => a = #[(.long q0), (.int p1), (.int p2), (.int p3), (.int p4), (.int p5), (.int p6)] ∧ Z.Warmed39 U.vm ∧ U.heap = h0) (fun _ _ _ _ _ => True) (fun _ U o U' => ∃ v L, o = .returned v ∧ own_Q2 Z q0 p1 p2 p3 p4 p5 p6 h0 n0 v U'.heap L ∧ FrameEnd U o U' L ({ frames := 1, cells := 0, slots := 0, locals := 14 } : Room).cells ({ frames := 1, cells := 0, slots := 0, locals := 14 } : Room).slots) := by
  refine MetFree.of_bodySF (plainFor_of_name own_pn0) hisR ?_
  intro p e s m args below meth c s₁ Bd hml0 hP hK
  obtain ⟨rfl, hZ, hh⟩ := hP
  have hx := Bd.exec
  have hby := Bd.bytes
  have hml : c.maxLocals = 9 := hml0
  have hown : s.vm.findClass "com/example/keys_into_regions/keysintoregions/LiteralWritePinLaw" = some m.cls := findClass_of_methodNamed Bd.named
  have hnm := (name_of_methodNamed Bd.named Bd.method).1
  have X0 : Stand p l e ({ frames := 1, cells := 0, slots := 0, locals := 14 } : Room) s m #[(.long q0), (.int p1), (.int p2), (.int p3), (.int p4), (.int p5), (.int p6)] below meth c s₁ [] 0 0 := Stand.of_body Bd
  have e0 : s₁.heap = h0 := by rw [← hh, Bd.state]; rfl
  have N0 := Fr.nil n0
  show own_G p.tables e below s (own_Q2 Z q0 p1 p2 p3 p4 p5 p6 h0 n0) ({ frames := 1, cells := 0, slots := 0, locals := 14 } : Room).cells ({ frames := 1, cells := 0, slots := 0, locals := 14 } : Room).slots (s₁.setTop (entryFrame m #[(.long q0), (.int p1), (.int p2), (.int p3), (.int p4), (.int p5), (.int p6)] 9))
  refine own_by (fun _ k => castTop (own_ef2 m q0 p1 p2 p3 p4 p5 p6) k) ?_
  show own_G _ _ _ _ _ _ _ (s₁.setTop (mkF m 0 #[.val (.long q0), .second, .val (.int p1), .val (.int p2), .val (.int p3), .val (.int p4), .val (.int p5), .val (.int p6), .unset] []))
  refine own_by (fun _ k => XS.iloadN X0.here hx rfl (hb hby own_d6_0) rfl  k) ?_
  show own_G _ _ _ _ _ _ _ (s₁.setTop (mkF m 1 #[.val (.long q0), .second, .val (.int p1), .val (.int p2), .val (.int p3), .val (.int p4), .val (.int p5), .val (.int p6), .unset] [(.int p1)]))
  refine own_by (fun _ k => XS.iloadN X0.here hx rfl (hb hby own_d6_1) rfl  k) ?_
  show own_G _ _ _ _ _ _ _ (s₁.setTop (mkF m 2 #[.val (.long q0), .second, .val (.int p1), .val (.int p2), .val (.int p3), .val (.int p4), .val (.int p5), .val (.int p6), .unset] [(.int p2), (.int p1)]))
  refine own_by (fun _ k => XS.isub X0.here hx rfl (hb hby own_d6_2) rfl k) ?_
  show own_G _ _ _ _ _ _ _ (s₁.setTop (mkF m 3 #[.val (.long q0), .second, .val (.int p1), .val (.int p2), .val (.int p3), .val (.int p4), .val (.int p5), .val (.int p6), .unset] [(.int (p1 - p2))]))
  refine own_by (fun _ k => XS.istore X0.here hx rfl (hb hby own_d6_3) rfl (l' := #[.val (.long q0), .second, .val (.int p1), .val (.int p2), .val (.int p3), .val (.int p4), .val (.int p5), .val (.int p6), .val (.int (p1 - p2))]) rfl k) ?_
  show own_G _ _ _ _ _ _ _ (s₁.setTop (mkF m 5 #[.val (.long q0), .second, .val (.int p1), .val (.int p2), .val (.int p3), .val (.int p4), .val (.int p5), .val (.int p6), .val (.int (p1 - p2))] []))
  refine own_by (fun _ k => XS.iload X0.here hx rfl (hb hby own_d6_5) rfl  k) ?_
  show own_G _ _ _ _ _ _ _ (s₁.setTop (mkF m 7 #[.val (.long q0), .second, .val (.int p1), .val (.int p2), .val (.int p3), .val (.int p4), .val (.int p5), .val (.int p6), .val (.int (p1 - p2))] [(.int (p1 - p2))]))
  by_cases hc7 : (p1 - p2) < (0 : Int32)
  · refine own_by (fun _ k => XS.ifYes X0.here hx rfl (pc0 := 7) (pc' := 17) rfl (hb hby own_d6_7) rfl (XT.i0_lt_t hc7) (by decide) (by decide) k) ?_
    show own_G _ _ _ _ _ _ _ (s₁.setTop (mkF m 17 #[.val (.long q0), .second, .val (.int p1), .val (.int p2), .val (.int p3), .val (.int p4), .val (.int p5), .val (.int p6), .val (.int (p1 - p2))] []))
    refine own_by (fun _ k => XT.lloadN X0.here hx rfl (hb hby own_d6_17) rfl  k) ?_
    show own_G _ _ _ _ _ _ _ (s₁.setTop (mkF m 18 #[.val (.long q0), .second, .val (.int p1), .val (.int p2), .val (.int p3), .val (.int p4), .val (.int p5), .val (.int p6), .val (.int (p1 - p2))] [(.long q0)]))
    refine own_by (fun _ k => XS.iloadN X0.here hx rfl (hb hby own_d6_18) rfl  k) ?_
    show own_G _ _ _ _ _ _ _ (s₁.setTop (mkF m 19 #[.val (.long q0), .second, .val (.int p1), .val (.int p2), .val (.int p3), .val (.int p4), .val (.int p5), .val (.int p6), .val (.int (p1 - p2))] [(.int p1), (.long q0)]))
    obtain ⟨_, _, ⟨T1, L1, k1, n1⟩, -, X1, ⟨Lc1, hQ1, l1, y1, z1⟩, st1⟩ := Jvm.LawKit.callS X0 hx (y := (⟨"com/example/keys_into_regions/keysintoregions/LiteralWritePinLaw", "fill", "(JI)B"⟩ : MethodName)) hown (mvT hZ (hw _ (List.mem_of_getElem? (i := 1) rfl))) (mvT hZ (hw _ (List.mem_of_getElem? (i := 2) rfl))) (mvT hZ (hw _ (List.mem_of_getElem? (i := 3) rfl))) (mvT hZ (hw _ (List.mem_of_getElem? (i := 4) rfl))) (by decide) (backOf (W := 0) (rm1 l Z aw hw [] q0 p1 h0 n0 Z0 ) hZ (hw _ (List.mem_of_getElem? (i := 4) rfl)) (hw _ (List.mem_of_getElem? (i := 3) rfl)) (by decide) (by decide)) (g := (mkF m 19 #[.val (.long q0), .second, .val (.int p1), .val (.int p2), .val (.int p3), .val (.int p4), .val (.int p5), .val (.int p6), .val (.int (p1 - p2))] [(.int p1), (.long q0)])) rfl (by rw [hml]; rfl) (argsL := [(.long q0), (.int p1)]) (rest := []) (lenOf own_pd0 rfl) rfl (by show 2 * 0 + _ ≤ _; exact Nat.le_of_eq rfl) (hb hby own_d6_19) (fun _ _ => ⟨rfl, e0, (by decide : 0 + 0 ≤ _), (by decide : 0 + 0 ≤ _)⟩)
    dsimp only [Pt.U, Pt.locs, Pt.cells, Pt.slots] at X1 l1 y1 z1 st1 hQ1
    subst l1 y1 z1
    obtain ⟨rfl, Nq1, e1⟩ := hQ1
    have N1 := Fr.app N0 Nq1
    refine own_by (fun _ k => st1 _ k) ?_
    show own_G _ _ _ _ _ _ _ (T1.setTop (mkF m 22 #[.val (.long q0), .second, .val (.int p1), .val (.int p2), .val (.int p3), .val (.int p4), .val (.int p5), .val (.int p6), .val (.int (p1 - p2))] [(.int (own_fill q0 p1))]))
    exact own_end X1 (v := some (.int (nar .byte (own_fill q0 p1)))) (fun h => by rw [Bd.returns] at h; cases h) (BodyLoose.notSynchronized Bd) (fun fs hr => retN X1 hx (t := .byte) Bd.returns (by simp) (hb hby own_d6_22) hr) (by rw [e1]; exact ⟨(by simp only [own_expd, if_pos hc7]; first | done | rfl), N1, rfl⟩) (by decide) (by decide)
  · refine own_by (fun _ k => XS.ifNo X0.here hx rfl (hb hby own_d6_7) rfl (XT.i0_lt_f hc7) k) ?_
    show own_G _ _ _ _ _ _ _ (s₁.setTop (mkF m 10 #[.val (.long q0), .second, .val (.int p1), .val (.int p2), .val (.int p3), .val (.int p4), .val (.int p5), .val (.int p6), .val (.int (p1 - p2))] []))
    refine own_by (fun _ k => XS.iload X0.here hx rfl (hb hby own_d6_10) rfl  k) ?_
    show own_G _ _ _ _ _ _ _ (s₁.setTop (mkF m 12 #[.val (.long q0), .second, .val (.int p1), .val (.int p2), .val (.int p3), .val (.int p4), .val (.int p5), .val (.int p6), .val (.int (p1 - p2))] [(.int (p1 - p2))]))
    refine own_by (fun _ k => XS.iload X0.here hx rfl (hb hby own_d6_12) rfl  k) ?_
    show own_G _ _ _ _ _ _ _ (s₁.setTop (mkF m 14 #[.val (.long q0), .second, .val (.int p1), .val (.int p2), .val (.int p3), .val (.int p4), .val (.int p5), .val (.int p6), .val (.int (p1 - p2))] [(.int p3), (.int (p1 - p2))]))
    by_cases hc14 : (p1 - p2) < p3
    · refine own_by (fun _ k => XS.icmpYes X0.here hx rfl (pc0 := 14) (pc' := 23) rfl (hb hby own_d6_14) rfl (XT.ii_lt_t hc14) (by decide) (by decide) k) ?_
      show own_G _ _ _ _ _ _ _ (s₁.setTop (mkF m 23 #[.val (.long q0), .second, .val (.int p1), .val (.int p2), .val (.int p3), .val (.int p4), .val (.int p5), .val (.int p6), .val (.int (p1 - p2))] []))
      refine own_by (fun _ k => XS.iload X0.here hx rfl (hb hby own_d6_23) rfl  k) ?_
      show own_G _ _ _ _ _ _ _ (s₁.setTop (mkF m 25 #[.val (.long q0), .second, .val (.int p1), .val (.int p2), .val (.int p3), .val (.int p4), .val (.int p5), .val (.int p6), .val (.int (p1 - p2))] [(.int (p1 - p2))]))
      by_cases hc25 : (p1 - p2) = (0 : Int32)
      · refine own_by (fun _ k => XS.ifNo X0.here hx rfl (hb hby own_d6_25) rfl (XT.i0_ne_f hc25) k) ?_
        show own_G _ _ _ _ _ _ _ (s₁.setTop (mkF m 28 #[.val (.long q0), .second, .val (.int p1), .val (.int p2), .val (.int p3), .val (.int p4), .val (.int p5), .val (.int p6), .val (.int (p1 - p2))] []))
        refine own_by (fun _ k => XS.iload X0.here hx rfl (hb hby own_d6_28) rfl  k) ?_
        show own_G _ _ _ _ _ _ _ (s₁.setTop (mkF m 30 #[.val (.long q0), .second, .val (.int p1), .val (.int p2), .val (.int p3), .val (.int p4), .val (.int p5), .val (.int p6), .val (.int (p1 - p2))] [(.int p4)]))
        exact own_end X0 (v := some (.int (nar .byte p4))) (fun h => by rw [Bd.returns] at h; cases h) (BodyLoose.notSynchronized Bd) (fun fs hr => retN X0 hx (t := .byte) Bd.returns (by simp) (hb hby own_d6_30) hr) (by rw [e0]; exact ⟨(by simp only [own_expd, if_neg hc7, if_pos hc14, if_pos hc25]; first | done | rfl), N0, rfl⟩) (by decide) (by decide)
      · refine own_by (fun _ k => XS.ifYes X0.here hx rfl (pc0 := 25) (pc' := 31) rfl (hb hby own_d6_25) rfl (XT.i0_ne_t hc25) (by decide) (by decide) k) ?_
        show own_G _ _ _ _ _ _ _ (s₁.setTop (mkF m 31 #[.val (.long q0), .second, .val (.int p1), .val (.int p2), .val (.int p3), .val (.int p4), .val (.int p5), .val (.int p6), .val (.int (p1 - p2))] []))
        refine own_by (fun _ k => XS.iload X0.here hx rfl (hb hby own_d6_31) rfl  k) ?_
        show own_G _ _ _ _ _ _ _ (s₁.setTop (mkF m 33 #[.val (.long q0), .second, .val (.int p1), .val (.int p2), .val (.int p3), .val (.int p4), .val (.int p5), .val (.int p6), .val (.int (p1 - p2))] [(.int (p1 - p2))]))
        refine own_by (fun _ k => XS.iconst X0.here hx rfl (hb hby own_d6_33) k) ?_
        show own_G _ _ _ _ _ _ _ (s₁.setTop (mkF m 34 #[.val (.long q0), .second, .val (.int p1), .val (.int p2), .val (.int p3), .val (.int p4), .val (.int p5), .val (.int p6), .val (.int (p1 - p2))] [(.int (1 : Int32)), (.int (p1 - p2))]))
        by_cases hc34 : (p1 - p2) = (1 : Int32)
        · refine own_by (fun _ k => XS.icmpNo X0.here hx rfl (hb hby own_d6_34) rfl (XT.ii_ne_f hc34) k) ?_
          show own_G _ _ _ _ _ _ _ (s₁.setTop (mkF m 37 #[.val (.long q0), .second, .val (.int p1), .val (.int p2), .val (.int p3), .val (.int p4), .val (.int p5), .val (.int p6), .val (.int (p1 - p2))] []))
          refine own_by (fun _ k => XS.iload X0.here hx rfl (hb hby own_d6_37) rfl  k) ?_
          show own_G _ _ _ _ _ _ _ (s₁.setTop (mkF m 39 #[.val (.long q0), .second, .val (.int p1), .val (.int p2), .val (.int p3), .val (.int p4), .val (.int p5), .val (.int p6), .val (.int (p1 - p2))] [(.int p5)]))
          exact own_end X0 (v := some (.int (nar .byte p5))) (fun h => by rw [Bd.returns] at h; cases h) (BodyLoose.notSynchronized Bd) (fun fs hr => retN X0 hx (t := .byte) Bd.returns (by simp) (hb hby own_d6_39) hr) (by rw [e0]; exact ⟨(by simp only [own_expd, if_neg hc7, if_pos hc14, if_neg hc25, if_pos hc34]; first | done | rfl), N0, rfl⟩) (by decide) (by decide)
        · refine own_by (fun _ k => XS.icmpYes X0.here hx rfl (pc0 := 34) (pc' := 40) rfl (hb hby own_d6_34) rfl (XT.ii_ne_t hc34) (by decide) (by decide) k) ?_
          show own_G _ _ _ _ _ _ _ (s₁.setTop (mkF m 40 #[.val (.long q0), .second, .val (.int p1), .val (.int p2), .val (.int p3), .val (.int p4), .val (.int p5), .val (.int p6), .val (.int (p1 - p2))] []))
          refine own_by (fun _ k => XS.iload X0.here hx rfl (hb hby own_d6_40) rfl  k) ?_
          show own_G _ _ _ _ _ _ _ (s₁.setTop (mkF m 42 #[.val (.long q0), .second, .val (.int p1), .val (.int p2), .val (.int p3), .val (.int p4), .val (.int p5), .val (.int p6), .val (.int (p1 - p2))] [(.int p6)]))
          exact own_end X0 (v := some (.int (nar .byte p6))) (fun h => by rw [Bd.returns] at h; cases h) (BodyLoose.notSynchronized Bd) (fun fs hr => retN X0 hx (t := .byte) Bd.returns (by simp) (hb hby own_d6_42) hr) (by rw [e0]; exact ⟨(by simp only [own_expd, if_neg hc7, if_pos hc14, if_neg hc25, if_neg hc34]; first | done | rfl), N0, rfl⟩) (by decide) (by decide)
    · refine own_by (fun _ k => XS.icmpNo X0.here hx rfl (hb hby own_d6_14) rfl (XT.ii_lt_f hc14) k) ?_
      show own_G _ _ _ _ _ _ _ (s₁.setTop (mkF m 17 #[.val (.long q0), .second, .val (.int p1), .val (.int p2), .val (.int p3), .val (.int p4), .val (.int p5), .val (.int p6), .val (.int (p1 - p2))] []))
      refine own_by (fun _ k => XT.lloadN X0.here hx rfl (hb hby own_d6_17) rfl  k) ?_
      show own_G _ _ _ _ _ _ _ (s₁.setTop (mkF m 18 #[.val (.long q0), .second, .val (.int p1), .val (.int p2), .val (.int p3), .val (.int p4), .val (.int p5), .val (.int p6), .val (.int (p1 - p2))] [(.long q0)]))
      refine own_by (fun _ k => XS.iloadN X0.here hx rfl (hb hby own_d6_18) rfl  k) ?_
      show own_G _ _ _ _ _ _ _ (s₁.setTop (mkF m 19 #[.val (.long q0), .second, .val (.int p1), .val (.int p2), .val (.int p3), .val (.int p4), .val (.int p5), .val (.int p6), .val (.int (p1 - p2))] [(.int p1), (.long q0)]))
      obtain ⟨_, _, ⟨T2, L2, k2, n2⟩, -, X2, ⟨Lc2, hQ2, l2, y2, z2⟩, st2⟩ := Jvm.LawKit.callS X0 hx (y := (⟨"com/example/keys_into_regions/keysintoregions/LiteralWritePinLaw", "fill", "(JI)B"⟩ : MethodName)) hown (mvT hZ (hw _ (List.mem_of_getElem? (i := 1) rfl))) (mvT hZ (hw _ (List.mem_of_getElem? (i := 2) rfl))) (mvT hZ (hw _ (List.mem_of_getElem? (i := 3) rfl))) (mvT hZ (hw _ (List.mem_of_getElem? (i := 4) rfl))) (by decide) (backOf (W := 0) (rm1 l Z aw hw [] q0 p1 h0 n0 Z0 ) hZ (hw _ (List.mem_of_getElem? (i := 4) rfl)) (hw _ (List.mem_of_getElem? (i := 3) rfl)) (by decide) (by decide)) (g := (mkF m 19 #[.val (.long q0), .second, .val (.int p1), .val (.int p2), .val (.int p3), .val (.int p4), .val (.int p5), .val (.int p6), .val (.int (p1 - p2))] [(.int p1), (.long q0)])) rfl (by rw [hml]; rfl) (argsL := [(.long q0), (.int p1)]) (rest := []) (lenOf own_pd0 rfl) rfl (by show 2 * 0 + _ ≤ _; exact Nat.le_of_eq rfl) (hb hby own_d6_19) (fun _ _ => ⟨rfl, e0, (by decide : 0 + 0 ≤ _), (by decide : 0 + 0 ≤ _)⟩)
      dsimp only [Pt.U, Pt.locs, Pt.cells, Pt.slots] at X2 l2 y2 z2 st2 hQ2
      subst l2 y2 z2
      obtain ⟨rfl, Nq2, e2⟩ := hQ2
      have N2 := Fr.app N0 Nq2
      refine own_by (fun _ k => st2 _ k) ?_
      show own_G _ _ _ _ _ _ _ (T2.setTop (mkF m 22 #[.val (.long q0), .second, .val (.int p1), .val (.int p2), .val (.int p3), .val (.int p4), .val (.int p5), .val (.int p6), .val (.int (p1 - p2))] [(.int (own_fill q0 p1))]))
      exact own_end X2 (v := some (.int (nar .byte (own_fill q0 p1)))) (fun h => by rw [Bd.returns] at h; cases h) (BodyLoose.notSynchronized Bd) (fun fs hr => retN X2 hx (t := .byte) Bd.returns (by simp) (hb hby own_d6_22) hr) (by rw [e2]; exact ⟨(by simp only [own_expd, if_neg hc7, if_neg hc14]; first | done | rfl), N2, rfl⟩) (by decide) (by decide)
theorem own_d3_0 : decode prog_11_method_1_code 0 = .ok (.aload_n 0, 1) := by decide +kernel
theorem own_d3_1 : decode prog_11_method_1_code 1 = .ok (.invokespecial 3, 3) := by decide +kernel
theorem own_d3_4 : decode prog_11_method_1_code 4 = .ok (.return_, 1) := by decide +kernel
theorem own_pn1 : plainName "com/example/keys_into_regions/keysintoregions/KeyPart" = true := by first | (simp [plainName, overriddenIn]; done) | decide +kernel
theorem own_ef3 (m : MethodId) (x0 : Addr) : entryFrame m #[(.ref x0)] 1 = mkF m 0 #[.val (.ref x0)] [] := by first | (simp [entryFrame, mkF, argsToLocals, Value.category]; done) | rfl
def own_Q3 (Z : State) (a0 : Addr) (h0 : Heap) (n0 : Nat) (v : Option Value) (h : Heap) (L : List Loc) : Prop := v = none ∧ Fr n0 L ∧ h = h0
set_option maxRecDepth 65536 in
set_option maxHeartbeats 40000000 in
theorem rm3 (l : Launch) (Z : State) (aw : Array Value) (hw : ∀ d ∈ tables_1, d.before aw Z = true) (ws : List Jvm.Cond) (a0 : Addr) (h0 : Heap) (n0 : Nat) (Z0 : n0 ≤ h0.size) :
    MetFree l (⟨"com/example/keys_into_regions/keysintoregions/KeyPart", "<init>", "()V"⟩ : MethodName) (head1 (Jvm.Cond.code (⟨"com/example/keys_into_regions/keysintoregions/KeyPart", "<init>", "()V"⟩ : MethodName) prog_11_method_1_code 1 none :: ws) ({ frames := 1, cells := 0, slots := 0, locals := 12 } : Room)) (fun a U => a = #[(.ref a0)] ∧ Z.Warmed39 U.vm ∧ U.heap = h0) (fun _ _ _ _ _ => True) (fun _ U o U' => ∃ v L, o = .returned v ∧ own_Q3 Z a0 h0 n0 v U'.heap L ∧ FrameEnd U o U' L ({ frames := 1, cells := 0, slots := 0, locals := 12 } : Room).cells ({ frames := 1, cells := 0, slots := 0, locals := 12 } : Room).slots) := by
  refine MetFree.of_bodySF (plainFor_of_name own_pn1) hisR ?_
  intro p e s m args below meth c s₁ Bd hml0 hP hK
  obtain ⟨rfl, hZ, hh⟩ := hP
  have hx := Bd.exec
  have hby := Bd.bytes
  have hml : c.maxLocals = 1 := hml0
  have hown : s.vm.findClass "com/example/keys_into_regions/keysintoregions/KeyPart" = some m.cls := findClass_of_methodNamed Bd.named
  have hnm := (name_of_methodNamed Bd.named Bd.method).1
  have X0 : Stand p l e ({ frames := 1, cells := 0, slots := 0, locals := 12 } : Room) s m #[(.ref a0)] below meth c s₁ [] 0 0 := Stand.of_body Bd
  have e0 : s₁.heap = h0 := by rw [← hh, Bd.state]; rfl
  have N0 := Fr.nil n0
  show own_G p.tables e below s (own_Q3 Z a0 h0 n0) ({ frames := 1, cells := 0, slots := 0, locals := 12 } : Room).cells ({ frames := 1, cells := 0, slots := 0, locals := 12 } : Room).slots (s₁.setTop (entryFrame m #[(.ref a0)] 1))
  refine own_by (fun _ k => castTop (own_ef3 m a0) k) ?_
  show own_G _ _ _ _ _ _ _ (s₁.setTop (mkF m 0 #[.val (.ref a0)] []))
  refine own_by (fun _ k => XS.aloadN X0.here hx rfl (hb hby own_d3_0) rfl rfl k) ?_
  show own_G _ _ _ _ _ _ _ (s₁.setTop (mkF m 1 #[.val (.ref a0)] [(.ref a0)]))
  obtain ⟨T3, X3, e3, st3⟩ := initO X0 hx hZ hown (hw _ (List.mem_of_getElem? (i := 16) rfl)) (hw _ (List.mem_of_getElem? (i := 17) rfl)) (hw _ (List.mem_of_getElem? (i := 18) rfl)) e0 (g := (mkF m 1 #[.val (.ref a0)] [(.ref a0)])) rfl (by rw [hml]; rfl) rfl (hb hby own_d3_1) (by decide) (W := 0) (by show 2 * 0 + _ ≤ _; exact Nat.le_of_eq rfl) (by decide)
  refine own_by st3 ?_
  show own_G _ _ _ _ _ _ _ (T3.setTop (mkF m 4 #[.val (.ref a0)] []))
  exact own_end X3 (v := none) (fun _ => rfl) (BodyLoose.notSynchronized Bd) (fun fs hr => X3.returnOut hx Bd.returns (hb hby own_d3_4) hr) (by rw [e3]; exact ⟨rfl, N0, rfl⟩) (by decide) (by decide)
theorem own_d2_0 : decode prog_15_method_1_code 0 = .ok (.aload_n 0, 1) := by decide +kernel
theorem own_d2_1 : decode prog_15_method_1_code 1 = .ok (.invokespecial 1, 3) := by decide +kernel
theorem own_pd1 : parseMethodDescriptor "()V" = some ⟨[], none⟩ := by decide +kernel
theorem own_d2_4 : decode prog_15_method_1_code 4 = .ok (.aload_n 0, 1) := by decide +kernel
theorem own_d2_5 : decode prog_15_method_1_code 5 = .ok (.aload_n 1, 1) := by decide +kernel
theorem own_d2_6 : decode prog_15_method_1_code 6 = .ok (.putfield 7, 3) := by decide +kernel
theorem own_d2_9 : decode prog_15_method_1_code 9 = .ok (.return_, 1) := by decide +kernel
theorem own_pn2 : plainName "com/example/keys_into_regions/keysintoregions/KeyPart$Literal" = true := by first | (simp [plainName, overriddenIn]; done) | decide +kernel
theorem own_ef4 (m : MethodId) (x0 : Addr) (x1 : Addr) : entryFrame m #[(.ref x0), (.ref x1)] 2 = mkF m 0 #[.val (.ref x0), .val (.ref x1)] [] := by first | (simp [entryFrame, mkF, argsToLocals, Value.category]; done) | rfl
def own_Q4 (Z : State) (a0 : Addr) (a1 : Addr) (h0 : Heap) (n0 : Nat) (v : Option Value) (h : Heap) (L : List Loc) : Prop := v = none ∧ Fr n0 L ∧ Keep h0 h [a0] ∧ Exa Z h a0 "com/example/keys_into_regions/keysintoregions/KeyPart$Literal" ∧ Fld Z h a0 "com/example/keys_into_regions/keysintoregions/KeyPart$Literal" "bytes" "[B" (.ref a1)
set_option maxRecDepth 65536 in
set_option maxHeartbeats 40000000 in
theorem rm4 (l : Launch) (Z : State) (aw : Array Value) (hw : ∀ d ∈ tables_1, d.before aw Z = true) (ws : List Jvm.Cond) (a0 : Addr) (a1 : Addr) (h0 : Heap) (n0 : Nat) (Z0 : n0 ≤ h0.size) (E_a : Exa Z h0 a0 "com/example/keys_into_regions/keysintoregions/KeyPart$Literal") (F_bytes : Fld Z h0 a0 "com/example/keys_into_regions/keysintoregions/KeyPart$Literal" "bytes" "[B" .null) (g_a : n0 ≤ a0) :
    MetFree l (⟨"com/example/keys_into_regions/keysintoregions/KeyPart$Literal", "<init>", "([B)V"⟩ : MethodName) (head1 (Jvm.Cond.code (⟨"com/example/keys_into_regions/keysintoregions/KeyPart$Literal", "<init>", "([B)V"⟩ : MethodName) prog_15_method_1_code 2 none :: ws) ({ frames := 2, cells := 0, slots := 0, locals := 24 } : Room)) (fun a U => a = #[(.ref a0), (.ref a1)] ∧ Z.Warmed39 U.vm ∧ U.heap = h0) (fun _ _ _ _ _ => True) (fun _ U o U' => ∃ v L, o = .returned v ∧ own_Q4 Z a0 a1 h0 n0 v U'.heap L ∧ FrameEnd U o U' L ({ frames := 2, cells := 0, slots := 0, locals := 24 } : Room).cells ({ frames := 2, cells := 0, slots := 0, locals := 24 } : Room).slots) := by
  refine MetFree.of_bodySF (plainFor_of_name own_pn2) hisR ?_
  intro p e s m args below meth c s₁ Bd hml0 hP hK
  obtain ⟨rfl, hZ, hh⟩ := hP
  have hx := Bd.exec
  have hby := Bd.bytes
  have hml : c.maxLocals = 2 := hml0
  have hown : s.vm.findClass "com/example/keys_into_regions/keysintoregions/KeyPart$Literal" = some m.cls := findClass_of_methodNamed Bd.named
  have hnm := (name_of_methodNamed Bd.named Bd.method).1
  have X0 : Stand p l e ({ frames := 2, cells := 0, slots := 0, locals := 24 } : Room) s m #[(.ref a0), (.ref a1)] below meth c s₁ [] 0 0 := Stand.of_body Bd
  have e0 : s₁.heap = h0 := by rw [← hh, Bd.state]; rfl
  have N0 := Fr.nil n0
  show own_G p.tables e below s (own_Q4 Z a0 a1 h0 n0) ({ frames := 2, cells := 0, slots := 0, locals := 24 } : Room).cells ({ frames := 2, cells := 0, slots := 0, locals := 24 } : Room).slots (s₁.setTop (entryFrame m #[(.ref a0), (.ref a1)] 2))
  refine own_by (fun _ k => castTop (own_ef4 m a0 a1) k) ?_
  show own_G _ _ _ _ _ _ _ (s₁.setTop (mkF m 0 #[.val (.ref a0), .val (.ref a1)] []))
  refine own_by (fun _ k => XS.aloadN X0.here hx rfl (hb hby own_d2_0) rfl rfl k) ?_
  show own_G _ _ _ _ _ _ _ (s₁.setTop (mkF m 1 #[.val (.ref a0), .val (.ref a1)] [(.ref a0)]))
  obtain ⟨_, _, ⟨T4, L4, k4, n4⟩, -, X4, ⟨Lc4, hQ4, l4, y4, z4⟩, st4⟩ := X0.specialBack hx (y := (⟨"com/example/keys_into_regions/keysintoregions/KeyPart", "<init>", "()V"⟩ : MethodName)) rfl hown (mvT hZ (hw _ (List.mem_of_getElem? (i := 11) rfl))) (mvT hZ (hw _ (List.mem_of_getElem? (i := 12) rfl))) (mvT hZ (hw _ (List.mem_of_getElem? (i := 15) rfl))) (by decide) (backOf (W := 0) (rm3 l Z aw hw [] a0 h0 n0 Z0 ) hZ (hw _ (List.mem_of_getElem? (i := 15) rfl)) (hw _ (List.mem_of_getElem? (i := 14) rfl)) (by decide) (by decide)) (g := (mkF m 1 #[.val (.ref a0), .val (.ref a1)] [(.ref a0)])) rfl (by rw [hml]; rfl) (Steps.refl _) (a := a0) (argsL := []) (rest := []) (lenOf own_pd1 rfl) rfl (by show 2 * 0 + _ ≤ _; exact Nat.le_of_eq rfl) (hb hby own_d2_1) (fun _ _ => ⟨rfl, e0, (by decide : 0 + 0 ≤ _), (by decide : 0 + 0 ≤ _)⟩)
  dsimp only [Pt.U, Pt.locs, Pt.cells, Pt.slots] at X4 l4 y4 z4 st4 hQ4
  subst l4 y4 z4
  obtain ⟨rfl, Nq4, e4⟩ := hQ4
  have N4 := Fr.app N0 Nq4
  refine own_by (fun _ k => st4.trans k) ?_
  show own_G _ _ _ _ _ _ _ (T4.setTop (mkF m 4 #[.val (.ref a0), .val (.ref a1)] []))
  refine own_by (fun _ k => XS.aloadN X4.here hx rfl (hb hby own_d2_4) rfl rfl k) ?_
  show own_G _ _ _ _ _ _ _ (T4.setTop (mkF m 5 #[.val (.ref a0), .val (.ref a1)] [(.ref a0)]))
  refine own_by (fun _ k => XS.aloadN X4.here hx rfl (hb hby own_d2_5) rfl rfl k) ?_
  show own_G _ _ _ _ _ _ _ (T4.setTop (mkF m 6 #[.val (.ref a0), .val (.ref a1)] [(.ref a1), (.ref a0)]))
  obtain ⟨T5, h5, X5, e5, W5, st5⟩ := putF X4 hx hZ hown (host := "") (Or.inl (hw _ (List.mem_of_getElem? (i := 19) rfl))) Via.refl e4 F_bytes E_a (Or.inr ⟨(hw _ (List.mem_of_getElem? (i := 20) rfl)), rfl, hnm⟩) (hw _ (List.mem_of_getElem? (i := 6) rfl)) (ty := (.array .byte)) (by decide) rfl rfl (g := (mkF m 6 #[.val (.ref a0), .val (.ref a1)] [(.ref a1), (.ref a0)])) rfl rfl (hb hby own_d2_6)
  refine own_by st5 ?_
  have F6_0 := E_a.wr W5
  have F6_1 := F_bytes.same W5
  have N5 := Fr.snoc X5 N4 g_a
  have Z7 : n0 ≤ h5.size := Nat.le_trans Z0 (Nat.le_of_eq W5.size.symm)
  have K5 := (Keep.refl h0 [a0]).wr W5 (Or.inl (List.mem_of_getElem? (i := 0) rfl))
  show own_G _ _ _ _ _ _ _ (T5.setTop (mkF m 9 #[.val (.ref a0), .val (.ref a1)] []))
  exact own_end X5 (v := none) (fun _ => rfl) (BodyLoose.notSynchronized Bd) (fun fs hr => X5.returnOut hx Bd.returns (hb hby own_d2_9) hr) (by rw [e5]; exact ⟨rfl, N5, K5, F6_0, F6_1⟩) (by decide) (by decide)
theorem own_d5_0 : decode prog_15_method_3_code 0 = .ok (.aload_n 0, 1) := by decide +kernel
theorem own_d5_1 : decode prog_15_method_3_code 1 = .ok (.getfield 7, 3) := by decide +kernel
theorem own_d5_4 : decode prog_15_method_3_code 4 = .ok (.iconst 0, 1) := by decide +kernel
theorem own_d5_5 : decode prog_15_method_3_code 5 = .ok (.aload_n 2, 1) := by decide +kernel
theorem own_d5_6 : decode prog_15_method_3_code 6 = .ok (.iload_n 3, 1) := by decide +kernel
theorem own_d5_7 : decode prog_15_method_3_code 7 = .ok (.aload_n 0, 1) := by decide +kernel
theorem own_d5_8 : decode prog_15_method_3_code 8 = .ok (.getfield 7, 3) := by decide +kernel
theorem own_d5_11 : decode prog_15_method_3_code 11 = .ok (.arraylength, 1) := by decide +kernel
theorem own_d5_12 : decode prog_15_method_3_code 12 = .ok (.invokestatic 13, 3) := by decide +kernel
theorem own_d5_15 : decode prog_15_method_3_code 15 = .ok (.iload_n 3, 1) := by decide +kernel
theorem own_d5_16 : decode prog_15_method_3_code 16 = .ok (.aload_n 0, 1) := by decide +kernel
theorem own_d5_17 : decode prog_15_method_3_code 17 = .ok (.getfield 7, 3) := by decide +kernel
theorem own_d5_20 : decode prog_15_method_3_code 20 = .ok (.arraylength, 1) := by decide +kernel
theorem own_d5_21 : decode prog_15_method_3_code 21 = .ok (.iadd, 1) := by decide +kernel
theorem own_d5_22 : decode prog_15_method_3_code 22 = .ok (.ireturn, 1) := by decide +kernel
theorem own_ef5 (m : MethodId) (x0 : Addr) (x2 : Addr) (x3 : Int32) : entryFrame m #[(.ref x0), .null, (.ref x2), (.int x3)] 4 = mkF m 0 #[.val (.ref x0), .val .null, .val (.ref x2), .val (.int x3)] [] := by first | (simp [entryFrame, mkF, argsToLocals, Value.category]; done) | rfl
def own_Q5 (Z : State) (a0 : Addr) (a2 : Addr) (p3 : Int32) (la : Addr) (zn : Int32) (N : Nat) (D : Nat) (FA : Nat → Int32) (FB : Nat → Int32) (h0 : Heap) (n0 : Nat) (v : Option Value) (h : Heap) (L : List Loc) : Prop := v = some (.int (p3 + zn)) ∧ Fr n0 L ∧ Keep h0 h [a2] ∧ own_AB Z h a2 6 (own_mix FA FB D N)
set_option maxRecDepth 65536 in
set_option maxHeartbeats 40000000 in
theorem rm5 (l : Launch) (Z : State) (aw : Array Value) (hw : ∀ d ∈ tables_1, d.before aw Z = true) (ws : List Jvm.Cond) (a0 : Addr) (a2 : Addr) (p3 : Int32) (la : Addr) (zn : Int32) (N : Nat) (D : Nat) (FA : Nat → Int32) (FB : Nat → Int32) (h0 : Heap) (n0 : Nat) (Z0 : n0 ≤ h0.size) (Fb : Fld Z h0 a0 "com/example/keys_into_regions/keysintoregions/KeyPart$Literal" "bytes" "[B" (.ref la)) (VA : own_AB Z h0 la N FA) (VB : own_AB Z h0 a2 6 FB) (g_a2 : n0 ≤ a2) (ne_a : a0 ≠ a2) (ne_l : la ≠ a2) (hz : zn.toInt = N) (hD : p3.toInt = D) (hle : D + N ≤ 6) (fA : ∀ k, k < N → fits .byte (.int (FA k)) = true) (fB : ∀ k, k < 6 → fits .byte (.int (FB k)) = true) :
    MetFree l (⟨"com/example/keys_into_regions/keysintoregions/KeyPart$Literal", "write", "(Lcom/example/keys_into_regions/keysintoregions/RecordFields;[BI)I"⟩ : MethodName) (head1 (Jvm.Cond.code (⟨"com/example/keys_into_regions/keysintoregions/KeyPart$Literal", "write", "(Lcom/example/keys_into_regions/keysintoregions/RecordFields;[BI)I"⟩ : MethodName) prog_15_method_3_code 4 (some .int) :: ws) ({ frames := 1, cells := 0, slots := 0, locals := 18 } : Room)) (fun a U => a = #[(.ref a0), .null, (.ref a2), (.int p3)] ∧ Z.Warmed39 U.vm ∧ U.heap = h0) (fun _ _ _ _ _ => True) (fun _ U o U' => ∃ v L, o = .returned v ∧ own_Q5 Z a0 a2 p3 la zn N D FA FB h0 n0 v U'.heap L ∧ FrameEnd U o U' L ({ frames := 1, cells := 0, slots := 0, locals := 18 } : Room).cells ({ frames := 1, cells := 0, slots := 0, locals := 18 } : Room).slots) := by
  refine MetFree.of_bodySF (plainFor_of_name own_pn2) hisR ?_
  intro p e s m args below meth c s₁ Bd hml0 hP hK
  obtain ⟨rfl, hZ, hh⟩ := hP
  have hx := Bd.exec
  have hby := Bd.bytes
  have hml : c.maxLocals = 4 := hml0
  have hown : s.vm.findClass "com/example/keys_into_regions/keysintoregions/KeyPart$Literal" = some m.cls := findClass_of_methodNamed Bd.named
  have hnm := (name_of_methodNamed Bd.named Bd.method).1
  have X0 : Stand p l e ({ frames := 1, cells := 0, slots := 0, locals := 18 } : Room) s m #[(.ref a0), .null, (.ref a2), (.int p3)] below meth c s₁ [] 0 0 := Stand.of_body Bd
  have e0 : s₁.heap = h0 := by rw [← hh, Bd.state]; rfl
  have N0 := Fr.nil n0
  show own_G p.tables e below s (own_Q5 Z a0 a2 p3 la zn N D FA FB h0 n0) ({ frames := 1, cells := 0, slots := 0, locals := 18 } : Room).cells ({ frames := 1, cells := 0, slots := 0, locals := 18 } : Room).slots (s₁.setTop (entryFrame m #[(.ref a0), .null, (.ref a2), (.int p3)] 4))
  refine own_by (fun _ k => castTop (own_ef5 m a0 a2 p3) k) ?_
  show own_G _ _ _ _ _ _ _ (s₁.setTop (mkF m 0 #[.val (.ref a0), .val .null, .val (.ref a2), .val (.int p3)] []))
  refine own_by (fun _ k => XS.aloadN X0.here hx rfl (hb hby own_d5_0) rfl rfl k) ?_
  show own_G _ _ _ _ _ _ _ (s₁.setTop (mkF m 1 #[.val (.ref a0), .val .null, .val (.ref a2), .val (.int p3)] [(.ref a0)]))
  obtain ⟨T8, X8, e8, st8⟩ := getF X0 hx hZ hown (host := "") (Or.inl (hw _ (List.mem_of_getElem? (i := 19) rfl))) Via.refl e0 Fb (g := (mkF m 1 #[.val (.ref a0), .val .null, .val (.ref a2), .val (.int p3)] [(.ref a0)])) rfl rfl (hb hby own_d5_1)
  refine own_by st8 ?_
  show own_G _ _ _ _ _ _ _ (T8.setTop (mkF m 4 #[.val (.ref a0), .val .null, .val (.ref a2), .val (.int p3)] [(.ref la)]))
  refine own_by (fun _ k => XS.iconst X8.here hx rfl (hb hby own_d5_4) k) ?_
  show own_G _ _ _ _ _ _ _ (T8.setTop (mkF m 5 #[.val (.ref a0), .val .null, .val (.ref a2), .val (.int p3)] [(.int (0 : Int32)), (.ref la)]))
  refine own_by (fun _ k => XS.aloadN X8.here hx rfl (hb hby own_d5_5) rfl rfl k) ?_
  show own_G _ _ _ _ _ _ _ (T8.setTop (mkF m 6 #[.val (.ref a0), .val .null, .val (.ref a2), .val (.int p3)] [(.ref a2), (.int (0 : Int32)), (.ref la)]))
  refine own_by (fun _ k => XS.iloadN X8.here hx rfl (hb hby own_d5_6) rfl  k) ?_
  show own_G _ _ _ _ _ _ _ (T8.setTop (mkF m 7 #[.val (.ref a0), .val .null, .val (.ref a2), .val (.int p3)] [(.int p3), (.ref a2), (.int (0 : Int32)), (.ref la)]))
  refine own_by (fun _ k => XS.aloadN X8.here hx rfl (hb hby own_d5_7) rfl rfl k) ?_
  show own_G _ _ _ _ _ _ _ (T8.setTop (mkF m 8 #[.val (.ref a0), .val .null, .val (.ref a2), .val (.int p3)] [(.ref a0), (.int p3), (.ref a2), (.int (0 : Int32)), (.ref la)]))
  obtain ⟨T9, X9, e9, st9⟩ := getF X8 hx hZ hown (host := "") (Or.inl (hw _ (List.mem_of_getElem? (i := 19) rfl))) Via.refl e8 Fb (g := (mkF m 8 #[.val (.ref a0), .val .null, .val (.ref a2), .val (.int p3)] [(.ref a0), (.int p3), (.ref a2), (.int (0 : Int32)), (.ref la)])) rfl rfl (hb hby own_d5_8)
  refine own_by st9 ?_
  show own_G _ _ _ _ _ _ _ (T9.setTop (mkF m 11 #[.val (.ref a0), .val .null, .val (.ref a2), .val (.int p3)] [(.ref la), (.int p3), (.ref a2), (.int (0 : Int32)), (.ref la)]))
  refine own_by (own_len X9 hx hZ e9 VA (z := zn) hz (g := (mkF m 11 #[.val (.ref a0), .val .null, .val (.ref a2), .val (.int p3)] [(.ref la), (.int p3), (.ref a2), (.int (0 : Int32)), (.ref la)])) rfl rfl (hb hby own_d5_11)) ?_
  show own_G _ _ _ _ _ _ _ (T9.setTop (mkF m 12 #[.val (.ref a0), .val .null, .val (.ref a2), .val (.int p3)] [(.int zn), (.int p3), (.ref a2), (.int (0 : Int32)), (.ref la)]))
  obtain ⟨T10, h10, L10, X10, e10, N10, K10, V10, st10⟩ := own_cpB X9 hx hZ hown (hw _ (List.mem_of_getElem? (i := 26) rfl)) (hw _ (List.mem_of_getElem? (i := 29) rfl)) (hw _ (List.mem_of_getElem? (i := 27) rfl)) (hw _ (List.mem_of_getElem? (i := 28) rfl)) e9 VA VB fA fB hz (show (6 : Int32).toInt = (6 : Nat) by decide) hD hle N0 g_a2 (g := (mkF m 12 #[.val (.ref a0), .val .null, .val (.ref a2), .val (.int p3)] [(.int zn), (.int p3), (.ref a2), (.int (0 : Int32)), (.ref la)])) rfl (by rw [hml]; rfl) rfl (hb hby own_d5_12) (by decide) (W := 0) (by show 2 * 0 + _ ≤ _; exact Nat.le_of_eq rfl) (by decide)
  refine own_by st10 ?_
  have F11_0 := Fb.keep K10 (ninS ne_a nin0)
  have F11_1 := VA.keep K10 (ninS ne_l nin0)
  have Z12 : n0 ≤ h10.size := Nat.le_trans Z0 K10.1
  have Kt10 := (Keep.refl h0 [a2]).trans K10 (allS (Or.inl (List.mem_of_getElem? (i := 0) rfl)) all0)
  show own_G _ _ _ _ _ _ _ (T10.setTop (mkF m 15 #[.val (.ref a0), .val .null, .val (.ref a2), .val (.int p3)] []))
  refine own_by (fun _ k => XS.iloadN X10.here hx rfl (hb hby own_d5_15) rfl  k) ?_
  show own_G _ _ _ _ _ _ _ (T10.setTop (mkF m 16 #[.val (.ref a0), .val .null, .val (.ref a2), .val (.int p3)] [(.int p3)]))
  refine own_by (fun _ k => XS.aloadN X10.here hx rfl (hb hby own_d5_16) rfl rfl k) ?_
  show own_G _ _ _ _ _ _ _ (T10.setTop (mkF m 17 #[.val (.ref a0), .val .null, .val (.ref a2), .val (.int p3)] [(.ref a0), (.int p3)]))
  obtain ⟨T13, X13, e13, st13⟩ := getF X10 hx hZ hown (host := "") (Or.inl (hw _ (List.mem_of_getElem? (i := 19) rfl))) Via.refl e10 F11_0 (g := (mkF m 17 #[.val (.ref a0), .val .null, .val (.ref a2), .val (.int p3)] [(.ref a0), (.int p3)])) rfl rfl (hb hby own_d5_17)
  refine own_by st13 ?_
  show own_G _ _ _ _ _ _ _ (T13.setTop (mkF m 20 #[.val (.ref a0), .val .null, .val (.ref a2), .val (.int p3)] [(.ref la), (.int p3)]))
  refine own_by (own_len X13 hx hZ e13 F11_1 (z := zn) hz (g := (mkF m 20 #[.val (.ref a0), .val .null, .val (.ref a2), .val (.int p3)] [(.ref la), (.int p3)])) rfl rfl (hb hby own_d5_20)) ?_
  show own_G _ _ _ _ _ _ _ (T13.setTop (mkF m 21 #[.val (.ref a0), .val .null, .val (.ref a2), .val (.int p3)] [(.int zn), (.int p3)]))
  refine own_by (fun _ k => XS.iadd X13.here hx rfl (hb hby own_d5_21) rfl k) ?_
  show own_G _ _ _ _ _ _ _ (T13.setTop (mkF m 22 #[.val (.ref a0), .val .null, .val (.ref a2), .val (.int p3)] [(.int (p3 + zn))]))
  exact own_end X13 (v := some (.int (p3 + zn))) (fun h => by rw [Bd.returns] at h; cases h) (BodyLoose.notSynchronized Bd) (fun fs hr => retI X13 hx Bd.returns (hb hby own_d5_22) hr) (by rw [e13]; exact ⟨rfl, N10, Kt10, V10⟩) (by decide) (by decide)
theorem own_pd2 : parseMethodDescriptor "(JIIIBBB)B" = some ⟨[.long, .int, .int, .int, .byte, .byte, .byte], some .byte⟩ := by decide +kernel
theorem own_pd3 : parseMethodDescriptor "([B)V" = some ⟨[(.array .byte)], none⟩ := by decide +kernel
theorem own_pd4 : parseMethodDescriptor "(Lcom/example/keys_into_regions/keysintoregions/RecordFields;[BI)I" = some ⟨[(.object "com/example/keys_into_regions/keysintoregions/RecordFields"), (.array .byte), .int], some .int⟩ := by decide +kernel
theorem own_ef0 (m : MethodId) (x0 : Int32) (x1 : Int64) (x2 : Int32) : entryFrame m #[(.int x0), (.long x1), (.int x2)] maxLocals = mkF m 0 #[.val (.int x0), .val (.long x1), .second, .val (.int x2), .unset, .unset, .unset, .unset, .unset, .unset, .unset, .unset, .unset] [] := by first | (simp [entryFrame, mkF, argsToLocals, Value.category, maxLocals]; done) | rfl
def own_Q0 (Z : State) (p0 : Int32) (q1 : Int64) (p2 : Int32) (h0 : Heap) (n0 : Nat) (v : Option Value) (h : Heap) (L : List Loc) : Prop := v = some (.int 1) ∧ Fr n0 L
set_option maxRecDepth 65536 in
set_option maxHeartbeats 40000000 in
theorem rm0 (l : Launch) (Z : State) (aw : Array Value) (hw : ∀ d ∈ tables_1, d.before aw Z = true) (ws : List Jvm.Cond) (p0 : Int32) (q1 : Int64) (p2 : Int32) (h0 : Heap) (n0 : Nat) (Z0 : n0 ≤ h0.size) :
    MetFree l x (head1 (Jvm.Cond.code x code maxLocals ret :: ws) room_1) (fun a U => a = #[(.int p0), (.long q1), (.int p2)] ∧ Z.Warmed39 U.vm ∧ U.heap = h0) (fun _ _ _ _ _ => True) (fun _ U o U' => ∃ v L, o = .returned v ∧ own_Q0 Z p0 q1 p2 h0 n0 v U'.heap L ∧ FrameEnd U o U' L room_1.cells room_1.slots) := by
  refine MetFree.of_bodySF (plainFor_of_name own_pn0) hisR ?_
  intro p e s m args below meth c s₁ Bd hml0 hP hK
  obtain ⟨rfl, hZ, hh⟩ := hP
  have hx := Bd.exec
  have hby := Bd.bytes
  have hml : c.maxLocals = 13 := hml0
  have hown : s.vm.findClass "com/example/keys_into_regions/keysintoregions/LiteralWritePinLaw" = some m.cls := findClass_of_methodNamed Bd.named
  have hnm := (name_of_methodNamed Bd.named Bd.method).1
  have X0 : Stand p l e room_1 s m #[(.int p0), (.long q1), (.int p2)] below meth c s₁ [] 0 0 := Stand.of_body Bd
  have e0 : s₁.heap = h0 := by rw [← hh, Bd.state]; rfl
  have N0 := Fr.nil n0
  show own_G p.tables e below s (own_Q0 Z p0 q1 p2 h0 n0) room_1.cells room_1.slots (s₁.setTop (entryFrame m #[(.int p0), (.long q1), (.int p2)] maxLocals))
  refine own_by (fun _ k => castTop (own_ef0 m p0 q1 p2) k) ?_
  show own_G _ _ _ _ _ _ _ (s₁.setTop (mkF m 0 #[.val (.int p0), .val (.long q1), .second, .val (.int p2), .unset, .unset, .unset, .unset, .unset, .unset, .unset, .unset, .unset] []))
  refine own_by (fun _ k => XS.iloadN X0.here hx rfl (hb hby at_0) rfl  k) ?_
  show own_G _ _ _ _ _ _ _ (s₁.setTop (mkF m 1 #[.val (.int p0), .val (.long q1), .second, .val (.int p2), .unset, .unset, .unset, .unset, .unset, .unset, .unset, .unset, .unset] [(.int p2)]))
  refine own_by (fun _ k => XS.iconst X0.here hx rfl (hb hby at_1) k) ?_
  show own_G _ _ _ _ _ _ _ (s₁.setTop (mkF m 2 #[.val (.int p0), .val (.long q1), .second, .val (.int p2), .unset, .unset, .unset, .unset, .unset, .unset, .unset, .unset, .unset] [(.int (3 : Int32)), (.int p2)]))
  refine own_by (fun _ k => XS.iand X0.here hx rfl (hb hby at_2) rfl k) ?_
  show own_G _ _ _ _ _ _ _ (s₁.setTop (mkF m 3 #[.val (.int p0), .val (.long q1), .second, .val (.int p2), .unset, .unset, .unset, .unset, .unset, .unset, .unset, .unset, .unset] [(.int (p2 &&& (3 : Int32)))]))
  refine own_by (fun _ k => XS.istore X0.here hx rfl (hb hby at_3) rfl (l' := #[.val (.int p0), .val (.long q1), .second, .val (.int p2), .val (.int (p2 &&& (3 : Int32))), .unset, .unset, .unset, .unset, .unset, .unset, .unset, .unset]) rfl k) ?_
  show own_G _ _ _ _ _ _ _ (s₁.setTop (mkF m 5 #[.val (.int p0), .val (.long q1), .second, .val (.int p2), .val (.int (p2 &&& (3 : Int32))), .unset, .unset, .unset, .unset, .unset, .unset, .unset, .unset] []))
  generalize hnnn : (p2 &&& (3 : Int32)) = nn
  show own_G _ _ _ _ _ _ _ (s₁.setTop (mkF m 5 #[.val (.int p0), .val (.long q1), .second, .val (.int p2), .val (.int nn), .unset, .unset, .unset, .unset, .unset, .unset, .unset, .unset] []))
  obtain ⟨N, hN, hN4⟩ : ∃ N : Nat, nn.toInt = N ∧ N < 4 := by rw [← hnnn]; exact own_n3 _
  refine own_by (fun _ k => XS.iloadN X0.here hx rfl (hb hby at_5) rfl  k) ?_
  show own_G _ _ _ _ _ _ _ (s₁.setTop (mkF m 6 #[.val (.int p0), .val (.long q1), .second, .val (.int p2), .val (.int nn), .unset, .unset, .unset, .unset, .unset, .unset, .unset, .unset] [(.int p2)]))
  refine own_by (fun _ k => XS.iconst X0.here hx rfl (hb hby at_6) k) ?_
  show own_G _ _ _ _ _ _ _ (s₁.setTop (mkF m 7 #[.val (.int p0), .val (.long q1), .second, .val (.int p2), .val (.int nn), .unset, .unset, .unset, .unset, .unset, .unset, .unset, .unset] [(.int (2 : Int32)), (.int p2)]))
  refine own_by (fun _ k => XT.iushr X0.here hx rfl (hb hby at_7) rfl k) ?_
  show own_G _ _ _ _ _ _ _ (s₁.setTop (mkF m 8 #[.val (.int p0), .val (.long q1), .second, .val (.int p2), .val (.int nn), .unset, .unset, .unset, .unset, .unset, .unset, .unset, .unset] [(.int (XT.ushr p2 (2 : Int32)))]))
  refine own_by (fun _ k => XS.bipush X0.here hx rfl (hb hby at_8) k) ?_
  show own_G _ _ _ _ _ _ _ (s₁.setTop (mkF m 10 #[.val (.int p0), .val (.long q1), .second, .val (.int p2), .val (.int nn), .unset, .unset, .unset, .unset, .unset, .unset, .unset, .unset] [(.int (7 : Int32)), (.int (XT.ushr p2 (2 : Int32)))]))
  refine own_by (fun _ k => XS.iload X0.here hx rfl (hb hby at_10) rfl  k) ?_
  show own_G _ _ _ _ _ _ _ (s₁.setTop (mkF m 12 #[.val (.int p0), .val (.long q1), .second, .val (.int p2), .val (.int nn), .unset, .unset, .unset, .unset, .unset, .unset, .unset, .unset] [(.int nn), (.int (7 : Int32)), (.int (XT.ushr p2 (2 : Int32)))]))
  refine own_by (fun _ k => XS.isub X0.here hx rfl (hb hby at_12) rfl k) ?_
  show own_G _ _ _ _ _ _ _ (s₁.setTop (mkF m 13 #[.val (.int p0), .val (.long q1), .second, .val (.int p2), .val (.int nn), .unset, .unset, .unset, .unset, .unset, .unset, .unset, .unset] [(.int ((7 : Int32) - nn)), (.int (XT.ushr p2 (2 : Int32)))]))
  refine own_by (fun _ k => iremM (g := (mkF m 13 #[.val (.int p0), .val (.long q1), .second, .val (.int p2), .val (.int nn), .unset, .unset, .unset, .unset, .unset, .unset, .unset, .unset] [(.int ((7 : Int32) - nn)), (.int (XT.ushr p2 (2 : Int32)))])) X0 hx rfl (hb hby at_13) rfl (own_7z hN hN4) k) ?_
  show own_G _ _ _ _ _ _ _ (s₁.setTop (mkF m 14 #[.val (.int p0), .val (.long q1), .second, .val (.int p2), .val (.int nn), .unset, .unset, .unset, .unset, .unset, .unset, .unset, .unset] [(.int ((XT.ushr p2 (2 : Int32)) % ((7 : Int32) - nn)))]))
  refine own_by (fun _ k => XS.istore X0.here hx rfl (hb hby at_14) rfl (l' := #[.val (.int p0), .val (.long q1), .second, .val (.int p2), .val (.int nn), .val (.int ((XT.ushr p2 (2 : Int32)) % ((7 : Int32) - nn))), .unset, .unset, .unset, .unset, .unset, .unset, .unset]) rfl k) ?_
  show own_G _ _ _ _ _ _ _ (s₁.setTop (mkF m 16 #[.val (.int p0), .val (.long q1), .second, .val (.int p2), .val (.int nn), .val (.int ((XT.ushr p2 (2 : Int32)) % ((7 : Int32) - nn))), .unset, .unset, .unset, .unset, .unset, .unset, .unset] []))
  generalize hnaa : ((XT.ushr p2 (2 : Int32)) % ((7 : Int32) - nn)) = aa
  show own_G _ _ _ _ _ _ _ (s₁.setTop (mkF m 16 #[.val (.int p0), .val (.long q1), .second, .val (.int p2), .val (.int nn), .val (.int aa), .unset, .unset, .unset, .unset, .unset, .unset, .unset] []))
  obtain ⟨D, hD, hle⟩ : ∃ D : Nat, aa.toInt = D ∧ D + N ≤ 6 := by rw [← hnaa]; exact own_at hN hN4
  refine own_by (fun _ k => XS.iloadN X0.here hx rfl (hb hby at_16) rfl  k) ?_
  show own_G _ _ _ _ _ _ _ (s₁.setTop (mkF m 17 #[.val (.int p0), .val (.long q1), .second, .val (.int p2), .val (.int nn), .val (.int aa), .unset, .unset, .unset, .unset, .unset, .unset, .unset] [(.int p0)]))
  refine own_by (fun _ k => XT.i2b X0.here hx rfl (hb hby at_17) rfl k) ?_
  show own_G _ _ _ _ _ _ _ (s₁.setTop (mkF m 18 #[.val (.int p0), .val (.long q1), .second, .val (.int p2), .val (.int nn), .val (.int aa), .unset, .unset, .unset, .unset, .unset, .unset, .unset] [(.int p0.toInt8.toInt32)]))
  refine own_by (fun _ k => XS.istore X0.here hx rfl (hb hby at_18) rfl (l' := #[.val (.int p0), .val (.long q1), .second, .val (.int p2), .val (.int nn), .val (.int aa), .val (.int p0.toInt8.toInt32), .unset, .unset, .unset, .unset, .unset, .unset]) rfl k) ?_
  show own_G _ _ _ _ _ _ _ (s₁.setTop (mkF m 20 #[.val (.int p0), .val (.long q1), .second, .val (.int p2), .val (.int nn), .val (.int aa), .val (.int p0.toInt8.toInt32), .unset, .unset, .unset, .unset, .unset, .unset] []))
  generalize hnb0 : p0.toInt8.toInt32 = b0
  show own_G _ _ _ _ _ _ _ (s₁.setTop (mkF m 20 #[.val (.int p0), .val (.long q1), .second, .val (.int p2), .val (.int nn), .val (.int aa), .val (.int b0), .unset, .unset, .unset, .unset, .unset, .unset] []))
  refine own_by (fun _ k => XS.iloadN X0.here hx rfl (hb hby at_20) rfl  k) ?_
  show own_G _ _ _ _ _ _ _ (s₁.setTop (mkF m 21 #[.val (.int p0), .val (.long q1), .second, .val (.int p2), .val (.int nn), .val (.int aa), .val (.int b0), .unset, .unset, .unset, .unset, .unset, .unset] [(.int p0)]))
  refine own_by (fun _ k => XS.bipush X0.here hx rfl (hb hby at_21) k) ?_
  show own_G _ _ _ _ _ _ _ (s₁.setTop (mkF m 23 #[.val (.int p0), .val (.long q1), .second, .val (.int p2), .val (.int nn), .val (.int aa), .val (.int b0), .unset, .unset, .unset, .unset, .unset, .unset] [(.int (8 : Int32)), (.int p0)]))
  refine own_by (fun _ k => XT.ishr X0.here hx rfl (hb hby at_23) rfl k) ?_
  show own_G _ _ _ _ _ _ _ (s₁.setTop (mkF m 24 #[.val (.int p0), .val (.long q1), .second, .val (.int p2), .val (.int nn), .val (.int aa), .val (.int b0), .unset, .unset, .unset, .unset, .unset, .unset] [(.int (p0 >>> ((8 : Int32) &&& 31)))]))
  refine own_by (fun _ k => XT.i2b X0.here hx rfl (hb hby at_24) rfl k) ?_
  show own_G _ _ _ _ _ _ _ (s₁.setTop (mkF m 25 #[.val (.int p0), .val (.long q1), .second, .val (.int p2), .val (.int nn), .val (.int aa), .val (.int b0), .unset, .unset, .unset, .unset, .unset, .unset] [(.int (p0 >>> ((8 : Int32) &&& 31)).toInt8.toInt32)]))
  refine own_by (fun _ k => XS.istore X0.here hx rfl (hb hby at_25) rfl (l' := #[.val (.int p0), .val (.long q1), .second, .val (.int p2), .val (.int nn), .val (.int aa), .val (.int b0), .val (.int (p0 >>> ((8 : Int32) &&& 31)).toInt8.toInt32), .unset, .unset, .unset, .unset, .unset]) rfl k) ?_
  show own_G _ _ _ _ _ _ _ (s₁.setTop (mkF m 27 #[.val (.int p0), .val (.long q1), .second, .val (.int p2), .val (.int nn), .val (.int aa), .val (.int b0), .val (.int (p0 >>> ((8 : Int32) &&& 31)).toInt8.toInt32), .unset, .unset, .unset, .unset, .unset] []))
  generalize hnb1 : (p0 >>> ((8 : Int32) &&& 31)).toInt8.toInt32 = b1
  show own_G _ _ _ _ _ _ _ (s₁.setTop (mkF m 27 #[.val (.int p0), .val (.long q1), .second, .val (.int p2), .val (.int nn), .val (.int aa), .val (.int b0), .val (.int b1), .unset, .unset, .unset, .unset, .unset] []))
  refine own_by (fun _ k => XS.iloadN X0.here hx rfl (hb hby at_27) rfl  k) ?_
  show own_G _ _ _ _ _ _ _ (s₁.setTop (mkF m 28 #[.val (.int p0), .val (.long q1), .second, .val (.int p2), .val (.int nn), .val (.int aa), .val (.int b0), .val (.int b1), .unset, .unset, .unset, .unset, .unset] [(.int p0)]))
  refine own_by (fun _ k => XS.bipush X0.here hx rfl (hb hby at_28) k) ?_
  show own_G _ _ _ _ _ _ _ (s₁.setTop (mkF m 30 #[.val (.int p0), .val (.long q1), .second, .val (.int p2), .val (.int nn), .val (.int aa), .val (.int b0), .val (.int b1), .unset, .unset, .unset, .unset, .unset] [(.int (16 : Int32)), (.int p0)]))
  refine own_by (fun _ k => XT.ishr X0.here hx rfl (hb hby at_30) rfl k) ?_
  show own_G _ _ _ _ _ _ _ (s₁.setTop (mkF m 31 #[.val (.int p0), .val (.long q1), .second, .val (.int p2), .val (.int nn), .val (.int aa), .val (.int b0), .val (.int b1), .unset, .unset, .unset, .unset, .unset] [(.int (p0 >>> ((16 : Int32) &&& 31)))]))
  refine own_by (fun _ k => XT.i2b X0.here hx rfl (hb hby at_31) rfl k) ?_
  show own_G _ _ _ _ _ _ _ (s₁.setTop (mkF m 32 #[.val (.int p0), .val (.long q1), .second, .val (.int p2), .val (.int nn), .val (.int aa), .val (.int b0), .val (.int b1), .unset, .unset, .unset, .unset, .unset] [(.int (p0 >>> ((16 : Int32) &&& 31)).toInt8.toInt32)]))
  refine own_by (fun _ k => XS.istore X0.here hx rfl (hb hby at_32) rfl (l' := #[.val (.int p0), .val (.long q1), .second, .val (.int p2), .val (.int nn), .val (.int aa), .val (.int b0), .val (.int b1), .val (.int (p0 >>> ((16 : Int32) &&& 31)).toInt8.toInt32), .unset, .unset, .unset, .unset]) rfl k) ?_
  show own_G _ _ _ _ _ _ _ (s₁.setTop (mkF m 34 #[.val (.int p0), .val (.long q1), .second, .val (.int p2), .val (.int nn), .val (.int aa), .val (.int b0), .val (.int b1), .val (.int (p0 >>> ((16 : Int32) &&& 31)).toInt8.toInt32), .unset, .unset, .unset, .unset] []))
  generalize hnb2 : (p0 >>> ((16 : Int32) &&& 31)).toInt8.toInt32 = b2
  have J187 : ∀ (hj14 : Heap) (Zj14 : n0 ≤ hj14.size) (Tj14 : State) (lj14 : List Loc) (Xj14 : Stand p l e room_1 s m #[(.int p0), (.long q1), (.int p2)] below meth c Tj14 lj14 3 10) (Nj14 : Fr n0 lj14) (ej14 : Tj14.heap = hj14) (la : Addr) (kb : Addr) (pt : Addr) (Fl : Nat → Int32) (Fj14_0 : own_AB Z hj14 kb 6 (own_mix Fl (own_fk q1) D N)) (hFl : ∀ j, j < N → Fl j = own_lit b0 b1 b2 j), own_G p.tables e below s (own_Q0 Z p0 q1 p2 h0 n0) room_1.cells room_1.slots (Tj14.setTop (mkF m 187 #[.val (.int p0), .val (.long q1), .second, .val (.int p2), .val (.int nn), .val (.int aa), .val (.int b0), .val (.int b1), .val (.int b2), .val (.ref la), .val (.ref kb), .val (.ref pt), .val (.int (aa + nn))] [])) := by
    intro hj14 Zj14 Tj14 lj14 Xj14 Nj14 ej14 la kb pt Fl Fj14_0 hFl
    show own_G _ _ _ _ _ _ _ (Tj14.setTop (mkF m 187 #[.val (.int p0), .val (.long q1), .second, .val (.int p2), .val (.int nn), .val (.int aa), .val (.int b0), .val (.int b1), .val (.int b2), .val (.ref la), .val (.ref kb), .val (.ref pt), .val (.int (aa + nn))] []))
    refine own_by (fun _ k => XS.iload Xj14.here hx rfl (hb hby at_187) rfl  k) ?_
    show own_G _ _ _ _ _ _ _ (Tj14.setTop (mkF m 189 #[.val (.int p0), .val (.long q1), .second, .val (.int p2), .val (.int nn), .val (.int aa), .val (.int b0), .val (.int b1), .val (.int b2), .val (.ref la), .val (.ref kb), .val (.ref pt), .val (.int (aa + nn))] [(.int (aa + nn))]))
    refine own_by (fun _ k => XS.iload Xj14.here hx rfl (hb hby at_189) rfl  k) ?_
    show own_G _ _ _ _ _ _ _ (Tj14.setTop (mkF m 191 #[.val (.int p0), .val (.long q1), .second, .val (.int p2), .val (.int nn), .val (.int aa), .val (.int b0), .val (.int b1), .val (.int b2), .val (.ref la), .val (.ref kb), .val (.ref pt), .val (.int (aa + nn))] [(.int aa), (.int (aa + nn))]))
    refine own_by (fun _ k => XS.iload Xj14.here hx rfl (hb hby at_191) rfl  k) ?_
    show own_G _ _ _ _ _ _ _ (Tj14.setTop (mkF m 193 #[.val (.int p0), .val (.long q1), .second, .val (.int p2), .val (.int nn), .val (.int aa), .val (.int b0), .val (.int b1), .val (.int b2), .val (.ref la), .val (.ref kb), .val (.ref pt), .val (.int (aa + nn))] [(.int nn), (.int aa), (.int (aa + nn))]))
    refine own_by (fun _ k => XS.iadd Xj14.here hx rfl (hb hby at_193) rfl k) ?_
    show own_G _ _ _ _ _ _ _ (Tj14.setTop (mkF m 194 #[.val (.int p0), .val (.long q1), .second, .val (.int p2), .val (.int nn), .val (.int aa), .val (.int b0), .val (.int b1), .val (.int b2), .val (.ref la), .val (.ref kb), .val (.ref pt), .val (.int (aa + nn))] [(.int (aa + nn)), (.int (aa + nn))]))
    have hc194 : (aa + nn) = (aa + nn) := rfl
    refine own_by (fun _ k => XS.icmpNo Xj14.here hx rfl (hb hby at_194) rfl (XT.ii_ne_f hc194) k) ?_
    show own_G _ _ _ _ _ _ _ (Tj14.setTop (mkF m 197 #[.val (.int p0), .val (.long q1), .second, .val (.int p2), .val (.int nn), .val (.int aa), .val (.int b0), .val (.int b1), .val (.int b2), .val (.ref la), .val (.ref kb), .val (.ref pt), .val (.int (aa + nn))] []))
    refine own_by (fun _ k => XS.aload Xj14.here hx rfl (hb hby at_197) rfl rfl k) ?_
    show own_G _ _ _ _ _ _ _ (Tj14.setTop (mkF m 199 #[.val (.int p0), .val (.long q1), .second, .val (.int p2), .val (.int nn), .val (.int aa), .val (.int b0), .val (.int b1), .val (.int b2), .val (.ref la), .val (.ref kb), .val (.ref pt), .val (.int (aa + nn))] [(.ref kb)]))
    refine own_by (fun _ k => XS.iconst Xj14.here hx rfl (hb hby at_199) k) ?_
    show own_G _ _ _ _ _ _ _ (Tj14.setTop (mkF m 200 #[.val (.int p0), .val (.long q1), .second, .val (.int p2), .val (.int nn), .val (.int aa), .val (.int b0), .val (.int b1), .val (.int b2), .val (.ref la), .val (.ref kb), .val (.ref pt), .val (.int (aa + nn))] [(.int (0 : Int32)), (.ref kb)]))
    refine own_by (own_ldB Xj14 hx hZ ej14 Fj14_0 (k := 0) (by decide) (by decide) (g := (mkF m 200 #[.val (.int p0), .val (.long q1), .second, .val (.int p2), .val (.int nn), .val (.int aa), .val (.int b0), .val (.int b1), .val (.int b2), .val (.ref la), .val (.ref kb), .val (.ref pt), .val (.int (aa + nn))] [(.int (0 : Int32)), (.ref kb)])) rfl rfl (hb hby at_200)) ?_
    show own_G _ _ _ _ _ _ _ (Tj14.setTop (mkF m 201 #[.val (.int p0), .val (.long q1), .second, .val (.int p2), .val (.int nn), .val (.int aa), .val (.int b0), .val (.int b1), .val (.int b2), .val (.ref la), .val (.ref kb), .val (.ref pt), .val (.int (aa + nn))] [(.int ((own_mix Fl (own_fk q1) D N) 0))]))
    refine own_by (fun _ k => XT.lloadN Xj14.here hx rfl (hb hby at_201) rfl  k) ?_
    show own_G _ _ _ _ _ _ _ (Tj14.setTop (mkF m 202 #[.val (.int p0), .val (.long q1), .second, .val (.int p2), .val (.int nn), .val (.int aa), .val (.int b0), .val (.int b1), .val (.int b2), .val (.ref la), .val (.ref kb), .val (.ref pt), .val (.int (aa + nn))] [(.long q1), (.int ((own_mix Fl (own_fk q1) D N) 0))]))
    refine own_by (fun _ k => XS.iconst Xj14.here hx rfl (hb hby at_202) k) ?_
    show own_G _ _ _ _ _ _ _ (Tj14.setTop (mkF m 203 #[.val (.int p0), .val (.long q1), .second, .val (.int p2), .val (.int nn), .val (.int aa), .val (.int b0), .val (.int b1), .val (.int b2), .val (.ref la), .val (.ref kb), .val (.ref pt), .val (.int (aa + nn))] [(.int (0 : Int32)), (.long q1), (.int ((own_mix Fl (own_fk q1) D N) 0))]))
    refine own_by (fun _ k => XS.iload Xj14.here hx rfl (hb hby at_203) rfl  k) ?_
    show own_G _ _ _ _ _ _ _ (Tj14.setTop (mkF m 205 #[.val (.int p0), .val (.long q1), .second, .val (.int p2), .val (.int nn), .val (.int aa), .val (.int b0), .val (.int b1), .val (.int b2), .val (.ref la), .val (.ref kb), .val (.ref pt), .val (.int (aa + nn))] [(.int aa), (.int (0 : Int32)), (.long q1), (.int ((own_mix Fl (own_fk q1) D N) 0))]))
    refine own_by (fun _ k => XS.iload Xj14.here hx rfl (hb hby at_205) rfl  k) ?_
    show own_G _ _ _ _ _ _ _ (Tj14.setTop (mkF m 207 #[.val (.int p0), .val (.long q1), .second, .val (.int p2), .val (.int nn), .val (.int aa), .val (.int b0), .val (.int b1), .val (.int b2), .val (.ref la), .val (.ref kb), .val (.ref pt), .val (.int (aa + nn))] [(.int nn), (.int aa), (.int (0 : Int32)), (.long q1), (.int ((own_mix Fl (own_fk q1) D N) 0))]))
    refine own_by (fun _ k => XS.iload Xj14.here hx rfl (hb hby at_207) rfl  k) ?_
    show own_G _ _ _ _ _ _ _ (Tj14.setTop (mkF m 209 #[.val (.int p0), .val (.long q1), .second, .val (.int p2), .val (.int nn), .val (.int aa), .val (.int b0), .val (.int b1), .val (.int b2), .val (.ref la), .val (.ref kb), .val (.ref pt), .val (.int (aa + nn))] [(.int b0), (.int nn), (.int aa), (.int (0 : Int32)), (.long q1), (.int ((own_mix Fl (own_fk q1) D N) 0))]))
    refine own_by (fun _ k => XS.iload Xj14.here hx rfl (hb hby at_209) rfl  k) ?_
    show own_G _ _ _ _ _ _ _ (Tj14.setTop (mkF m 211 #[.val (.int p0), .val (.long q1), .second, .val (.int p2), .val (.int nn), .val (.int aa), .val (.int b0), .val (.int b1), .val (.int b2), .val (.ref la), .val (.ref kb), .val (.ref pt), .val (.int (aa + nn))] [(.int b1), (.int b0), (.int nn), (.int aa), (.int (0 : Int32)), (.long q1), (.int ((own_mix Fl (own_fk q1) D N) 0))]))
    refine own_by (fun _ k => XS.iload Xj14.here hx rfl (hb hby at_211) rfl  k) ?_
    show own_G _ _ _ _ _ _ _ (Tj14.setTop (mkF m 213 #[.val (.int p0), .val (.long q1), .second, .val (.int p2), .val (.int nn), .val (.int aa), .val (.int b0), .val (.int b1), .val (.int b2), .val (.ref la), .val (.ref kb), .val (.ref pt), .val (.int (aa + nn))] [(.int b2), (.int b1), (.int b0), (.int nn), (.int aa), (.int (0 : Int32)), (.long q1), (.int ((own_mix Fl (own_fk q1) D N) 0))]))
    obtain ⟨_, _, ⟨T15, L15, k15, n15⟩, -, X15, ⟨Lc15, hQ15, l15, y15, z15⟩, st15⟩ := Jvm.LawKit.callS Xj14 hx (y := (⟨"com/example/keys_into_regions/keysintoregions/LiteralWritePinLaw", "expected", "(JIIIBBB)B"⟩ : MethodName)) hown (mvT hZ (hw _ (List.mem_of_getElem? (i := 30) rfl))) (mvT hZ (hw _ (List.mem_of_getElem? (i := 31) rfl))) (mvT hZ (hw _ (List.mem_of_getElem? (i := 3) rfl))) (mvT hZ (hw _ (List.mem_of_getElem? (i := 32) rfl))) (by decide) (backOf (W := 1) (rm2 l Z aw hw [] q1 (0 : Int32) aa nn b0 b1 b2 hj14 n0 Zj14 ) hZ (hw _ (List.mem_of_getElem? (i := 32) rfl)) (hw _ (List.mem_of_getElem? (i := 3) rfl)) (by decide) (by decide)) (g := (mkF m 213 #[.val (.int p0), .val (.long q1), .second, .val (.int p2), .val (.int nn), .val (.int aa), .val (.int b0), .val (.int b1), .val (.int b2), .val (.ref la), .val (.ref kb), .val (.ref pt), .val (.int (aa + nn))] [(.int b2), (.int b1), (.int b0), (.int nn), (.int aa), (.int (0 : Int32)), (.long q1), (.int ((own_mix Fl (own_fk q1) D N) 0))])) rfl (by rw [hml]; rfl) (argsL := [(.long q1), (.int (0 : Int32)), (.int aa), (.int nn), (.int b0), (.int b1), (.int b2)]) (rest := [(.int ((own_mix Fl (own_fk q1) D N) 0))]) (lenOf own_pd2 rfl) rfl (by show 2 * 0 + _ ≤ _; exact Nat.le_of_eq rfl) (hb hby at_213) (fun _ _ => ⟨rfl, ej14, (by decide : 3 + 0 ≤ _), (by decide : 10 + 0 ≤ _)⟩)
    dsimp only [Pt.U, Pt.locs, Pt.cells, Pt.slots] at X15 l15 y15 z15 st15 hQ15
    subst l15 y15 z15
    obtain ⟨rfl, Nq15, e15⟩ := hQ15
    have N15 := Fr.app Nj14 Nq15
    refine own_by (fun _ k => st15 _ k) ?_
    show own_G _ _ _ _ _ _ _ (T15.setTop (mkF m 216 #[.val (.int p0), .val (.long q1), .second, .val (.int p2), .val (.int nn), .val (.int aa), .val (.int b0), .val (.int b1), .val (.int b2), .val (.ref la), .val (.ref kb), .val (.ref pt), .val (.int (aa + nn))] [(.int (own_expd q1 (0 : Int32) aa nn b0 b1 b2)), (.int ((own_mix Fl (own_fk q1) D N) 0))]))
    have hc216 : ((own_mix Fl (own_fk q1) D N) 0) = (own_expd q1 (0 : Int32) aa nn b0 b1 b2) := (own_fin (show (0 : Int32).toInt = (0 : Nat) by decide) hD hN (by decide) hle hN4 hFl rfl)
    refine own_by (fun _ k => XS.icmpNo X15.here hx rfl (hb hby at_216) rfl (XT.ii_ne_f hc216) k) ?_
    show own_G _ _ _ _ _ _ _ (T15.setTop (mkF m 219 #[.val (.int p0), .val (.long q1), .second, .val (.int p2), .val (.int nn), .val (.int aa), .val (.int b0), .val (.int b1), .val (.int b2), .val (.ref la), .val (.ref kb), .val (.ref pt), .val (.int (aa + nn))] []))
    refine own_by (fun _ k => XS.aload X15.here hx rfl (hb hby at_219) rfl rfl k) ?_
    show own_G _ _ _ _ _ _ _ (T15.setTop (mkF m 221 #[.val (.int p0), .val (.long q1), .second, .val (.int p2), .val (.int nn), .val (.int aa), .val (.int b0), .val (.int b1), .val (.int b2), .val (.ref la), .val (.ref kb), .val (.ref pt), .val (.int (aa + nn))] [(.ref kb)]))
    refine own_by (fun _ k => XS.iconst X15.here hx rfl (hb hby at_221) k) ?_
    show own_G _ _ _ _ _ _ _ (T15.setTop (mkF m 222 #[.val (.int p0), .val (.long q1), .second, .val (.int p2), .val (.int nn), .val (.int aa), .val (.int b0), .val (.int b1), .val (.int b2), .val (.ref la), .val (.ref kb), .val (.ref pt), .val (.int (aa + nn))] [(.int (1 : Int32)), (.ref kb)]))
    refine own_by (own_ldB X15 hx hZ e15 Fj14_0 (k := 1) (by decide) (by decide) (g := (mkF m 222 #[.val (.int p0), .val (.long q1), .second, .val (.int p2), .val (.int nn), .val (.int aa), .val (.int b0), .val (.int b1), .val (.int b2), .val (.ref la), .val (.ref kb), .val (.ref pt), .val (.int (aa + nn))] [(.int (1 : Int32)), (.ref kb)])) rfl rfl (hb hby at_222)) ?_
    show own_G _ _ _ _ _ _ _ (T15.setTop (mkF m 223 #[.val (.int p0), .val (.long q1), .second, .val (.int p2), .val (.int nn), .val (.int aa), .val (.int b0), .val (.int b1), .val (.int b2), .val (.ref la), .val (.ref kb), .val (.ref pt), .val (.int (aa + nn))] [(.int ((own_mix Fl (own_fk q1) D N) 1))]))
    refine own_by (fun _ k => XT.lloadN X15.here hx rfl (hb hby at_223) rfl  k) ?_
    show own_G _ _ _ _ _ _ _ (T15.setTop (mkF m 224 #[.val (.int p0), .val (.long q1), .second, .val (.int p2), .val (.int nn), .val (.int aa), .val (.int b0), .val (.int b1), .val (.int b2), .val (.ref la), .val (.ref kb), .val (.ref pt), .val (.int (aa + nn))] [(.long q1), (.int ((own_mix Fl (own_fk q1) D N) 1))]))
    refine own_by (fun _ k => XS.iconst X15.here hx rfl (hb hby at_224) k) ?_
    show own_G _ _ _ _ _ _ _ (T15.setTop (mkF m 225 #[.val (.int p0), .val (.long q1), .second, .val (.int p2), .val (.int nn), .val (.int aa), .val (.int b0), .val (.int b1), .val (.int b2), .val (.ref la), .val (.ref kb), .val (.ref pt), .val (.int (aa + nn))] [(.int (1 : Int32)), (.long q1), (.int ((own_mix Fl (own_fk q1) D N) 1))]))
    refine own_by (fun _ k => XS.iload X15.here hx rfl (hb hby at_225) rfl  k) ?_
    show own_G _ _ _ _ _ _ _ (T15.setTop (mkF m 227 #[.val (.int p0), .val (.long q1), .second, .val (.int p2), .val (.int nn), .val (.int aa), .val (.int b0), .val (.int b1), .val (.int b2), .val (.ref la), .val (.ref kb), .val (.ref pt), .val (.int (aa + nn))] [(.int aa), (.int (1 : Int32)), (.long q1), (.int ((own_mix Fl (own_fk q1) D N) 1))]))
    refine own_by (fun _ k => XS.iload X15.here hx rfl (hb hby at_227) rfl  k) ?_
    show own_G _ _ _ _ _ _ _ (T15.setTop (mkF m 229 #[.val (.int p0), .val (.long q1), .second, .val (.int p2), .val (.int nn), .val (.int aa), .val (.int b0), .val (.int b1), .val (.int b2), .val (.ref la), .val (.ref kb), .val (.ref pt), .val (.int (aa + nn))] [(.int nn), (.int aa), (.int (1 : Int32)), (.long q1), (.int ((own_mix Fl (own_fk q1) D N) 1))]))
    refine own_by (fun _ k => XS.iload X15.here hx rfl (hb hby at_229) rfl  k) ?_
    show own_G _ _ _ _ _ _ _ (T15.setTop (mkF m 231 #[.val (.int p0), .val (.long q1), .second, .val (.int p2), .val (.int nn), .val (.int aa), .val (.int b0), .val (.int b1), .val (.int b2), .val (.ref la), .val (.ref kb), .val (.ref pt), .val (.int (aa + nn))] [(.int b0), (.int nn), (.int aa), (.int (1 : Int32)), (.long q1), (.int ((own_mix Fl (own_fk q1) D N) 1))]))
    refine own_by (fun _ k => XS.iload X15.here hx rfl (hb hby at_231) rfl  k) ?_
    show own_G _ _ _ _ _ _ _ (T15.setTop (mkF m 233 #[.val (.int p0), .val (.long q1), .second, .val (.int p2), .val (.int nn), .val (.int aa), .val (.int b0), .val (.int b1), .val (.int b2), .val (.ref la), .val (.ref kb), .val (.ref pt), .val (.int (aa + nn))] [(.int b1), (.int b0), (.int nn), (.int aa), (.int (1 : Int32)), (.long q1), (.int ((own_mix Fl (own_fk q1) D N) 1))]))
    refine own_by (fun _ k => XS.iload X15.here hx rfl (hb hby at_233) rfl  k) ?_
    show own_G _ _ _ _ _ _ _ (T15.setTop (mkF m 235 #[.val (.int p0), .val (.long q1), .second, .val (.int p2), .val (.int nn), .val (.int aa), .val (.int b0), .val (.int b1), .val (.int b2), .val (.ref la), .val (.ref kb), .val (.ref pt), .val (.int (aa + nn))] [(.int b2), (.int b1), (.int b0), (.int nn), (.int aa), (.int (1 : Int32)), (.long q1), (.int ((own_mix Fl (own_fk q1) D N) 1))]))
    obtain ⟨_, _, ⟨T16, L16, k16, n16⟩, -, X16, ⟨Lc16, hQ16, l16, y16, z16⟩, st16⟩ := Jvm.LawKit.callS X15 hx (y := (⟨"com/example/keys_into_regions/keysintoregions/LiteralWritePinLaw", "expected", "(JIIIBBB)B"⟩ : MethodName)) hown (mvT hZ (hw _ (List.mem_of_getElem? (i := 30) rfl))) (mvT hZ (hw _ (List.mem_of_getElem? (i := 31) rfl))) (mvT hZ (hw _ (List.mem_of_getElem? (i := 3) rfl))) (mvT hZ (hw _ (List.mem_of_getElem? (i := 32) rfl))) (by decide) (backOf (W := 1) (rm2 l Z aw hw [] q1 (1 : Int32) aa nn b0 b1 b2 hj14 n0 Zj14 ) hZ (hw _ (List.mem_of_getElem? (i := 32) rfl)) (hw _ (List.mem_of_getElem? (i := 3) rfl)) (by decide) (by decide)) (g := (mkF m 235 #[.val (.int p0), .val (.long q1), .second, .val (.int p2), .val (.int nn), .val (.int aa), .val (.int b0), .val (.int b1), .val (.int b2), .val (.ref la), .val (.ref kb), .val (.ref pt), .val (.int (aa + nn))] [(.int b2), (.int b1), (.int b0), (.int nn), (.int aa), (.int (1 : Int32)), (.long q1), (.int ((own_mix Fl (own_fk q1) D N) 1))])) rfl (by rw [hml]; rfl) (argsL := [(.long q1), (.int (1 : Int32)), (.int aa), (.int nn), (.int b0), (.int b1), (.int b2)]) (rest := [(.int ((own_mix Fl (own_fk q1) D N) 1))]) (lenOf own_pd2 rfl) rfl (by show 2 * 0 + _ ≤ _; exact Nat.le_of_eq rfl) (hb hby at_235) (fun _ _ => ⟨rfl, e15, (by decide : 3 + 0 ≤ _), (by decide : 10 + 0 ≤ _)⟩)
    dsimp only [Pt.U, Pt.locs, Pt.cells, Pt.slots] at X16 l16 y16 z16 st16 hQ16
    subst l16 y16 z16
    obtain ⟨rfl, Nq16, e16⟩ := hQ16
    have N16 := Fr.app N15 Nq16
    refine own_by (fun _ k => st16 _ k) ?_
    show own_G _ _ _ _ _ _ _ (T16.setTop (mkF m 238 #[.val (.int p0), .val (.long q1), .second, .val (.int p2), .val (.int nn), .val (.int aa), .val (.int b0), .val (.int b1), .val (.int b2), .val (.ref la), .val (.ref kb), .val (.ref pt), .val (.int (aa + nn))] [(.int (own_expd q1 (1 : Int32) aa nn b0 b1 b2)), (.int ((own_mix Fl (own_fk q1) D N) 1))]))
    have hc238 : ((own_mix Fl (own_fk q1) D N) 1) = (own_expd q1 (1 : Int32) aa nn b0 b1 b2) := (own_fin (show (1 : Int32).toInt = (1 : Nat) by decide) hD hN (by decide) hle hN4 hFl rfl)
    refine own_by (fun _ k => XS.icmpNo X16.here hx rfl (hb hby at_238) rfl (XT.ii_ne_f hc238) k) ?_
    show own_G _ _ _ _ _ _ _ (T16.setTop (mkF m 241 #[.val (.int p0), .val (.long q1), .second, .val (.int p2), .val (.int nn), .val (.int aa), .val (.int b0), .val (.int b1), .val (.int b2), .val (.ref la), .val (.ref kb), .val (.ref pt), .val (.int (aa + nn))] []))
    refine own_by (fun _ k => XS.aload X16.here hx rfl (hb hby at_241) rfl rfl k) ?_
    show own_G _ _ _ _ _ _ _ (T16.setTop (mkF m 243 #[.val (.int p0), .val (.long q1), .second, .val (.int p2), .val (.int nn), .val (.int aa), .val (.int b0), .val (.int b1), .val (.int b2), .val (.ref la), .val (.ref kb), .val (.ref pt), .val (.int (aa + nn))] [(.ref kb)]))
    refine own_by (fun _ k => XS.iconst X16.here hx rfl (hb hby at_243) k) ?_
    show own_G _ _ _ _ _ _ _ (T16.setTop (mkF m 244 #[.val (.int p0), .val (.long q1), .second, .val (.int p2), .val (.int nn), .val (.int aa), .val (.int b0), .val (.int b1), .val (.int b2), .val (.ref la), .val (.ref kb), .val (.ref pt), .val (.int (aa + nn))] [(.int (2 : Int32)), (.ref kb)]))
    refine own_by (own_ldB X16 hx hZ e16 Fj14_0 (k := 2) (by decide) (by decide) (g := (mkF m 244 #[.val (.int p0), .val (.long q1), .second, .val (.int p2), .val (.int nn), .val (.int aa), .val (.int b0), .val (.int b1), .val (.int b2), .val (.ref la), .val (.ref kb), .val (.ref pt), .val (.int (aa + nn))] [(.int (2 : Int32)), (.ref kb)])) rfl rfl (hb hby at_244)) ?_
    show own_G _ _ _ _ _ _ _ (T16.setTop (mkF m 245 #[.val (.int p0), .val (.long q1), .second, .val (.int p2), .val (.int nn), .val (.int aa), .val (.int b0), .val (.int b1), .val (.int b2), .val (.ref la), .val (.ref kb), .val (.ref pt), .val (.int (aa + nn))] [(.int ((own_mix Fl (own_fk q1) D N) 2))]))
    refine own_by (fun _ k => XT.lloadN X16.here hx rfl (hb hby at_245) rfl  k) ?_
    show own_G _ _ _ _ _ _ _ (T16.setTop (mkF m 246 #[.val (.int p0), .val (.long q1), .second, .val (.int p2), .val (.int nn), .val (.int aa), .val (.int b0), .val (.int b1), .val (.int b2), .val (.ref la), .val (.ref kb), .val (.ref pt), .val (.int (aa + nn))] [(.long q1), (.int ((own_mix Fl (own_fk q1) D N) 2))]))
    refine own_by (fun _ k => XS.iconst X16.here hx rfl (hb hby at_246) k) ?_
    show own_G _ _ _ _ _ _ _ (T16.setTop (mkF m 247 #[.val (.int p0), .val (.long q1), .second, .val (.int p2), .val (.int nn), .val (.int aa), .val (.int b0), .val (.int b1), .val (.int b2), .val (.ref la), .val (.ref kb), .val (.ref pt), .val (.int (aa + nn))] [(.int (2 : Int32)), (.long q1), (.int ((own_mix Fl (own_fk q1) D N) 2))]))
    refine own_by (fun _ k => XS.iload X16.here hx rfl (hb hby at_247) rfl  k) ?_
    show own_G _ _ _ _ _ _ _ (T16.setTop (mkF m 249 #[.val (.int p0), .val (.long q1), .second, .val (.int p2), .val (.int nn), .val (.int aa), .val (.int b0), .val (.int b1), .val (.int b2), .val (.ref la), .val (.ref kb), .val (.ref pt), .val (.int (aa + nn))] [(.int aa), (.int (2 : Int32)), (.long q1), (.int ((own_mix Fl (own_fk q1) D N) 2))]))
    refine own_by (fun _ k => XS.iload X16.here hx rfl (hb hby at_249) rfl  k) ?_
    show own_G _ _ _ _ _ _ _ (T16.setTop (mkF m 251 #[.val (.int p0), .val (.long q1), .second, .val (.int p2), .val (.int nn), .val (.int aa), .val (.int b0), .val (.int b1), .val (.int b2), .val (.ref la), .val (.ref kb), .val (.ref pt), .val (.int (aa + nn))] [(.int nn), (.int aa), (.int (2 : Int32)), (.long q1), (.int ((own_mix Fl (own_fk q1) D N) 2))]))
    refine own_by (fun _ k => XS.iload X16.here hx rfl (hb hby at_251) rfl  k) ?_
    show own_G _ _ _ _ _ _ _ (T16.setTop (mkF m 253 #[.val (.int p0), .val (.long q1), .second, .val (.int p2), .val (.int nn), .val (.int aa), .val (.int b0), .val (.int b1), .val (.int b2), .val (.ref la), .val (.ref kb), .val (.ref pt), .val (.int (aa + nn))] [(.int b0), (.int nn), (.int aa), (.int (2 : Int32)), (.long q1), (.int ((own_mix Fl (own_fk q1) D N) 2))]))
    refine own_by (fun _ k => XS.iload X16.here hx rfl (hb hby at_253) rfl  k) ?_
    show own_G _ _ _ _ _ _ _ (T16.setTop (mkF m 255 #[.val (.int p0), .val (.long q1), .second, .val (.int p2), .val (.int nn), .val (.int aa), .val (.int b0), .val (.int b1), .val (.int b2), .val (.ref la), .val (.ref kb), .val (.ref pt), .val (.int (aa + nn))] [(.int b1), (.int b0), (.int nn), (.int aa), (.int (2 : Int32)), (.long q1), (.int ((own_mix Fl (own_fk q1) D N) 2))]))
    refine own_by (fun _ k => XS.iload X16.here hx rfl (hb hby at_255) rfl  k) ?_
    show own_G _ _ _ _ _ _ _ (T16.setTop (mkF m 257 #[.val (.int p0), .val (.long q1), .second, .val (.int p2), .val (.int nn), .val (.int aa), .val (.int b0), .val (.int b1), .val (.int b2), .val (.ref la), .val (.ref kb), .val (.ref pt), .val (.int (aa + nn))] [(.int b2), (.int b1), (.int b0), (.int nn), (.int aa), (.int (2 : Int32)), (.long q1), (.int ((own_mix Fl (own_fk q1) D N) 2))]))
    obtain ⟨_, _, ⟨T17, L17, k17, n17⟩, -, X17, ⟨Lc17, hQ17, l17, y17, z17⟩, st17⟩ := Jvm.LawKit.callS X16 hx (y := (⟨"com/example/keys_into_regions/keysintoregions/LiteralWritePinLaw", "expected", "(JIIIBBB)B"⟩ : MethodName)) hown (mvT hZ (hw _ (List.mem_of_getElem? (i := 30) rfl))) (mvT hZ (hw _ (List.mem_of_getElem? (i := 31) rfl))) (mvT hZ (hw _ (List.mem_of_getElem? (i := 3) rfl))) (mvT hZ (hw _ (List.mem_of_getElem? (i := 32) rfl))) (by decide) (backOf (W := 1) (rm2 l Z aw hw [] q1 (2 : Int32) aa nn b0 b1 b2 hj14 n0 Zj14 ) hZ (hw _ (List.mem_of_getElem? (i := 32) rfl)) (hw _ (List.mem_of_getElem? (i := 3) rfl)) (by decide) (by decide)) (g := (mkF m 257 #[.val (.int p0), .val (.long q1), .second, .val (.int p2), .val (.int nn), .val (.int aa), .val (.int b0), .val (.int b1), .val (.int b2), .val (.ref la), .val (.ref kb), .val (.ref pt), .val (.int (aa + nn))] [(.int b2), (.int b1), (.int b0), (.int nn), (.int aa), (.int (2 : Int32)), (.long q1), (.int ((own_mix Fl (own_fk q1) D N) 2))])) rfl (by rw [hml]; rfl) (argsL := [(.long q1), (.int (2 : Int32)), (.int aa), (.int nn), (.int b0), (.int b1), (.int b2)]) (rest := [(.int ((own_mix Fl (own_fk q1) D N) 2))]) (lenOf own_pd2 rfl) rfl (by show 2 * 0 + _ ≤ _; exact Nat.le_of_eq rfl) (hb hby at_257) (fun _ _ => ⟨rfl, e16, (by decide : 3 + 0 ≤ _), (by decide : 10 + 0 ≤ _)⟩)
    dsimp only [Pt.U, Pt.locs, Pt.cells, Pt.slots] at X17 l17 y17 z17 st17 hQ17
    subst l17 y17 z17
    obtain ⟨rfl, Nq17, e17⟩ := hQ17
    have N17 := Fr.app N16 Nq17
    refine own_by (fun _ k => st17 _ k) ?_
    show own_G _ _ _ _ _ _ _ (T17.setTop (mkF m 260 #[.val (.int p0), .val (.long q1), .second, .val (.int p2), .val (.int nn), .val (.int aa), .val (.int b0), .val (.int b1), .val (.int b2), .val (.ref la), .val (.ref kb), .val (.ref pt), .val (.int (aa + nn))] [(.int (own_expd q1 (2 : Int32) aa nn b0 b1 b2)), (.int ((own_mix Fl (own_fk q1) D N) 2))]))
    have hc260 : ((own_mix Fl (own_fk q1) D N) 2) = (own_expd q1 (2 : Int32) aa nn b0 b1 b2) := (own_fin (show (2 : Int32).toInt = (2 : Nat) by decide) hD hN (by decide) hle hN4 hFl rfl)
    refine own_by (fun _ k => XS.icmpNo X17.here hx rfl (hb hby at_260) rfl (XT.ii_ne_f hc260) k) ?_
    show own_G _ _ _ _ _ _ _ (T17.setTop (mkF m 263 #[.val (.int p0), .val (.long q1), .second, .val (.int p2), .val (.int nn), .val (.int aa), .val (.int b0), .val (.int b1), .val (.int b2), .val (.ref la), .val (.ref kb), .val (.ref pt), .val (.int (aa + nn))] []))
    refine own_by (fun _ k => XS.aload X17.here hx rfl (hb hby at_263) rfl rfl k) ?_
    show own_G _ _ _ _ _ _ _ (T17.setTop (mkF m 265 #[.val (.int p0), .val (.long q1), .second, .val (.int p2), .val (.int nn), .val (.int aa), .val (.int b0), .val (.int b1), .val (.int b2), .val (.ref la), .val (.ref kb), .val (.ref pt), .val (.int (aa + nn))] [(.ref kb)]))
    refine own_by (fun _ k => XS.iconst X17.here hx rfl (hb hby at_265) k) ?_
    show own_G _ _ _ _ _ _ _ (T17.setTop (mkF m 266 #[.val (.int p0), .val (.long q1), .second, .val (.int p2), .val (.int nn), .val (.int aa), .val (.int b0), .val (.int b1), .val (.int b2), .val (.ref la), .val (.ref kb), .val (.ref pt), .val (.int (aa + nn))] [(.int (3 : Int32)), (.ref kb)]))
    refine own_by (own_ldB X17 hx hZ e17 Fj14_0 (k := 3) (by decide) (by decide) (g := (mkF m 266 #[.val (.int p0), .val (.long q1), .second, .val (.int p2), .val (.int nn), .val (.int aa), .val (.int b0), .val (.int b1), .val (.int b2), .val (.ref la), .val (.ref kb), .val (.ref pt), .val (.int (aa + nn))] [(.int (3 : Int32)), (.ref kb)])) rfl rfl (hb hby at_266)) ?_
    show own_G _ _ _ _ _ _ _ (T17.setTop (mkF m 267 #[.val (.int p0), .val (.long q1), .second, .val (.int p2), .val (.int nn), .val (.int aa), .val (.int b0), .val (.int b1), .val (.int b2), .val (.ref la), .val (.ref kb), .val (.ref pt), .val (.int (aa + nn))] [(.int ((own_mix Fl (own_fk q1) D N) 3))]))
    refine own_by (fun _ k => XT.lloadN X17.here hx rfl (hb hby at_267) rfl  k) ?_
    show own_G _ _ _ _ _ _ _ (T17.setTop (mkF m 268 #[.val (.int p0), .val (.long q1), .second, .val (.int p2), .val (.int nn), .val (.int aa), .val (.int b0), .val (.int b1), .val (.int b2), .val (.ref la), .val (.ref kb), .val (.ref pt), .val (.int (aa + nn))] [(.long q1), (.int ((own_mix Fl (own_fk q1) D N) 3))]))
    refine own_by (fun _ k => XS.iconst X17.here hx rfl (hb hby at_268) k) ?_
    show own_G _ _ _ _ _ _ _ (T17.setTop (mkF m 269 #[.val (.int p0), .val (.long q1), .second, .val (.int p2), .val (.int nn), .val (.int aa), .val (.int b0), .val (.int b1), .val (.int b2), .val (.ref la), .val (.ref kb), .val (.ref pt), .val (.int (aa + nn))] [(.int (3 : Int32)), (.long q1), (.int ((own_mix Fl (own_fk q1) D N) 3))]))
    refine own_by (fun _ k => XS.iload X17.here hx rfl (hb hby at_269) rfl  k) ?_
    show own_G _ _ _ _ _ _ _ (T17.setTop (mkF m 271 #[.val (.int p0), .val (.long q1), .second, .val (.int p2), .val (.int nn), .val (.int aa), .val (.int b0), .val (.int b1), .val (.int b2), .val (.ref la), .val (.ref kb), .val (.ref pt), .val (.int (aa + nn))] [(.int aa), (.int (3 : Int32)), (.long q1), (.int ((own_mix Fl (own_fk q1) D N) 3))]))
    refine own_by (fun _ k => XS.iload X17.here hx rfl (hb hby at_271) rfl  k) ?_
    show own_G _ _ _ _ _ _ _ (T17.setTop (mkF m 273 #[.val (.int p0), .val (.long q1), .second, .val (.int p2), .val (.int nn), .val (.int aa), .val (.int b0), .val (.int b1), .val (.int b2), .val (.ref la), .val (.ref kb), .val (.ref pt), .val (.int (aa + nn))] [(.int nn), (.int aa), (.int (3 : Int32)), (.long q1), (.int ((own_mix Fl (own_fk q1) D N) 3))]))
    refine own_by (fun _ k => XS.iload X17.here hx rfl (hb hby at_273) rfl  k) ?_
    show own_G _ _ _ _ _ _ _ (T17.setTop (mkF m 275 #[.val (.int p0), .val (.long q1), .second, .val (.int p2), .val (.int nn), .val (.int aa), .val (.int b0), .val (.int b1), .val (.int b2), .val (.ref la), .val (.ref kb), .val (.ref pt), .val (.int (aa + nn))] [(.int b0), (.int nn), (.int aa), (.int (3 : Int32)), (.long q1), (.int ((own_mix Fl (own_fk q1) D N) 3))]))
    refine own_by (fun _ k => XS.iload X17.here hx rfl (hb hby at_275) rfl  k) ?_
    show own_G _ _ _ _ _ _ _ (T17.setTop (mkF m 277 #[.val (.int p0), .val (.long q1), .second, .val (.int p2), .val (.int nn), .val (.int aa), .val (.int b0), .val (.int b1), .val (.int b2), .val (.ref la), .val (.ref kb), .val (.ref pt), .val (.int (aa + nn))] [(.int b1), (.int b0), (.int nn), (.int aa), (.int (3 : Int32)), (.long q1), (.int ((own_mix Fl (own_fk q1) D N) 3))]))
    refine own_by (fun _ k => XS.iload X17.here hx rfl (hb hby at_277) rfl  k) ?_
    show own_G _ _ _ _ _ _ _ (T17.setTop (mkF m 279 #[.val (.int p0), .val (.long q1), .second, .val (.int p2), .val (.int nn), .val (.int aa), .val (.int b0), .val (.int b1), .val (.int b2), .val (.ref la), .val (.ref kb), .val (.ref pt), .val (.int (aa + nn))] [(.int b2), (.int b1), (.int b0), (.int nn), (.int aa), (.int (3 : Int32)), (.long q1), (.int ((own_mix Fl (own_fk q1) D N) 3))]))
    obtain ⟨_, _, ⟨T18, L18, k18, n18⟩, -, X18, ⟨Lc18, hQ18, l18, y18, z18⟩, st18⟩ := Jvm.LawKit.callS X17 hx (y := (⟨"com/example/keys_into_regions/keysintoregions/LiteralWritePinLaw", "expected", "(JIIIBBB)B"⟩ : MethodName)) hown (mvT hZ (hw _ (List.mem_of_getElem? (i := 30) rfl))) (mvT hZ (hw _ (List.mem_of_getElem? (i := 31) rfl))) (mvT hZ (hw _ (List.mem_of_getElem? (i := 3) rfl))) (mvT hZ (hw _ (List.mem_of_getElem? (i := 32) rfl))) (by decide) (backOf (W := 1) (rm2 l Z aw hw [] q1 (3 : Int32) aa nn b0 b1 b2 hj14 n0 Zj14 ) hZ (hw _ (List.mem_of_getElem? (i := 32) rfl)) (hw _ (List.mem_of_getElem? (i := 3) rfl)) (by decide) (by decide)) (g := (mkF m 279 #[.val (.int p0), .val (.long q1), .second, .val (.int p2), .val (.int nn), .val (.int aa), .val (.int b0), .val (.int b1), .val (.int b2), .val (.ref la), .val (.ref kb), .val (.ref pt), .val (.int (aa + nn))] [(.int b2), (.int b1), (.int b0), (.int nn), (.int aa), (.int (3 : Int32)), (.long q1), (.int ((own_mix Fl (own_fk q1) D N) 3))])) rfl (by rw [hml]; rfl) (argsL := [(.long q1), (.int (3 : Int32)), (.int aa), (.int nn), (.int b0), (.int b1), (.int b2)]) (rest := [(.int ((own_mix Fl (own_fk q1) D N) 3))]) (lenOf own_pd2 rfl) rfl (by show 2 * 0 + _ ≤ _; exact Nat.le_of_eq rfl) (hb hby at_279) (fun _ _ => ⟨rfl, e17, (by decide : 3 + 0 ≤ _), (by decide : 10 + 0 ≤ _)⟩)
    dsimp only [Pt.U, Pt.locs, Pt.cells, Pt.slots] at X18 l18 y18 z18 st18 hQ18
    subst l18 y18 z18
    obtain ⟨rfl, Nq18, e18⟩ := hQ18
    have N18 := Fr.app N17 Nq18
    refine own_by (fun _ k => st18 _ k) ?_
    show own_G _ _ _ _ _ _ _ (T18.setTop (mkF m 282 #[.val (.int p0), .val (.long q1), .second, .val (.int p2), .val (.int nn), .val (.int aa), .val (.int b0), .val (.int b1), .val (.int b2), .val (.ref la), .val (.ref kb), .val (.ref pt), .val (.int (aa + nn))] [(.int (own_expd q1 (3 : Int32) aa nn b0 b1 b2)), (.int ((own_mix Fl (own_fk q1) D N) 3))]))
    have hc282 : ((own_mix Fl (own_fk q1) D N) 3) = (own_expd q1 (3 : Int32) aa nn b0 b1 b2) := (own_fin (show (3 : Int32).toInt = (3 : Nat) by decide) hD hN (by decide) hle hN4 hFl rfl)
    refine own_by (fun _ k => XS.icmpNo X18.here hx rfl (hb hby at_282) rfl (XT.ii_ne_f hc282) k) ?_
    show own_G _ _ _ _ _ _ _ (T18.setTop (mkF m 285 #[.val (.int p0), .val (.long q1), .second, .val (.int p2), .val (.int nn), .val (.int aa), .val (.int b0), .val (.int b1), .val (.int b2), .val (.ref la), .val (.ref kb), .val (.ref pt), .val (.int (aa + nn))] []))
    refine own_by (fun _ k => XS.aload X18.here hx rfl (hb hby at_285) rfl rfl k) ?_
    show own_G _ _ _ _ _ _ _ (T18.setTop (mkF m 287 #[.val (.int p0), .val (.long q1), .second, .val (.int p2), .val (.int nn), .val (.int aa), .val (.int b0), .val (.int b1), .val (.int b2), .val (.ref la), .val (.ref kb), .val (.ref pt), .val (.int (aa + nn))] [(.ref kb)]))
    refine own_by (fun _ k => XS.iconst X18.here hx rfl (hb hby at_287) k) ?_
    show own_G _ _ _ _ _ _ _ (T18.setTop (mkF m 288 #[.val (.int p0), .val (.long q1), .second, .val (.int p2), .val (.int nn), .val (.int aa), .val (.int b0), .val (.int b1), .val (.int b2), .val (.ref la), .val (.ref kb), .val (.ref pt), .val (.int (aa + nn))] [(.int (4 : Int32)), (.ref kb)]))
    refine own_by (own_ldB X18 hx hZ e18 Fj14_0 (k := 4) (by decide) (by decide) (g := (mkF m 288 #[.val (.int p0), .val (.long q1), .second, .val (.int p2), .val (.int nn), .val (.int aa), .val (.int b0), .val (.int b1), .val (.int b2), .val (.ref la), .val (.ref kb), .val (.ref pt), .val (.int (aa + nn))] [(.int (4 : Int32)), (.ref kb)])) rfl rfl (hb hby at_288)) ?_
    show own_G _ _ _ _ _ _ _ (T18.setTop (mkF m 289 #[.val (.int p0), .val (.long q1), .second, .val (.int p2), .val (.int nn), .val (.int aa), .val (.int b0), .val (.int b1), .val (.int b2), .val (.ref la), .val (.ref kb), .val (.ref pt), .val (.int (aa + nn))] [(.int ((own_mix Fl (own_fk q1) D N) 4))]))
    refine own_by (fun _ k => XT.lloadN X18.here hx rfl (hb hby at_289) rfl  k) ?_
    show own_G _ _ _ _ _ _ _ (T18.setTop (mkF m 290 #[.val (.int p0), .val (.long q1), .second, .val (.int p2), .val (.int nn), .val (.int aa), .val (.int b0), .val (.int b1), .val (.int b2), .val (.ref la), .val (.ref kb), .val (.ref pt), .val (.int (aa + nn))] [(.long q1), (.int ((own_mix Fl (own_fk q1) D N) 4))]))
    refine own_by (fun _ k => XS.iconst X18.here hx rfl (hb hby at_290) k) ?_
    show own_G _ _ _ _ _ _ _ (T18.setTop (mkF m 291 #[.val (.int p0), .val (.long q1), .second, .val (.int p2), .val (.int nn), .val (.int aa), .val (.int b0), .val (.int b1), .val (.int b2), .val (.ref la), .val (.ref kb), .val (.ref pt), .val (.int (aa + nn))] [(.int (4 : Int32)), (.long q1), (.int ((own_mix Fl (own_fk q1) D N) 4))]))
    refine own_by (fun _ k => XS.iload X18.here hx rfl (hb hby at_291) rfl  k) ?_
    show own_G _ _ _ _ _ _ _ (T18.setTop (mkF m 293 #[.val (.int p0), .val (.long q1), .second, .val (.int p2), .val (.int nn), .val (.int aa), .val (.int b0), .val (.int b1), .val (.int b2), .val (.ref la), .val (.ref kb), .val (.ref pt), .val (.int (aa + nn))] [(.int aa), (.int (4 : Int32)), (.long q1), (.int ((own_mix Fl (own_fk q1) D N) 4))]))
    refine own_by (fun _ k => XS.iload X18.here hx rfl (hb hby at_293) rfl  k) ?_
    show own_G _ _ _ _ _ _ _ (T18.setTop (mkF m 295 #[.val (.int p0), .val (.long q1), .second, .val (.int p2), .val (.int nn), .val (.int aa), .val (.int b0), .val (.int b1), .val (.int b2), .val (.ref la), .val (.ref kb), .val (.ref pt), .val (.int (aa + nn))] [(.int nn), (.int aa), (.int (4 : Int32)), (.long q1), (.int ((own_mix Fl (own_fk q1) D N) 4))]))
    refine own_by (fun _ k => XS.iload X18.here hx rfl (hb hby at_295) rfl  k) ?_
    show own_G _ _ _ _ _ _ _ (T18.setTop (mkF m 297 #[.val (.int p0), .val (.long q1), .second, .val (.int p2), .val (.int nn), .val (.int aa), .val (.int b0), .val (.int b1), .val (.int b2), .val (.ref la), .val (.ref kb), .val (.ref pt), .val (.int (aa + nn))] [(.int b0), (.int nn), (.int aa), (.int (4 : Int32)), (.long q1), (.int ((own_mix Fl (own_fk q1) D N) 4))]))
    refine own_by (fun _ k => XS.iload X18.here hx rfl (hb hby at_297) rfl  k) ?_
    show own_G _ _ _ _ _ _ _ (T18.setTop (mkF m 299 #[.val (.int p0), .val (.long q1), .second, .val (.int p2), .val (.int nn), .val (.int aa), .val (.int b0), .val (.int b1), .val (.int b2), .val (.ref la), .val (.ref kb), .val (.ref pt), .val (.int (aa + nn))] [(.int b1), (.int b0), (.int nn), (.int aa), (.int (4 : Int32)), (.long q1), (.int ((own_mix Fl (own_fk q1) D N) 4))]))
    refine own_by (fun _ k => XS.iload X18.here hx rfl (hb hby at_299) rfl  k) ?_
    show own_G _ _ _ _ _ _ _ (T18.setTop (mkF m 301 #[.val (.int p0), .val (.long q1), .second, .val (.int p2), .val (.int nn), .val (.int aa), .val (.int b0), .val (.int b1), .val (.int b2), .val (.ref la), .val (.ref kb), .val (.ref pt), .val (.int (aa + nn))] [(.int b2), (.int b1), (.int b0), (.int nn), (.int aa), (.int (4 : Int32)), (.long q1), (.int ((own_mix Fl (own_fk q1) D N) 4))]))
    obtain ⟨_, _, ⟨T19, L19, k19, n19⟩, -, X19, ⟨Lc19, hQ19, l19, y19, z19⟩, st19⟩ := Jvm.LawKit.callS X18 hx (y := (⟨"com/example/keys_into_regions/keysintoregions/LiteralWritePinLaw", "expected", "(JIIIBBB)B"⟩ : MethodName)) hown (mvT hZ (hw _ (List.mem_of_getElem? (i := 30) rfl))) (mvT hZ (hw _ (List.mem_of_getElem? (i := 31) rfl))) (mvT hZ (hw _ (List.mem_of_getElem? (i := 3) rfl))) (mvT hZ (hw _ (List.mem_of_getElem? (i := 32) rfl))) (by decide) (backOf (W := 1) (rm2 l Z aw hw [] q1 (4 : Int32) aa nn b0 b1 b2 hj14 n0 Zj14 ) hZ (hw _ (List.mem_of_getElem? (i := 32) rfl)) (hw _ (List.mem_of_getElem? (i := 3) rfl)) (by decide) (by decide)) (g := (mkF m 301 #[.val (.int p0), .val (.long q1), .second, .val (.int p2), .val (.int nn), .val (.int aa), .val (.int b0), .val (.int b1), .val (.int b2), .val (.ref la), .val (.ref kb), .val (.ref pt), .val (.int (aa + nn))] [(.int b2), (.int b1), (.int b0), (.int nn), (.int aa), (.int (4 : Int32)), (.long q1), (.int ((own_mix Fl (own_fk q1) D N) 4))])) rfl (by rw [hml]; rfl) (argsL := [(.long q1), (.int (4 : Int32)), (.int aa), (.int nn), (.int b0), (.int b1), (.int b2)]) (rest := [(.int ((own_mix Fl (own_fk q1) D N) 4))]) (lenOf own_pd2 rfl) rfl (by show 2 * 0 + _ ≤ _; exact Nat.le_of_eq rfl) (hb hby at_301) (fun _ _ => ⟨rfl, e18, (by decide : 3 + 0 ≤ _), (by decide : 10 + 0 ≤ _)⟩)
    dsimp only [Pt.U, Pt.locs, Pt.cells, Pt.slots] at X19 l19 y19 z19 st19 hQ19
    subst l19 y19 z19
    obtain ⟨rfl, Nq19, e19⟩ := hQ19
    have N19 := Fr.app N18 Nq19
    refine own_by (fun _ k => st19 _ k) ?_
    show own_G _ _ _ _ _ _ _ (T19.setTop (mkF m 304 #[.val (.int p0), .val (.long q1), .second, .val (.int p2), .val (.int nn), .val (.int aa), .val (.int b0), .val (.int b1), .val (.int b2), .val (.ref la), .val (.ref kb), .val (.ref pt), .val (.int (aa + nn))] [(.int (own_expd q1 (4 : Int32) aa nn b0 b1 b2)), (.int ((own_mix Fl (own_fk q1) D N) 4))]))
    have hc304 : ((own_mix Fl (own_fk q1) D N) 4) = (own_expd q1 (4 : Int32) aa nn b0 b1 b2) := (own_fin (show (4 : Int32).toInt = (4 : Nat) by decide) hD hN (by decide) hle hN4 hFl rfl)
    refine own_by (fun _ k => XS.icmpNo X19.here hx rfl (hb hby at_304) rfl (XT.ii_ne_f hc304) k) ?_
    show own_G _ _ _ _ _ _ _ (T19.setTop (mkF m 307 #[.val (.int p0), .val (.long q1), .second, .val (.int p2), .val (.int nn), .val (.int aa), .val (.int b0), .val (.int b1), .val (.int b2), .val (.ref la), .val (.ref kb), .val (.ref pt), .val (.int (aa + nn))] []))
    refine own_by (fun _ k => XS.aload X19.here hx rfl (hb hby at_307) rfl rfl k) ?_
    show own_G _ _ _ _ _ _ _ (T19.setTop (mkF m 309 #[.val (.int p0), .val (.long q1), .second, .val (.int p2), .val (.int nn), .val (.int aa), .val (.int b0), .val (.int b1), .val (.int b2), .val (.ref la), .val (.ref kb), .val (.ref pt), .val (.int (aa + nn))] [(.ref kb)]))
    refine own_by (fun _ k => XS.iconst X19.here hx rfl (hb hby at_309) k) ?_
    show own_G _ _ _ _ _ _ _ (T19.setTop (mkF m 310 #[.val (.int p0), .val (.long q1), .second, .val (.int p2), .val (.int nn), .val (.int aa), .val (.int b0), .val (.int b1), .val (.int b2), .val (.ref la), .val (.ref kb), .val (.ref pt), .val (.int (aa + nn))] [(.int (5 : Int32)), (.ref kb)]))
    refine own_by (own_ldB X19 hx hZ e19 Fj14_0 (k := 5) (by decide) (by decide) (g := (mkF m 310 #[.val (.int p0), .val (.long q1), .second, .val (.int p2), .val (.int nn), .val (.int aa), .val (.int b0), .val (.int b1), .val (.int b2), .val (.ref la), .val (.ref kb), .val (.ref pt), .val (.int (aa + nn))] [(.int (5 : Int32)), (.ref kb)])) rfl rfl (hb hby at_310)) ?_
    show own_G _ _ _ _ _ _ _ (T19.setTop (mkF m 311 #[.val (.int p0), .val (.long q1), .second, .val (.int p2), .val (.int nn), .val (.int aa), .val (.int b0), .val (.int b1), .val (.int b2), .val (.ref la), .val (.ref kb), .val (.ref pt), .val (.int (aa + nn))] [(.int ((own_mix Fl (own_fk q1) D N) 5))]))
    refine own_by (fun _ k => XT.lloadN X19.here hx rfl (hb hby at_311) rfl  k) ?_
    show own_G _ _ _ _ _ _ _ (T19.setTop (mkF m 312 #[.val (.int p0), .val (.long q1), .second, .val (.int p2), .val (.int nn), .val (.int aa), .val (.int b0), .val (.int b1), .val (.int b2), .val (.ref la), .val (.ref kb), .val (.ref pt), .val (.int (aa + nn))] [(.long q1), (.int ((own_mix Fl (own_fk q1) D N) 5))]))
    refine own_by (fun _ k => XS.iconst X19.here hx rfl (hb hby at_312) k) ?_
    show own_G _ _ _ _ _ _ _ (T19.setTop (mkF m 313 #[.val (.int p0), .val (.long q1), .second, .val (.int p2), .val (.int nn), .val (.int aa), .val (.int b0), .val (.int b1), .val (.int b2), .val (.ref la), .val (.ref kb), .val (.ref pt), .val (.int (aa + nn))] [(.int (5 : Int32)), (.long q1), (.int ((own_mix Fl (own_fk q1) D N) 5))]))
    refine own_by (fun _ k => XS.iload X19.here hx rfl (hb hby at_313) rfl  k) ?_
    show own_G _ _ _ _ _ _ _ (T19.setTop (mkF m 315 #[.val (.int p0), .val (.long q1), .second, .val (.int p2), .val (.int nn), .val (.int aa), .val (.int b0), .val (.int b1), .val (.int b2), .val (.ref la), .val (.ref kb), .val (.ref pt), .val (.int (aa + nn))] [(.int aa), (.int (5 : Int32)), (.long q1), (.int ((own_mix Fl (own_fk q1) D N) 5))]))
    refine own_by (fun _ k => XS.iload X19.here hx rfl (hb hby at_315) rfl  k) ?_
    show own_G _ _ _ _ _ _ _ (T19.setTop (mkF m 317 #[.val (.int p0), .val (.long q1), .second, .val (.int p2), .val (.int nn), .val (.int aa), .val (.int b0), .val (.int b1), .val (.int b2), .val (.ref la), .val (.ref kb), .val (.ref pt), .val (.int (aa + nn))] [(.int nn), (.int aa), (.int (5 : Int32)), (.long q1), (.int ((own_mix Fl (own_fk q1) D N) 5))]))
    refine own_by (fun _ k => XS.iload X19.here hx rfl (hb hby at_317) rfl  k) ?_
    show own_G _ _ _ _ _ _ _ (T19.setTop (mkF m 319 #[.val (.int p0), .val (.long q1), .second, .val (.int p2), .val (.int nn), .val (.int aa), .val (.int b0), .val (.int b1), .val (.int b2), .val (.ref la), .val (.ref kb), .val (.ref pt), .val (.int (aa + nn))] [(.int b0), (.int nn), (.int aa), (.int (5 : Int32)), (.long q1), (.int ((own_mix Fl (own_fk q1) D N) 5))]))
    refine own_by (fun _ k => XS.iload X19.here hx rfl (hb hby at_319) rfl  k) ?_
    show own_G _ _ _ _ _ _ _ (T19.setTop (mkF m 321 #[.val (.int p0), .val (.long q1), .second, .val (.int p2), .val (.int nn), .val (.int aa), .val (.int b0), .val (.int b1), .val (.int b2), .val (.ref la), .val (.ref kb), .val (.ref pt), .val (.int (aa + nn))] [(.int b1), (.int b0), (.int nn), (.int aa), (.int (5 : Int32)), (.long q1), (.int ((own_mix Fl (own_fk q1) D N) 5))]))
    refine own_by (fun _ k => XS.iload X19.here hx rfl (hb hby at_321) rfl  k) ?_
    show own_G _ _ _ _ _ _ _ (T19.setTop (mkF m 323 #[.val (.int p0), .val (.long q1), .second, .val (.int p2), .val (.int nn), .val (.int aa), .val (.int b0), .val (.int b1), .val (.int b2), .val (.ref la), .val (.ref kb), .val (.ref pt), .val (.int (aa + nn))] [(.int b2), (.int b1), (.int b0), (.int nn), (.int aa), (.int (5 : Int32)), (.long q1), (.int ((own_mix Fl (own_fk q1) D N) 5))]))
    obtain ⟨_, _, ⟨T20, L20, k20, n20⟩, -, X20, ⟨Lc20, hQ20, l20, y20, z20⟩, st20⟩ := Jvm.LawKit.callS X19 hx (y := (⟨"com/example/keys_into_regions/keysintoregions/LiteralWritePinLaw", "expected", "(JIIIBBB)B"⟩ : MethodName)) hown (mvT hZ (hw _ (List.mem_of_getElem? (i := 30) rfl))) (mvT hZ (hw _ (List.mem_of_getElem? (i := 31) rfl))) (mvT hZ (hw _ (List.mem_of_getElem? (i := 3) rfl))) (mvT hZ (hw _ (List.mem_of_getElem? (i := 32) rfl))) (by decide) (backOf (W := 1) (rm2 l Z aw hw [] q1 (5 : Int32) aa nn b0 b1 b2 hj14 n0 Zj14 ) hZ (hw _ (List.mem_of_getElem? (i := 32) rfl)) (hw _ (List.mem_of_getElem? (i := 3) rfl)) (by decide) (by decide)) (g := (mkF m 323 #[.val (.int p0), .val (.long q1), .second, .val (.int p2), .val (.int nn), .val (.int aa), .val (.int b0), .val (.int b1), .val (.int b2), .val (.ref la), .val (.ref kb), .val (.ref pt), .val (.int (aa + nn))] [(.int b2), (.int b1), (.int b0), (.int nn), (.int aa), (.int (5 : Int32)), (.long q1), (.int ((own_mix Fl (own_fk q1) D N) 5))])) rfl (by rw [hml]; rfl) (argsL := [(.long q1), (.int (5 : Int32)), (.int aa), (.int nn), (.int b0), (.int b1), (.int b2)]) (rest := [(.int ((own_mix Fl (own_fk q1) D N) 5))]) (lenOf own_pd2 rfl) rfl (by show 2 * 0 + _ ≤ _; exact Nat.le_of_eq rfl) (hb hby at_323) (fun _ _ => ⟨rfl, e19, (by decide : 3 + 0 ≤ _), (by decide : 10 + 0 ≤ _)⟩)
    dsimp only [Pt.U, Pt.locs, Pt.cells, Pt.slots] at X20 l20 y20 z20 st20 hQ20
    subst l20 y20 z20
    obtain ⟨rfl, Nq20, e20⟩ := hQ20
    have N20 := Fr.app N19 Nq20
    refine own_by (fun _ k => st20 _ k) ?_
    show own_G _ _ _ _ _ _ _ (T20.setTop (mkF m 326 #[.val (.int p0), .val (.long q1), .second, .val (.int p2), .val (.int nn), .val (.int aa), .val (.int b0), .val (.int b1), .val (.int b2), .val (.ref la), .val (.ref kb), .val (.ref pt), .val (.int (aa + nn))] [(.int (own_expd q1 (5 : Int32) aa nn b0 b1 b2)), (.int ((own_mix Fl (own_fk q1) D N) 5))]))
    have hc326 : ((own_mix Fl (own_fk q1) D N) 5) = (own_expd q1 (5 : Int32) aa nn b0 b1 b2) := (own_fin (show (5 : Int32).toInt = (5 : Nat) by decide) hD hN (by decide) hle hN4 hFl rfl)
    refine own_by (fun _ k => XS.icmpNo X20.here hx rfl (hb hby at_326) rfl (XT.ii_ne_f hc326) k) ?_
    show own_G _ _ _ _ _ _ _ (T20.setTop (mkF m 329 #[.val (.int p0), .val (.long q1), .second, .val (.int p2), .val (.int nn), .val (.int aa), .val (.int b0), .val (.int b1), .val (.int b2), .val (.ref la), .val (.ref kb), .val (.ref pt), .val (.int (aa + nn))] []))
    refine own_by (fun _ k => XS.iconst X20.here hx rfl (hb hby at_329) k) ?_
    show own_G _ _ _ _ _ _ _ (T20.setTop (mkF m 330 #[.val (.int p0), .val (.long q1), .second, .val (.int p2), .val (.int nn), .val (.int aa), .val (.int b0), .val (.int b1), .val (.int b2), .val (.ref la), .val (.ref kb), .val (.ref pt), .val (.int (aa + nn))] [(.int (1 : Int32))]))
    refine own_by (fun _ k => XS.goto X20.here hx rfl (pc0 := 330) (pc' := 334) rfl (hb hby at_330) (by decide) (by decide) k) ?_
    show own_G _ _ _ _ _ _ _ (T20.setTop (mkF m 334 #[.val (.int p0), .val (.long q1), .second, .val (.int p2), .val (.int nn), .val (.int aa), .val (.int b0), .val (.int b1), .val (.int b2), .val (.ref la), .val (.ref kb), .val (.ref pt), .val (.int (aa + nn))] [(.int (1 : Int32))]))
    exact own_end X20 (v := some (.int (nar .boolean (1 : Int32)))) (fun h => by rw [Bd.returns] at h; cases h) (BodyLoose.notSynchronized Bd) (fun fs hr => retN X20 hx (t := .boolean) Bd.returns (by simp) (hb hby at_334) hr) (by rw [e20]; exact ⟨rfl, N20⟩) (by decide) (by decide)
  have J110 : ∀ (hj21 : Heap) (Zj21 : n0 ≤ hj21.size) (Tj21 : State) (lj21 : List Loc) (Xj21 : Stand p l e room_1 s m #[(.int p0), (.long q1), (.int p2)] below meth c Tj21 lj21 1 3) (Nj21 : Fr n0 lj21) (ej21 : Tj21.heap = hj21) (la : Addr) (Fl : Nat → Int32) (Fj21_0 : own_AB Z hj21 la N Fl) (hFl : ∀ j, j < N → Fl j = own_lit b0 b1 b2 j), own_G p.tables e below s (own_Q0 Z p0 q1 p2 h0 n0) room_1.cells room_1.slots (Tj21.setTop (mkF m 110 #[.val (.int p0), .val (.long q1), .second, .val (.int p2), .val (.int nn), .val (.int aa), .val (.int b0), .val (.int b1), .val (.int b2), .val (.ref la), .unset, .unset, .unset] [])) := by
    intro hj21 Zj21 Tj21 lj21 Xj21 Nj21 ej21 la Fl Fj21_0 hFl
    show own_G _ _ _ _ _ _ _ (Tj21.setTop (mkF m 110 #[.val (.int p0), .val (.long q1), .second, .val (.int p2), .val (.int nn), .val (.int aa), .val (.int b0), .val (.int b1), .val (.int b2), .val (.ref la), .unset, .unset, .unset] []))
    refine own_by (fun _ k => XS.bipush Xj21.here hx rfl (hb hby at_110) k) ?_
    show own_G _ _ _ _ _ _ _ (Tj21.setTop (mkF m 112 #[.val (.int p0), .val (.long q1), .second, .val (.int p2), .val (.int nn), .val (.int aa), .val (.int b0), .val (.int b1), .val (.int b2), .val (.ref la), .unset, .unset, .unset] [(.int (6 : Int32))]))
    obtain ⟨T22, h22, X22, e22, E22, A22, st22⟩ := own_newB Xj21 hx hZ (hw _ (List.mem_of_getElem? (i := 0) rfl)) ej21 (g := (mkF m 112 #[.val (.int p0), .val (.long q1), .second, .val (.int p2), .val (.int nn), .val (.int aa), .val (.int b0), .val (.int b1), .val (.int b2), .val (.ref la), .unset, .unset, .unset] [(.int (6 : Int32))])) rfl (hb hby at_112) rfl (N := 6) (by decide) (cap := 6) (Nat.le_refl _) (by decide) (by decide) (by decide)
    obtain ⟨b22, g22⟩ : ∃ z, z = hj21.size := ⟨_, rfl⟩
    rw [← g22] at A22 st22
    have ne_la_b22 : la ≠ b22 := Nat.ne_of_lt (Nat.lt_of_lt_of_le Fj21_0.lt (Nat.le_of_eq g22.symm))
    have g_b22 : n0 ≤ b22 := Nat.le_trans Zj21 (Nat.le_of_eq g22.symm)
    refine own_by st22 ?_
    have F23_0 := Fj21_0.ext E22
    have Z24 : n0 ≤ h22.size := Nat.le_trans Zj21 E22.1
    show own_G _ _ _ _ _ _ _ (T22.setTop (mkF m 114 #[.val (.int p0), .val (.long q1), .second, .val (.int p2), .val (.int nn), .val (.int aa), .val (.int b0), .val (.int b1), .val (.int b2), .val (.ref la), .unset, .unset, .unset] [(.ref b22)]))
    refine own_by (fun _ k => XS.dup X22.here hx rfl (hb hby at_114) rfl rfl k) ?_
    show own_G _ _ _ _ _ _ _ (T22.setTop (mkF m 115 #[.val (.int p0), .val (.long q1), .second, .val (.int p2), .val (.int nn), .val (.int aa), .val (.int b0), .val (.int b1), .val (.int b2), .val (.ref la), .unset, .unset, .unset] [(.ref b22), (.ref b22)]))
    refine own_by (fun _ k => XS.iconst X22.here hx rfl (hb hby at_115) k) ?_
    show own_G _ _ _ _ _ _ _ (T22.setTop (mkF m 116 #[.val (.int p0), .val (.long q1), .second, .val (.int p2), .val (.int nn), .val (.int aa), .val (.int b0), .val (.int b1), .val (.int b2), .val (.ref la), .unset, .unset, .unset] [(.int (0 : Int32)), (.ref b22), (.ref b22)]))
    refine own_by (fun _ k => XT.lloadN X22.here hx rfl (hb hby at_116) rfl  k) ?_
    show own_G _ _ _ _ _ _ _ (T22.setTop (mkF m 117 #[.val (.int p0), .val (.long q1), .second, .val (.int p2), .val (.int nn), .val (.int aa), .val (.int b0), .val (.int b1), .val (.int b2), .val (.ref la), .unset, .unset, .unset] [(.long q1), (.int (0 : Int32)), (.ref b22), (.ref b22)]))
    refine own_by (fun _ k => XS.iconst X22.here hx rfl (hb hby at_117) k) ?_
    show own_G _ _ _ _ _ _ _ (T22.setTop (mkF m 118 #[.val (.int p0), .val (.long q1), .second, .val (.int p2), .val (.int nn), .val (.int aa), .val (.int b0), .val (.int b1), .val (.int b2), .val (.ref la), .unset, .unset, .unset] [(.int (0 : Int32)), (.long q1), (.int (0 : Int32)), (.ref b22), (.ref b22)]))
    obtain ⟨_, _, ⟨T25, L25, k25, n25⟩, -, X25, ⟨Lc25, hQ25, l25, y25, z25⟩, st25⟩ := Jvm.LawKit.callS X22 hx (y := (⟨"com/example/keys_into_regions/keysintoregions/LiteralWritePinLaw", "fill", "(JI)B"⟩ : MethodName)) hown (mvT hZ (hw _ (List.mem_of_getElem? (i := 1) rfl))) (mvT hZ (hw _ (List.mem_of_getElem? (i := 2) rfl))) (mvT hZ (hw _ (List.mem_of_getElem? (i := 3) rfl))) (mvT hZ (hw _ (List.mem_of_getElem? (i := 4) rfl))) (by decide) (backOf (W := 3) (rm1 l Z aw hw [] q1 (0 : Int32) h22 n0 Z24 ) hZ (hw _ (List.mem_of_getElem? (i := 4) rfl)) (hw _ (List.mem_of_getElem? (i := 3) rfl)) (by decide) (by decide)) (g := (mkF m 118 #[.val (.int p0), .val (.long q1), .second, .val (.int p2), .val (.int nn), .val (.int aa), .val (.int b0), .val (.int b1), .val (.int b2), .val (.ref la), .unset, .unset, .unset] [(.int (0 : Int32)), (.long q1), (.int (0 : Int32)), (.ref b22), (.ref b22)])) rfl (by rw [hml]; rfl) (argsL := [(.long q1), (.int (0 : Int32))]) (rest := [(.int (0 : Int32)), (.ref b22), (.ref b22)]) (lenOf own_pd0 rfl) rfl (by show 2 * 0 + _ ≤ _; exact Nat.le_of_eq rfl) (hb hby at_118) (fun _ _ => ⟨rfl, e22, (by decide : 2 + 0 ≤ _), (by decide : 9 + 0 ≤ _)⟩)
    dsimp only [Pt.U, Pt.locs, Pt.cells, Pt.slots] at X25 l25 y25 z25 st25 hQ25
    subst l25 y25 z25
    obtain ⟨rfl, Nq25, e25⟩ := hQ25
    have N25 := Fr.app Nj21 Nq25
    refine own_by (fun _ k => st25 _ k) ?_
    show own_G _ _ _ _ _ _ _ (T25.setTop (mkF m 121 #[.val (.int p0), .val (.long q1), .second, .val (.int p2), .val (.int nn), .val (.int aa), .val (.int b0), .val (.int b1), .val (.int b2), .val (.ref la), .unset, .unset, .unset] [(.int (own_fill q1 (0 : Int32))), (.int (0 : Int32)), (.ref b22), (.ref b22)]))
    obtain ⟨T26, h26, X26, e26, W26, A26, st26⟩ := own_stB X25 hx hZ e25 A22 (k := 0) (by decide) (by decide) (g := (mkF m 121 #[.val (.int p0), .val (.long q1), .second, .val (.int p2), .val (.int nn), .val (.int aa), .val (.int b0), .val (.int b1), .val (.int b2), .val (.ref la), .unset, .unset, .unset] [(.int (own_fill q1 (0 : Int32))), (.int (0 : Int32)), (.ref b22), (.ref b22)])) rfl rfl (hb hby at_121)
    refine own_by st26 ?_
    have F27_0 := F23_0.other W26 ne_la_b22
    have N26 := Fr.snoc X26 N25 g_b22
    have Z28 : n0 ≤ h26.size := Nat.le_trans Z24 (Nat.le_of_eq W26.size.symm)
    show own_G _ _ _ _ _ _ _ (T26.setTop (mkF m 122 #[.val (.int p0), .val (.long q1), .second, .val (.int p2), .val (.int nn), .val (.int aa), .val (.int b0), .val (.int b1), .val (.int b2), .val (.ref la), .unset, .unset, .unset] [(.ref b22)]))
    refine own_by (fun _ k => XS.dup X26.here hx rfl (hb hby at_122) rfl rfl k) ?_
    show own_G _ _ _ _ _ _ _ (T26.setTop (mkF m 123 #[.val (.int p0), .val (.long q1), .second, .val (.int p2), .val (.int nn), .val (.int aa), .val (.int b0), .val (.int b1), .val (.int b2), .val (.ref la), .unset, .unset, .unset] [(.ref b22), (.ref b22)]))
    refine own_by (fun _ k => XS.iconst X26.here hx rfl (hb hby at_123) k) ?_
    show own_G _ _ _ _ _ _ _ (T26.setTop (mkF m 124 #[.val (.int p0), .val (.long q1), .second, .val (.int p2), .val (.int nn), .val (.int aa), .val (.int b0), .val (.int b1), .val (.int b2), .val (.ref la), .unset, .unset, .unset] [(.int (1 : Int32)), (.ref b22), (.ref b22)]))
    refine own_by (fun _ k => XT.lloadN X26.here hx rfl (hb hby at_124) rfl  k) ?_
    show own_G _ _ _ _ _ _ _ (T26.setTop (mkF m 125 #[.val (.int p0), .val (.long q1), .second, .val (.int p2), .val (.int nn), .val (.int aa), .val (.int b0), .val (.int b1), .val (.int b2), .val (.ref la), .unset, .unset, .unset] [(.long q1), (.int (1 : Int32)), (.ref b22), (.ref b22)]))
    refine own_by (fun _ k => XS.iconst X26.here hx rfl (hb hby at_125) k) ?_
    show own_G _ _ _ _ _ _ _ (T26.setTop (mkF m 126 #[.val (.int p0), .val (.long q1), .second, .val (.int p2), .val (.int nn), .val (.int aa), .val (.int b0), .val (.int b1), .val (.int b2), .val (.ref la), .unset, .unset, .unset] [(.int (1 : Int32)), (.long q1), (.int (1 : Int32)), (.ref b22), (.ref b22)]))
    obtain ⟨_, _, ⟨T29, L29, k29, n29⟩, -, X29, ⟨Lc29, hQ29, l29, y29, z29⟩, st29⟩ := Jvm.LawKit.callS X26 hx (y := (⟨"com/example/keys_into_regions/keysintoregions/LiteralWritePinLaw", "fill", "(JI)B"⟩ : MethodName)) hown (mvT hZ (hw _ (List.mem_of_getElem? (i := 1) rfl))) (mvT hZ (hw _ (List.mem_of_getElem? (i := 2) rfl))) (mvT hZ (hw _ (List.mem_of_getElem? (i := 3) rfl))) (mvT hZ (hw _ (List.mem_of_getElem? (i := 4) rfl))) (by decide) (backOf (W := 3) (rm1 l Z aw hw [] q1 (1 : Int32) h26 n0 Z28 ) hZ (hw _ (List.mem_of_getElem? (i := 4) rfl)) (hw _ (List.mem_of_getElem? (i := 3) rfl)) (by decide) (by decide)) (g := (mkF m 126 #[.val (.int p0), .val (.long q1), .second, .val (.int p2), .val (.int nn), .val (.int aa), .val (.int b0), .val (.int b1), .val (.int b2), .val (.ref la), .unset, .unset, .unset] [(.int (1 : Int32)), (.long q1), (.int (1 : Int32)), (.ref b22), (.ref b22)])) rfl (by rw [hml]; rfl) (argsL := [(.long q1), (.int (1 : Int32))]) (rest := [(.int (1 : Int32)), (.ref b22), (.ref b22)]) (lenOf own_pd0 rfl) rfl (by show 2 * 0 + _ ≤ _; exact Nat.le_of_eq rfl) (hb hby at_126) (fun _ _ => ⟨rfl, e26, (by decide : 2 + 0 ≤ _), (by decide : 9 + 0 ≤ _)⟩)
    dsimp only [Pt.U, Pt.locs, Pt.cells, Pt.slots] at X29 l29 y29 z29 st29 hQ29
    subst l29 y29 z29
    obtain ⟨rfl, Nq29, e29⟩ := hQ29
    have N29 := Fr.app N26 Nq29
    refine own_by (fun _ k => st29 _ k) ?_
    show own_G _ _ _ _ _ _ _ (T29.setTop (mkF m 129 #[.val (.int p0), .val (.long q1), .second, .val (.int p2), .val (.int nn), .val (.int aa), .val (.int b0), .val (.int b1), .val (.int b2), .val (.ref la), .unset, .unset, .unset] [(.int (own_fill q1 (1 : Int32))), (.int (1 : Int32)), (.ref b22), (.ref b22)]))
    obtain ⟨T30, h30, X30, e30, W30, A30, st30⟩ := own_stB X29 hx hZ e29 A26 (k := 1) (by decide) (by decide) (g := (mkF m 129 #[.val (.int p0), .val (.long q1), .second, .val (.int p2), .val (.int nn), .val (.int aa), .val (.int b0), .val (.int b1), .val (.int b2), .val (.ref la), .unset, .unset, .unset] [(.int (own_fill q1 (1 : Int32))), (.int (1 : Int32)), (.ref b22), (.ref b22)])) rfl rfl (hb hby at_129)
    refine own_by st30 ?_
    have F31_0 := F27_0.other W30 ne_la_b22
    have N30 := Fr.snoc X30 N29 g_b22
    have Z32 : n0 ≤ h30.size := Nat.le_trans Z28 (Nat.le_of_eq W30.size.symm)
    show own_G _ _ _ _ _ _ _ (T30.setTop (mkF m 130 #[.val (.int p0), .val (.long q1), .second, .val (.int p2), .val (.int nn), .val (.int aa), .val (.int b0), .val (.int b1), .val (.int b2), .val (.ref la), .unset, .unset, .unset] [(.ref b22)]))
    refine own_by (fun _ k => XS.dup X30.here hx rfl (hb hby at_130) rfl rfl k) ?_
    show own_G _ _ _ _ _ _ _ (T30.setTop (mkF m 131 #[.val (.int p0), .val (.long q1), .second, .val (.int p2), .val (.int nn), .val (.int aa), .val (.int b0), .val (.int b1), .val (.int b2), .val (.ref la), .unset, .unset, .unset] [(.ref b22), (.ref b22)]))
    refine own_by (fun _ k => XS.iconst X30.here hx rfl (hb hby at_131) k) ?_
    show own_G _ _ _ _ _ _ _ (T30.setTop (mkF m 132 #[.val (.int p0), .val (.long q1), .second, .val (.int p2), .val (.int nn), .val (.int aa), .val (.int b0), .val (.int b1), .val (.int b2), .val (.ref la), .unset, .unset, .unset] [(.int (2 : Int32)), (.ref b22), (.ref b22)]))
    refine own_by (fun _ k => XT.lloadN X30.here hx rfl (hb hby at_132) rfl  k) ?_
    show own_G _ _ _ _ _ _ _ (T30.setTop (mkF m 133 #[.val (.int p0), .val (.long q1), .second, .val (.int p2), .val (.int nn), .val (.int aa), .val (.int b0), .val (.int b1), .val (.int b2), .val (.ref la), .unset, .unset, .unset] [(.long q1), (.int (2 : Int32)), (.ref b22), (.ref b22)]))
    refine own_by (fun _ k => XS.iconst X30.here hx rfl (hb hby at_133) k) ?_
    show own_G _ _ _ _ _ _ _ (T30.setTop (mkF m 134 #[.val (.int p0), .val (.long q1), .second, .val (.int p2), .val (.int nn), .val (.int aa), .val (.int b0), .val (.int b1), .val (.int b2), .val (.ref la), .unset, .unset, .unset] [(.int (2 : Int32)), (.long q1), (.int (2 : Int32)), (.ref b22), (.ref b22)]))
    obtain ⟨_, _, ⟨T33, L33, k33, n33⟩, -, X33, ⟨Lc33, hQ33, l33, y33, z33⟩, st33⟩ := Jvm.LawKit.callS X30 hx (y := (⟨"com/example/keys_into_regions/keysintoregions/LiteralWritePinLaw", "fill", "(JI)B"⟩ : MethodName)) hown (mvT hZ (hw _ (List.mem_of_getElem? (i := 1) rfl))) (mvT hZ (hw _ (List.mem_of_getElem? (i := 2) rfl))) (mvT hZ (hw _ (List.mem_of_getElem? (i := 3) rfl))) (mvT hZ (hw _ (List.mem_of_getElem? (i := 4) rfl))) (by decide) (backOf (W := 3) (rm1 l Z aw hw [] q1 (2 : Int32) h30 n0 Z32 ) hZ (hw _ (List.mem_of_getElem? (i := 4) rfl)) (hw _ (List.mem_of_getElem? (i := 3) rfl)) (by decide) (by decide)) (g := (mkF m 134 #[.val (.int p0), .val (.long q1), .second, .val (.int p2), .val (.int nn), .val (.int aa), .val (.int b0), .val (.int b1), .val (.int b2), .val (.ref la), .unset, .unset, .unset] [(.int (2 : Int32)), (.long q1), (.int (2 : Int32)), (.ref b22), (.ref b22)])) rfl (by rw [hml]; rfl) (argsL := [(.long q1), (.int (2 : Int32))]) (rest := [(.int (2 : Int32)), (.ref b22), (.ref b22)]) (lenOf own_pd0 rfl) rfl (by show 2 * 0 + _ ≤ _; exact Nat.le_of_eq rfl) (hb hby at_134) (fun _ _ => ⟨rfl, e30, (by decide : 2 + 0 ≤ _), (by decide : 9 + 0 ≤ _)⟩)
    dsimp only [Pt.U, Pt.locs, Pt.cells, Pt.slots] at X33 l33 y33 z33 st33 hQ33
    subst l33 y33 z33
    obtain ⟨rfl, Nq33, e33⟩ := hQ33
    have N33 := Fr.app N30 Nq33
    refine own_by (fun _ k => st33 _ k) ?_
    show own_G _ _ _ _ _ _ _ (T33.setTop (mkF m 137 #[.val (.int p0), .val (.long q1), .second, .val (.int p2), .val (.int nn), .val (.int aa), .val (.int b0), .val (.int b1), .val (.int b2), .val (.ref la), .unset, .unset, .unset] [(.int (own_fill q1 (2 : Int32))), (.int (2 : Int32)), (.ref b22), (.ref b22)]))
    obtain ⟨T34, h34, X34, e34, W34, A34, st34⟩ := own_stB X33 hx hZ e33 A30 (k := 2) (by decide) (by decide) (g := (mkF m 137 #[.val (.int p0), .val (.long q1), .second, .val (.int p2), .val (.int nn), .val (.int aa), .val (.int b0), .val (.int b1), .val (.int b2), .val (.ref la), .unset, .unset, .unset] [(.int (own_fill q1 (2 : Int32))), (.int (2 : Int32)), (.ref b22), (.ref b22)])) rfl rfl (hb hby at_137)
    refine own_by st34 ?_
    have F35_0 := F31_0.other W34 ne_la_b22
    have N34 := Fr.snoc X34 N33 g_b22
    have Z36 : n0 ≤ h34.size := Nat.le_trans Z32 (Nat.le_of_eq W34.size.symm)
    show own_G _ _ _ _ _ _ _ (T34.setTop (mkF m 138 #[.val (.int p0), .val (.long q1), .second, .val (.int p2), .val (.int nn), .val (.int aa), .val (.int b0), .val (.int b1), .val (.int b2), .val (.ref la), .unset, .unset, .unset] [(.ref b22)]))
    refine own_by (fun _ k => XS.dup X34.here hx rfl (hb hby at_138) rfl rfl k) ?_
    show own_G _ _ _ _ _ _ _ (T34.setTop (mkF m 139 #[.val (.int p0), .val (.long q1), .second, .val (.int p2), .val (.int nn), .val (.int aa), .val (.int b0), .val (.int b1), .val (.int b2), .val (.ref la), .unset, .unset, .unset] [(.ref b22), (.ref b22)]))
    refine own_by (fun _ k => XS.iconst X34.here hx rfl (hb hby at_139) k) ?_
    show own_G _ _ _ _ _ _ _ (T34.setTop (mkF m 140 #[.val (.int p0), .val (.long q1), .second, .val (.int p2), .val (.int nn), .val (.int aa), .val (.int b0), .val (.int b1), .val (.int b2), .val (.ref la), .unset, .unset, .unset] [(.int (3 : Int32)), (.ref b22), (.ref b22)]))
    refine own_by (fun _ k => XT.lloadN X34.here hx rfl (hb hby at_140) rfl  k) ?_
    show own_G _ _ _ _ _ _ _ (T34.setTop (mkF m 141 #[.val (.int p0), .val (.long q1), .second, .val (.int p2), .val (.int nn), .val (.int aa), .val (.int b0), .val (.int b1), .val (.int b2), .val (.ref la), .unset, .unset, .unset] [(.long q1), (.int (3 : Int32)), (.ref b22), (.ref b22)]))
    refine own_by (fun _ k => XS.iconst X34.here hx rfl (hb hby at_141) k) ?_
    show own_G _ _ _ _ _ _ _ (T34.setTop (mkF m 142 #[.val (.int p0), .val (.long q1), .second, .val (.int p2), .val (.int nn), .val (.int aa), .val (.int b0), .val (.int b1), .val (.int b2), .val (.ref la), .unset, .unset, .unset] [(.int (3 : Int32)), (.long q1), (.int (3 : Int32)), (.ref b22), (.ref b22)]))
    obtain ⟨_, _, ⟨T37, L37, k37, n37⟩, -, X37, ⟨Lc37, hQ37, l37, y37, z37⟩, st37⟩ := Jvm.LawKit.callS X34 hx (y := (⟨"com/example/keys_into_regions/keysintoregions/LiteralWritePinLaw", "fill", "(JI)B"⟩ : MethodName)) hown (mvT hZ (hw _ (List.mem_of_getElem? (i := 1) rfl))) (mvT hZ (hw _ (List.mem_of_getElem? (i := 2) rfl))) (mvT hZ (hw _ (List.mem_of_getElem? (i := 3) rfl))) (mvT hZ (hw _ (List.mem_of_getElem? (i := 4) rfl))) (by decide) (backOf (W := 3) (rm1 l Z aw hw [] q1 (3 : Int32) h34 n0 Z36 ) hZ (hw _ (List.mem_of_getElem? (i := 4) rfl)) (hw _ (List.mem_of_getElem? (i := 3) rfl)) (by decide) (by decide)) (g := (mkF m 142 #[.val (.int p0), .val (.long q1), .second, .val (.int p2), .val (.int nn), .val (.int aa), .val (.int b0), .val (.int b1), .val (.int b2), .val (.ref la), .unset, .unset, .unset] [(.int (3 : Int32)), (.long q1), (.int (3 : Int32)), (.ref b22), (.ref b22)])) rfl (by rw [hml]; rfl) (argsL := [(.long q1), (.int (3 : Int32))]) (rest := [(.int (3 : Int32)), (.ref b22), (.ref b22)]) (lenOf own_pd0 rfl) rfl (by show 2 * 0 + _ ≤ _; exact Nat.le_of_eq rfl) (hb hby at_142) (fun _ _ => ⟨rfl, e34, (by decide : 2 + 0 ≤ _), (by decide : 9 + 0 ≤ _)⟩)
    dsimp only [Pt.U, Pt.locs, Pt.cells, Pt.slots] at X37 l37 y37 z37 st37 hQ37
    subst l37 y37 z37
    obtain ⟨rfl, Nq37, e37⟩ := hQ37
    have N37 := Fr.app N34 Nq37
    refine own_by (fun _ k => st37 _ k) ?_
    show own_G _ _ _ _ _ _ _ (T37.setTop (mkF m 145 #[.val (.int p0), .val (.long q1), .second, .val (.int p2), .val (.int nn), .val (.int aa), .val (.int b0), .val (.int b1), .val (.int b2), .val (.ref la), .unset, .unset, .unset] [(.int (own_fill q1 (3 : Int32))), (.int (3 : Int32)), (.ref b22), (.ref b22)]))
    obtain ⟨T38, h38, X38, e38, W38, A38, st38⟩ := own_stB X37 hx hZ e37 A34 (k := 3) (by decide) (by decide) (g := (mkF m 145 #[.val (.int p0), .val (.long q1), .second, .val (.int p2), .val (.int nn), .val (.int aa), .val (.int b0), .val (.int b1), .val (.int b2), .val (.ref la), .unset, .unset, .unset] [(.int (own_fill q1 (3 : Int32))), (.int (3 : Int32)), (.ref b22), (.ref b22)])) rfl rfl (hb hby at_145)
    refine own_by st38 ?_
    have F39_0 := F35_0.other W38 ne_la_b22
    have N38 := Fr.snoc X38 N37 g_b22
    have Z40 : n0 ≤ h38.size := Nat.le_trans Z36 (Nat.le_of_eq W38.size.symm)
    show own_G _ _ _ _ _ _ _ (T38.setTop (mkF m 146 #[.val (.int p0), .val (.long q1), .second, .val (.int p2), .val (.int nn), .val (.int aa), .val (.int b0), .val (.int b1), .val (.int b2), .val (.ref la), .unset, .unset, .unset] [(.ref b22)]))
    refine own_by (fun _ k => XS.dup X38.here hx rfl (hb hby at_146) rfl rfl k) ?_
    show own_G _ _ _ _ _ _ _ (T38.setTop (mkF m 147 #[.val (.int p0), .val (.long q1), .second, .val (.int p2), .val (.int nn), .val (.int aa), .val (.int b0), .val (.int b1), .val (.int b2), .val (.ref la), .unset, .unset, .unset] [(.ref b22), (.ref b22)]))
    refine own_by (fun _ k => XS.iconst X38.here hx rfl (hb hby at_147) k) ?_
    show own_G _ _ _ _ _ _ _ (T38.setTop (mkF m 148 #[.val (.int p0), .val (.long q1), .second, .val (.int p2), .val (.int nn), .val (.int aa), .val (.int b0), .val (.int b1), .val (.int b2), .val (.ref la), .unset, .unset, .unset] [(.int (4 : Int32)), (.ref b22), (.ref b22)]))
    refine own_by (fun _ k => XT.lloadN X38.here hx rfl (hb hby at_148) rfl  k) ?_
    show own_G _ _ _ _ _ _ _ (T38.setTop (mkF m 149 #[.val (.int p0), .val (.long q1), .second, .val (.int p2), .val (.int nn), .val (.int aa), .val (.int b0), .val (.int b1), .val (.int b2), .val (.ref la), .unset, .unset, .unset] [(.long q1), (.int (4 : Int32)), (.ref b22), (.ref b22)]))
    refine own_by (fun _ k => XS.iconst X38.here hx rfl (hb hby at_149) k) ?_
    show own_G _ _ _ _ _ _ _ (T38.setTop (mkF m 150 #[.val (.int p0), .val (.long q1), .second, .val (.int p2), .val (.int nn), .val (.int aa), .val (.int b0), .val (.int b1), .val (.int b2), .val (.ref la), .unset, .unset, .unset] [(.int (4 : Int32)), (.long q1), (.int (4 : Int32)), (.ref b22), (.ref b22)]))
    obtain ⟨_, _, ⟨T41, L41, k41, n41⟩, -, X41, ⟨Lc41, hQ41, l41, y41, z41⟩, st41⟩ := Jvm.LawKit.callS X38 hx (y := (⟨"com/example/keys_into_regions/keysintoregions/LiteralWritePinLaw", "fill", "(JI)B"⟩ : MethodName)) hown (mvT hZ (hw _ (List.mem_of_getElem? (i := 1) rfl))) (mvT hZ (hw _ (List.mem_of_getElem? (i := 2) rfl))) (mvT hZ (hw _ (List.mem_of_getElem? (i := 3) rfl))) (mvT hZ (hw _ (List.mem_of_getElem? (i := 4) rfl))) (by decide) (backOf (W := 3) (rm1 l Z aw hw [] q1 (4 : Int32) h38 n0 Z40 ) hZ (hw _ (List.mem_of_getElem? (i := 4) rfl)) (hw _ (List.mem_of_getElem? (i := 3) rfl)) (by decide) (by decide)) (g := (mkF m 150 #[.val (.int p0), .val (.long q1), .second, .val (.int p2), .val (.int nn), .val (.int aa), .val (.int b0), .val (.int b1), .val (.int b2), .val (.ref la), .unset, .unset, .unset] [(.int (4 : Int32)), (.long q1), (.int (4 : Int32)), (.ref b22), (.ref b22)])) rfl (by rw [hml]; rfl) (argsL := [(.long q1), (.int (4 : Int32))]) (rest := [(.int (4 : Int32)), (.ref b22), (.ref b22)]) (lenOf own_pd0 rfl) rfl (by show 2 * 0 + _ ≤ _; exact Nat.le_of_eq rfl) (hb hby at_150) (fun _ _ => ⟨rfl, e38, (by decide : 2 + 0 ≤ _), (by decide : 9 + 0 ≤ _)⟩)
    dsimp only [Pt.U, Pt.locs, Pt.cells, Pt.slots] at X41 l41 y41 z41 st41 hQ41
    subst l41 y41 z41
    obtain ⟨rfl, Nq41, e41⟩ := hQ41
    have N41 := Fr.app N38 Nq41
    refine own_by (fun _ k => st41 _ k) ?_
    show own_G _ _ _ _ _ _ _ (T41.setTop (mkF m 153 #[.val (.int p0), .val (.long q1), .second, .val (.int p2), .val (.int nn), .val (.int aa), .val (.int b0), .val (.int b1), .val (.int b2), .val (.ref la), .unset, .unset, .unset] [(.int (own_fill q1 (4 : Int32))), (.int (4 : Int32)), (.ref b22), (.ref b22)]))
    obtain ⟨T42, h42, X42, e42, W42, A42, st42⟩ := own_stB X41 hx hZ e41 A38 (k := 4) (by decide) (by decide) (g := (mkF m 153 #[.val (.int p0), .val (.long q1), .second, .val (.int p2), .val (.int nn), .val (.int aa), .val (.int b0), .val (.int b1), .val (.int b2), .val (.ref la), .unset, .unset, .unset] [(.int (own_fill q1 (4 : Int32))), (.int (4 : Int32)), (.ref b22), (.ref b22)])) rfl rfl (hb hby at_153)
    refine own_by st42 ?_
    have F43_0 := F39_0.other W42 ne_la_b22
    have N42 := Fr.snoc X42 N41 g_b22
    have Z44 : n0 ≤ h42.size := Nat.le_trans Z40 (Nat.le_of_eq W42.size.symm)
    show own_G _ _ _ _ _ _ _ (T42.setTop (mkF m 154 #[.val (.int p0), .val (.long q1), .second, .val (.int p2), .val (.int nn), .val (.int aa), .val (.int b0), .val (.int b1), .val (.int b2), .val (.ref la), .unset, .unset, .unset] [(.ref b22)]))
    refine own_by (fun _ k => XS.dup X42.here hx rfl (hb hby at_154) rfl rfl k) ?_
    show own_G _ _ _ _ _ _ _ (T42.setTop (mkF m 155 #[.val (.int p0), .val (.long q1), .second, .val (.int p2), .val (.int nn), .val (.int aa), .val (.int b0), .val (.int b1), .val (.int b2), .val (.ref la), .unset, .unset, .unset] [(.ref b22), (.ref b22)]))
    refine own_by (fun _ k => XS.iconst X42.here hx rfl (hb hby at_155) k) ?_
    show own_G _ _ _ _ _ _ _ (T42.setTop (mkF m 156 #[.val (.int p0), .val (.long q1), .second, .val (.int p2), .val (.int nn), .val (.int aa), .val (.int b0), .val (.int b1), .val (.int b2), .val (.ref la), .unset, .unset, .unset] [(.int (5 : Int32)), (.ref b22), (.ref b22)]))
    refine own_by (fun _ k => XT.lloadN X42.here hx rfl (hb hby at_156) rfl  k) ?_
    show own_G _ _ _ _ _ _ _ (T42.setTop (mkF m 157 #[.val (.int p0), .val (.long q1), .second, .val (.int p2), .val (.int nn), .val (.int aa), .val (.int b0), .val (.int b1), .val (.int b2), .val (.ref la), .unset, .unset, .unset] [(.long q1), (.int (5 : Int32)), (.ref b22), (.ref b22)]))
    refine own_by (fun _ k => XS.iconst X42.here hx rfl (hb hby at_157) k) ?_
    show own_G _ _ _ _ _ _ _ (T42.setTop (mkF m 158 #[.val (.int p0), .val (.long q1), .second, .val (.int p2), .val (.int nn), .val (.int aa), .val (.int b0), .val (.int b1), .val (.int b2), .val (.ref la), .unset, .unset, .unset] [(.int (5 : Int32)), (.long q1), (.int (5 : Int32)), (.ref b22), (.ref b22)]))
    obtain ⟨_, _, ⟨T45, L45, k45, n45⟩, -, X45, ⟨Lc45, hQ45, l45, y45, z45⟩, st45⟩ := Jvm.LawKit.callS X42 hx (y := (⟨"com/example/keys_into_regions/keysintoregions/LiteralWritePinLaw", "fill", "(JI)B"⟩ : MethodName)) hown (mvT hZ (hw _ (List.mem_of_getElem? (i := 1) rfl))) (mvT hZ (hw _ (List.mem_of_getElem? (i := 2) rfl))) (mvT hZ (hw _ (List.mem_of_getElem? (i := 3) rfl))) (mvT hZ (hw _ (List.mem_of_getElem? (i := 4) rfl))) (by decide) (backOf (W := 3) (rm1 l Z aw hw [] q1 (5 : Int32) h42 n0 Z44 ) hZ (hw _ (List.mem_of_getElem? (i := 4) rfl)) (hw _ (List.mem_of_getElem? (i := 3) rfl)) (by decide) (by decide)) (g := (mkF m 158 #[.val (.int p0), .val (.long q1), .second, .val (.int p2), .val (.int nn), .val (.int aa), .val (.int b0), .val (.int b1), .val (.int b2), .val (.ref la), .unset, .unset, .unset] [(.int (5 : Int32)), (.long q1), (.int (5 : Int32)), (.ref b22), (.ref b22)])) rfl (by rw [hml]; rfl) (argsL := [(.long q1), (.int (5 : Int32))]) (rest := [(.int (5 : Int32)), (.ref b22), (.ref b22)]) (lenOf own_pd0 rfl) rfl (by show 2 * 0 + _ ≤ _; exact Nat.le_of_eq rfl) (hb hby at_158) (fun _ _ => ⟨rfl, e42, (by decide : 2 + 0 ≤ _), (by decide : 9 + 0 ≤ _)⟩)
    dsimp only [Pt.U, Pt.locs, Pt.cells, Pt.slots] at X45 l45 y45 z45 st45 hQ45
    subst l45 y45 z45
    obtain ⟨rfl, Nq45, e45⟩ := hQ45
    have N45 := Fr.app N42 Nq45
    refine own_by (fun _ k => st45 _ k) ?_
    show own_G _ _ _ _ _ _ _ (T45.setTop (mkF m 161 #[.val (.int p0), .val (.long q1), .second, .val (.int p2), .val (.int nn), .val (.int aa), .val (.int b0), .val (.int b1), .val (.int b2), .val (.ref la), .unset, .unset, .unset] [(.int (own_fill q1 (5 : Int32))), (.int (5 : Int32)), (.ref b22), (.ref b22)]))
    obtain ⟨T46, h46, X46, e46, W46, A46, st46⟩ := own_stB X45 hx hZ e45 A42 (k := 5) (by decide) (by decide) (g := (mkF m 161 #[.val (.int p0), .val (.long q1), .second, .val (.int p2), .val (.int nn), .val (.int aa), .val (.int b0), .val (.int b1), .val (.int b2), .val (.ref la), .unset, .unset, .unset] [(.int (own_fill q1 (5 : Int32))), (.int (5 : Int32)), (.ref b22), (.ref b22)])) rfl rfl (hb hby at_161)
    refine own_by st46 ?_
    have F47_0 := F43_0.other W46 ne_la_b22
    have N46 := Fr.snoc X46 N45 g_b22
    have Z48 : n0 ≤ h46.size := Nat.le_trans Z44 (Nat.le_of_eq W46.size.symm)
    show own_G _ _ _ _ _ _ _ (T46.setTop (mkF m 162 #[.val (.int p0), .val (.long q1), .second, .val (.int p2), .val (.int nn), .val (.int aa), .val (.int b0), .val (.int b1), .val (.int b2), .val (.ref la), .unset, .unset, .unset] [(.ref b22)]))
    refine own_by (fun _ k => XS.astore X46.here hx rfl (hb hby at_162) rfl rfl (l' := #[.val (.int p0), .val (.long q1), .second, .val (.int p2), .val (.int nn), .val (.int aa), .val (.int b0), .val (.int b1), .val (.int b2), .val (.ref la), .val (.ref b22), .unset, .unset]) rfl k) ?_
    show own_G _ _ _ _ _ _ _ (T46.setTop (mkF m 164 #[.val (.int p0), .val (.long q1), .second, .val (.int p2), .val (.int nn), .val (.int aa), .val (.int b0), .val (.int b1), .val (.int b2), .val (.ref la), .val (.ref b22), .unset, .unset] []))
    have VK : own_AB Z h46 b22 6 (own_fk q1) := A46.cast (fun k hk => by
      match k, hk with
      | 0, _ => simp [own_upd, own_fk] <;> rfl
      | 1, _ => simp [own_upd, own_fk] <;> rfl
      | 2, _ => simp [own_upd, own_fk] <;> rfl
      | 3, _ => simp [own_upd, own_fk] <;> rfl
      | 4, _ => simp [own_upd, own_fk] <;> rfl
      | 5, _ => simp [own_upd, own_fk] <;> rfl)
    obtain ⟨T49, h49, X49, e49, E49, A49, D49, -, st49⟩ := newO X46 hx hZ hown (hw _ (List.mem_of_getElem? (i := 5) rfl)) (hw _ (List.mem_of_getElem? (i := 6) rfl)) (hw _ (List.mem_of_getElem? (i := 7) rfl)) e46 (g := (mkF m 164 #[.val (.int p0), .val (.long q1), .second, .val (.int p2), .val (.int nn), .val (.int aa), .val (.int b0), .val (.int b1), .val (.int b2), .val (.ref la), .val (.ref b22), .unset, .unset] [])) rfl (hb hby at_164) (by decide) (by decide)
    obtain ⟨b49, g49⟩ : ∃ z, z = h46.size := ⟨_, rfl⟩
    rw [← g49] at A49 D49 st49
    have ne_la_b49 : la ≠ b49 := Nat.ne_of_lt (Nat.lt_of_lt_of_le F47_0.lt (Nat.le_of_eq g49.symm))
    have ne_b22_b49 : b22 ≠ b49 := Nat.ne_of_lt (Nat.lt_of_lt_of_le VK.lt (Nat.le_of_eq g49.symm))
    have g_b49 : n0 ≤ b49 := Nat.le_trans Z48 (Nat.le_of_eq g49.symm)
    refine own_by st49 ?_
    have F50_0 := F47_0.ext E49
    have F50_1 := VK.ext E49
    have Z51 : n0 ≤ h49.size := Nat.le_trans Z48 E49.1
    have F49_bytes : Fld Z h49 b49 "com/example/keys_into_regions/keysintoregions/KeyPart$Literal" "bytes" "[B" .null := D49 (Or.inr (hw _ (List.mem_of_getElem? (i := 20) rfl))) (ty := (.array .byte)) (by decide)
    show own_G _ _ _ _ _ _ _ (T49.setTop (mkF m 167 #[.val (.int p0), .val (.long q1), .second, .val (.int p2), .val (.int nn), .val (.int aa), .val (.int b0), .val (.int b1), .val (.int b2), .val (.ref la), .val (.ref b22), .unset, .unset] [(.ref b49)]))
    refine own_by (fun _ k => XS.dup X49.here hx rfl (hb hby at_167) rfl rfl k) ?_
    show own_G _ _ _ _ _ _ _ (T49.setTop (mkF m 168 #[.val (.int p0), .val (.long q1), .second, .val (.int p2), .val (.int nn), .val (.int aa), .val (.int b0), .val (.int b1), .val (.int b2), .val (.ref la), .val (.ref b22), .unset, .unset] [(.ref b49), (.ref b49)]))
    refine own_by (fun _ k => XS.aload X49.here hx rfl (hb hby at_168) rfl rfl k) ?_
    show own_G _ _ _ _ _ _ _ (T49.setTop (mkF m 170 #[.val (.int p0), .val (.long q1), .second, .val (.int p2), .val (.int nn), .val (.int aa), .val (.int b0), .val (.int b1), .val (.int b2), .val (.ref la), .val (.ref b22), .unset, .unset] [(.ref la), (.ref b49), (.ref b49)]))
    obtain ⟨_, _, ⟨T52, L52, k52, n52⟩, -, X52, ⟨Lc52, hQ52, l52, y52, z52⟩, st52⟩ := X49.specialBack hx (y := (⟨"com/example/keys_into_regions/keysintoregions/KeyPart$Literal", "<init>", "([B)V"⟩ : MethodName)) rfl hown (mvT hZ (hw _ (List.mem_of_getElem? (i := 8) rfl))) (mvT hZ (hw _ (List.mem_of_getElem? (i := 9) rfl))) (mvT hZ (hw _ (List.mem_of_getElem? (i := 10) rfl))) (by decide) (backOf (W := 1) (rm4 l Z aw hw [] b49 la h49 n0 Z51 A49 F49_bytes g_b49) hZ (hw _ (List.mem_of_getElem? (i := 10) rfl)) (hw _ (List.mem_of_getElem? (i := 7) rfl)) (by decide) (by decide)) (g := (mkF m 170 #[.val (.int p0), .val (.long q1), .second, .val (.int p2), .val (.int nn), .val (.int aa), .val (.int b0), .val (.int b1), .val (.int b2), .val (.ref la), .val (.ref b22), .unset, .unset] [(.ref la), (.ref b49), (.ref b49)])) rfl (by rw [hml]; rfl) (Steps.refl _) (a := b49) (argsL := [(.ref la)]) (rest := [(.ref b49)]) (lenOf own_pd3 rfl) rfl (by show 2 * 0 + _ ≤ _; exact Nat.le_of_eq rfl) (hb hby at_170) (fun _ _ => ⟨rfl, e49, (by decide : 3 + 0 ≤ _), (by decide : 10 + 0 ≤ _)⟩)
    dsimp only [Pt.U, Pt.locs, Pt.cells, Pt.slots] at X52 l52 y52 z52 st52 hQ52
    subst l52 y52 z52
    obtain ⟨h52, e52⟩ : ∃ h, T52.heap = h := ⟨_, rfl⟩
    rw [e52] at hQ52
    obtain ⟨rfl, Nq52, K52, E52, G52_0⟩ := hQ52
    have N52 := Fr.app N46 Nq52
    have F53_0 := F50_0.keep K52 (ninS ne_la_b49 nin0)
    have F53_1 := F50_1.keep K52 (ninS ne_b22_b49 nin0)
    have F53_2 := A49.keep K52
    have Z54 : n0 ≤ h52.size := Nat.le_trans Z51 K52.1
    refine own_by (fun _ k => st52.trans k) ?_
    show own_G _ _ _ _ _ _ _ (T52.setTop (mkF m 173 #[.val (.int p0), .val (.long q1), .second, .val (.int p2), .val (.int nn), .val (.int aa), .val (.int b0), .val (.int b1), .val (.int b2), .val (.ref la), .val (.ref b22), .unset, .unset] [(.ref b49)]))
    refine own_by (fun _ k => XS.astore X52.here hx rfl (hb hby at_173) rfl rfl (l' := #[.val (.int p0), .val (.long q1), .second, .val (.int p2), .val (.int nn), .val (.int aa), .val (.int b0), .val (.int b1), .val (.int b2), .val (.ref la), .val (.ref b22), .val (.ref b49), .unset]) rfl k) ?_
    show own_G _ _ _ _ _ _ _ (T52.setTop (mkF m 175 #[.val (.int p0), .val (.long q1), .second, .val (.int p2), .val (.int nn), .val (.int aa), .val (.int b0), .val (.int b1), .val (.int b2), .val (.ref la), .val (.ref b22), .val (.ref b49), .unset] []))
    refine own_by (fun _ k => XS.aload X52.here hx rfl (hb hby at_175) rfl rfl k) ?_
    show own_G _ _ _ _ _ _ _ (T52.setTop (mkF m 177 #[.val (.int p0), .val (.long q1), .second, .val (.int p2), .val (.int nn), .val (.int aa), .val (.int b0), .val (.int b1), .val (.int b2), .val (.ref la), .val (.ref b22), .val (.ref b49), .unset] [(.ref b49)]))
    refine own_by (fun _ k => XS.aconstNull X52.here hx rfl (hb hby at_177) k) ?_
    show own_G _ _ _ _ _ _ _ (T52.setTop (mkF m 178 #[.val (.int p0), .val (.long q1), .second, .val (.int p2), .val (.int nn), .val (.int aa), .val (.int b0), .val (.int b1), .val (.int b2), .val (.ref la), .val (.ref b22), .val (.ref b49), .unset] [.null, (.ref b49)]))
    refine own_by (fun _ k => XS.aload X52.here hx rfl (hb hby at_178) rfl rfl k) ?_
    show own_G _ _ _ _ _ _ _ (T52.setTop (mkF m 180 #[.val (.int p0), .val (.long q1), .second, .val (.int p2), .val (.int nn), .val (.int aa), .val (.int b0), .val (.int b1), .val (.int b2), .val (.ref la), .val (.ref b22), .val (.ref b49), .unset] [(.ref b22), .null, (.ref b49)]))
    refine own_by (fun _ k => XS.iload X52.here hx rfl (hb hby at_180) rfl  k) ?_
    show own_G _ _ _ _ _ _ _ (T52.setTop (mkF m 182 #[.val (.int p0), .val (.long q1), .second, .val (.int p2), .val (.int nn), .val (.int aa), .val (.int b0), .val (.int b1), .val (.int b2), .val (.ref la), .val (.ref b22), .val (.ref b49), .unset] [(.int aa), (.ref b22), .null, (.ref b49)]))
    obtain ⟨cq55, kq55, q55a, q55b, q55c⟩ := isOf hZ e52 E52
    obtain ⟨_, _, ⟨T55, L55, k55, n55⟩, -, X55, ⟨Lc55, hQ55, l55, y55, z55⟩, st55⟩ := X52.virtualBack hx (y := (⟨"com/example/keys_into_regions/keysintoregions/KeyPart$Literal", "write", "(Lcom/example/keys_into_regions/keysintoregions/RecordFields;[BI)I"⟩ : MethodName)) (z := (⟨"com/example/keys_into_regions/keysintoregions/KeyPart$Literal", "write", "(Lcom/example/keys_into_regions/keysintoregions/RecordFields;[BI)I"⟩ : MethodName)) hown (mvT hZ (hw _ (List.mem_of_getElem? (i := 21) rfl))) (mvT hZ (hw _ (List.mem_of_getElem? (i := 22) rfl))) (notFace_of_selects (args := #[]) (mvT hZ (hw _ (List.mem_of_getElem? (i := 24) rfl)))) (mvT hZ (hw _ (List.mem_of_getElem? (i := 24) rfl))) (mvT hZ (hw _ (List.mem_of_getElem? (i := 23) rfl))) (by decide) (backOf (W := 0) (rm5 l Z aw hw [] b49 b22 aa la nn N D Fl (own_fk q1) h52 n0 Z54 G52_0 F53_0 F53_1 g_b22 (Ne.symm ne_b22_b49) ne_la_b22 hN hD hle (fun k hk => by rw [hFl k hk]; exact own_litfit _ _ _ _) (fun k _ => own_narfit _)) hZ (hw _ (List.mem_of_getElem? (i := 25) rfl)) (hw _ (List.mem_of_getElem? (i := 7) rfl)) (by decide) (by decide)) q55a q55c (g := (mkF m 182 #[.val (.int p0), .val (.long q1), .second, .val (.int p2), .val (.int nn), .val (.int aa), .val (.int b0), .val (.int b1), .val (.int b2), .val (.ref la), .val (.ref b22), .val (.ref b49), .unset] [(.int aa), (.ref b22), .null, (.ref b49)])) rfl (by rw [hml]; rfl) (Steps.refl _) (argsL := [.null, (.ref b22), (.int aa)]) (rest := []) (lenOf own_pd4 rfl) rfl (by show 2 * 0 + _ ≤ _; exact Nat.le_of_eq rfl) (hb hby at_182) (fun _ _ => ⟨rfl, e52, (by decide : 3 + 0 ≤ _), (by decide : 10 + 0 ≤ _)⟩)
    dsimp only [Pt.U, Pt.locs, Pt.cells, Pt.slots] at X55 l55 y55 z55 st55 hQ55
    subst l55 y55 z55
    obtain ⟨h55, e55⟩ : ∃ h, T55.heap = h := ⟨_, rfl⟩
    rw [e55] at hQ55
    obtain ⟨rfl, Nq55, K55, V55⟩ := hQ55
    have N55 := Fr.app N52 Nq55
    have F56_0 := F53_0.keep K55 (ninS ne_la_b22 nin0)
    have F56_2 := E52.keep K55
    have F56_3 := G52_0.keep K55 (ninS (Ne.symm ne_b22_b49) nin0)
    have Z57 : n0 ≤ h55.size := Nat.le_trans Z54 K55.1
    refine own_by (fun _ k => st55.trans k) ?_
    show own_G _ _ _ _ _ _ _ (T55.setTop (mkF m 185 #[.val (.int p0), .val (.long q1), .second, .val (.int p2), .val (.int nn), .val (.int aa), .val (.int b0), .val (.int b1), .val (.int b2), .val (.ref la), .val (.ref b22), .val (.ref b49), .unset] [(.int (aa + nn))]))
    refine own_by (fun _ k => XS.istore X55.here hx rfl (hb hby at_185) rfl (l' := #[.val (.int p0), .val (.long q1), .second, .val (.int p2), .val (.int nn), .val (.int aa), .val (.int b0), .val (.int b1), .val (.int b2), .val (.ref la), .val (.ref b22), .val (.ref b49), .val (.int (aa + nn))]) rfl k) ?_
    exact J187 h55 Z57 T55 _ X55 N55 e55 la b22 b49 Fl V55 hFl
  show own_G _ _ _ _ _ _ _ (s₁.setTop (mkF m 34 #[.val (.int p0), .val (.long q1), .second, .val (.int p2), .val (.int nn), .val (.int aa), .val (.int b0), .val (.int b1), .val (.int b2), .unset, .unset, .unset, .unset] []))
  refine own_by (fun _ k => XS.iload X0.here hx rfl (hb hby at_34) rfl  k) ?_
  show own_G _ _ _ _ _ _ _ (s₁.setTop (mkF m 36 #[.val (.int p0), .val (.long q1), .second, .val (.int p2), .val (.int nn), .val (.int aa), .val (.int b0), .val (.int b1), .val (.int b2), .unset, .unset, .unset, .unset] [(.int nn)]))
  by_cases hc36 : nn = (0 : Int32)
  · refine own_by (fun _ k => XS.ifNo X0.here hx rfl (hb hby at_36) rfl (XT.i0_ne_f hc36) k) ?_
    show own_G _ _ _ _ _ _ _ (s₁.setTop (mkF m 39 #[.val (.int p0), .val (.long q1), .second, .val (.int p2), .val (.int nn), .val (.int aa), .val (.int b0), .val (.int b1), .val (.int b2), .unset, .unset, .unset, .unset] []))
    refine own_by (fun _ k => XS.iconst X0.here hx rfl (hb hby at_39) k) ?_
    show own_G _ _ _ _ _ _ _ (s₁.setTop (mkF m 40 #[.val (.int p0), .val (.long q1), .second, .val (.int p2), .val (.int nn), .val (.int aa), .val (.int b0), .val (.int b1), .val (.int b2), .unset, .unset, .unset, .unset] [(.int (0 : Int32))]))
    obtain ⟨T58, h58, X58, e58, E58, A58, st58⟩ := own_newB X0 hx hZ (hw _ (List.mem_of_getElem? (i := 0) rfl)) e0 (g := (mkF m 40 #[.val (.int p0), .val (.long q1), .second, .val (.int p2), .val (.int nn), .val (.int aa), .val (.int b0), .val (.int b1), .val (.int b2), .unset, .unset, .unset, .unset] [(.int (0 : Int32))])) rfl (hb hby at_40) rfl (N := 0) (by decide) (cap := 3) (by decide) (by decide) (by decide) (by decide)
    obtain ⟨b58, g58⟩ : ∃ z, z = h0.size := ⟨_, rfl⟩
    rw [← g58] at A58 st58
    have g_b58 : n0 ≤ b58 := Nat.le_trans Z0 (Nat.le_of_eq g58.symm)
    refine own_by st58 ?_
    have Z60 : n0 ≤ h58.size := Nat.le_trans Z0 E58.1
    show own_G _ _ _ _ _ _ _ (T58.setTop (mkF m 42 #[.val (.int p0), .val (.long q1), .second, .val (.int p2), .val (.int nn), .val (.int aa), .val (.int b0), .val (.int b1), .val (.int b2), .unset, .unset, .unset, .unset] [(.ref b58)]))
    refine own_by (fun _ k => XS.astore X58.here hx rfl (hb hby at_42) rfl rfl (l' := #[.val (.int p0), .val (.long q1), .second, .val (.int p2), .val (.int nn), .val (.int aa), .val (.int b0), .val (.int b1), .val (.int b2), .val (.ref b58), .unset, .unset, .unset]) rfl k) ?_
    show own_G _ _ _ _ _ _ _ (T58.setTop (mkF m 44 #[.val (.int p0), .val (.long q1), .second, .val (.int p2), .val (.int nn), .val (.int aa), .val (.int b0), .val (.int b1), .val (.int b2), .val (.ref b58), .unset, .unset, .unset] []))
    refine own_by (fun _ k => XS.goto X58.here hx rfl (pc0 := 44) (pc' := 110) rfl (hb hby at_44) (by decide) (by decide) k) ?_
    exact J110 h58 Z60 T58 _ X58 N0 e58 b58 (fun _ => 0) (A58.len (by have e := congrArg Int32.toInt hc36; rw [hN, show (0 : Int32).toInt = 0 by decide] at e; omega)) (fun j hj => absurd hj (by have e : 0 = N := ((by have e := congrArg Int32.toInt hc36; rw [hN, show (0 : Int32).toInt = 0 by decide] at e; omega)); omega))
  · refine own_by (fun _ k => XS.ifYes X0.here hx rfl (pc0 := 36) (pc' := 47) rfl (hb hby at_36) rfl (XT.i0_ne_t hc36) (by decide) (by decide) k) ?_
    show own_G _ _ _ _ _ _ _ (s₁.setTop (mkF m 47 #[.val (.int p0), .val (.long q1), .second, .val (.int p2), .val (.int nn), .val (.int aa), .val (.int b0), .val (.int b1), .val (.int b2), .unset, .unset, .unset, .unset] []))
    refine own_by (fun _ k => XS.iload X0.here hx rfl (hb hby at_47) rfl  k) ?_
    show own_G _ _ _ _ _ _ _ (s₁.setTop (mkF m 49 #[.val (.int p0), .val (.long q1), .second, .val (.int p2), .val (.int nn), .val (.int aa), .val (.int b0), .val (.int b1), .val (.int b2), .unset, .unset, .unset, .unset] [(.int nn)]))
    refine own_by (fun _ k => XS.iconst X0.here hx rfl (hb hby at_49) k) ?_
    show own_G _ _ _ _ _ _ _ (s₁.setTop (mkF m 50 #[.val (.int p0), .val (.long q1), .second, .val (.int p2), .val (.int nn), .val (.int aa), .val (.int b0), .val (.int b1), .val (.int b2), .unset, .unset, .unset, .unset] [(.int (1 : Int32)), (.int nn)]))
    by_cases hc50 : nn = (1 : Int32)
    · refine own_by (fun _ k => XS.icmpNo X0.here hx rfl (hb hby at_50) rfl (XT.ii_ne_f hc50) k) ?_
      show own_G _ _ _ _ _ _ _ (s₁.setTop (mkF m 53 #[.val (.int p0), .val (.long q1), .second, .val (.int p2), .val (.int nn), .val (.int aa), .val (.int b0), .val (.int b1), .val (.int b2), .unset, .unset, .unset, .unset] []))
      refine own_by (fun _ k => XS.iconst X0.here hx rfl (hb hby at_53) k) ?_
      show own_G _ _ _ _ _ _ _ (s₁.setTop (mkF m 54 #[.val (.int p0), .val (.long q1), .second, .val (.int p2), .val (.int nn), .val (.int aa), .val (.int b0), .val (.int b1), .val (.int b2), .unset, .unset, .unset, .unset] [(.int (1 : Int32))]))
      obtain ⟨T61, h61, X61, e61, E61, A61, st61⟩ := own_newB X0 hx hZ (hw _ (List.mem_of_getElem? (i := 0) rfl)) e0 (g := (mkF m 54 #[.val (.int p0), .val (.long q1), .second, .val (.int p2), .val (.int nn), .val (.int aa), .val (.int b0), .val (.int b1), .val (.int b2), .unset, .unset, .unset, .unset] [(.int (1 : Int32))])) rfl (hb hby at_54) rfl (N := 1) (by decide) (cap := 3) (by decide) (by decide) (by decide) (by decide)
      obtain ⟨b61, g61⟩ : ∃ z, z = h0.size := ⟨_, rfl⟩
      rw [← g61] at A61 st61
      have g_b61 : n0 ≤ b61 := Nat.le_trans Z0 (Nat.le_of_eq g61.symm)
      refine own_by st61 ?_
      have Z63 : n0 ≤ h61.size := Nat.le_trans Z0 E61.1
      show own_G _ _ _ _ _ _ _ (T61.setTop (mkF m 56 #[.val (.int p0), .val (.long q1), .second, .val (.int p2), .val (.int nn), .val (.int aa), .val (.int b0), .val (.int b1), .val (.int b2), .unset, .unset, .unset, .unset] [(.ref b61)]))
      refine own_by (fun _ k => XS.dup X61.here hx rfl (hb hby at_56) rfl rfl k) ?_
      show own_G _ _ _ _ _ _ _ (T61.setTop (mkF m 57 #[.val (.int p0), .val (.long q1), .second, .val (.int p2), .val (.int nn), .val (.int aa), .val (.int b0), .val (.int b1), .val (.int b2), .unset, .unset, .unset, .unset] [(.ref b61), (.ref b61)]))
      refine own_by (fun _ k => XS.iconst X61.here hx rfl (hb hby at_57) k) ?_
      show own_G _ _ _ _ _ _ _ (T61.setTop (mkF m 58 #[.val (.int p0), .val (.long q1), .second, .val (.int p2), .val (.int nn), .val (.int aa), .val (.int b0), .val (.int b1), .val (.int b2), .unset, .unset, .unset, .unset] [(.int (0 : Int32)), (.ref b61), (.ref b61)]))
      refine own_by (fun _ k => XS.iload X61.here hx rfl (hb hby at_58) rfl  k) ?_
      show own_G _ _ _ _ _ _ _ (T61.setTop (mkF m 60 #[.val (.int p0), .val (.long q1), .second, .val (.int p2), .val (.int nn), .val (.int aa), .val (.int b0), .val (.int b1), .val (.int b2), .unset, .unset, .unset, .unset] [(.int b0), (.int (0 : Int32)), (.ref b61), (.ref b61)]))
      obtain ⟨T64, h64, X64, e64, W64, A64, st64⟩ := own_stB X61 hx hZ e61 A61 (k := 0) (by decide) (by decide) (g := (mkF m 60 #[.val (.int p0), .val (.long q1), .second, .val (.int p2), .val (.int nn), .val (.int aa), .val (.int b0), .val (.int b1), .val (.int b2), .unset, .unset, .unset, .unset] [(.int b0), (.int (0 : Int32)), (.ref b61), (.ref b61)])) rfl rfl (hb hby at_60)
      refine own_by st64 ?_
      have N64 := Fr.snoc X64 N0 g_b61
      have Z66 : n0 ≤ h64.size := Nat.le_trans Z63 (Nat.le_of_eq W64.size.symm)
      show own_G _ _ _ _ _ _ _ (T64.setTop (mkF m 61 #[.val (.int p0), .val (.long q1), .second, .val (.int p2), .val (.int nn), .val (.int aa), .val (.int b0), .val (.int b1), .val (.int b2), .unset, .unset, .unset, .unset] [(.ref b61)]))
      refine own_by (fun _ k => XS.astore X64.here hx rfl (hb hby at_61) rfl rfl (l' := #[.val (.int p0), .val (.long q1), .second, .val (.int p2), .val (.int nn), .val (.int aa), .val (.int b0), .val (.int b1), .val (.int b2), .val (.ref b61), .unset, .unset, .unset]) rfl k) ?_
      show own_G _ _ _ _ _ _ _ (T64.setTop (mkF m 63 #[.val (.int p0), .val (.long q1), .second, .val (.int p2), .val (.int nn), .val (.int aa), .val (.int b0), .val (.int b1), .val (.int b2), .val (.ref b61), .unset, .unset, .unset] []))
      refine own_by (fun _ k => XS.goto X64.here hx rfl (pc0 := 63) (pc' := 110) rfl (hb hby at_63) (by decide) (by decide) k) ?_
      exact J110 h64 Z66 T64 _ X64 N64 e64 b61 (own_upd (fun _ => 0) 0 (nar .byte b0)) (A64.len (by have e := congrArg Int32.toInt hc50; rw [hN, show (1 : Int32).toInt = 1 by decide] at e; omega)) (fun j hj => by
        have e : 1 = N := (by have e := congrArg Int32.toInt hc50; rw [hN, show (1 : Int32).toInt = 1 by decide] at e; omega)
        have hj' : j < 1 := by omega
        match j, hj' with
        | 0, _ => simp [own_upd, own_lit])
    · refine own_by (fun _ k => XS.icmpYes X0.here hx rfl (pc0 := 50) (pc' := 66) rfl (hb hby at_50) rfl (XT.ii_ne_t hc50) (by decide) (by decide) k) ?_
      show own_G _ _ _ _ _ _ _ (s₁.setTop (mkF m 66 #[.val (.int p0), .val (.long q1), .second, .val (.int p2), .val (.int nn), .val (.int aa), .val (.int b0), .val (.int b1), .val (.int b2), .unset, .unset, .unset, .unset] []))
      refine own_by (fun _ k => XS.iload X0.here hx rfl (hb hby at_66) rfl  k) ?_
      show own_G _ _ _ _ _ _ _ (s₁.setTop (mkF m 68 #[.val (.int p0), .val (.long q1), .second, .val (.int p2), .val (.int nn), .val (.int aa), .val (.int b0), .val (.int b1), .val (.int b2), .unset, .unset, .unset, .unset] [(.int nn)]))
      refine own_by (fun _ k => XS.iconst X0.here hx rfl (hb hby at_68) k) ?_
      show own_G _ _ _ _ _ _ _ (s₁.setTop (mkF m 69 #[.val (.int p0), .val (.long q1), .second, .val (.int p2), .val (.int nn), .val (.int aa), .val (.int b0), .val (.int b1), .val (.int b2), .unset, .unset, .unset, .unset] [(.int (2 : Int32)), (.int nn)]))
      by_cases hc69 : nn = (2 : Int32)
      · refine own_by (fun _ k => XS.icmpNo X0.here hx rfl (hb hby at_69) rfl (XT.ii_ne_f hc69) k) ?_
        show own_G _ _ _ _ _ _ _ (s₁.setTop (mkF m 72 #[.val (.int p0), .val (.long q1), .second, .val (.int p2), .val (.int nn), .val (.int aa), .val (.int b0), .val (.int b1), .val (.int b2), .unset, .unset, .unset, .unset] []))
        refine own_by (fun _ k => XS.iconst X0.here hx rfl (hb hby at_72) k) ?_
        show own_G _ _ _ _ _ _ _ (s₁.setTop (mkF m 73 #[.val (.int p0), .val (.long q1), .second, .val (.int p2), .val (.int nn), .val (.int aa), .val (.int b0), .val (.int b1), .val (.int b2), .unset, .unset, .unset, .unset] [(.int (2 : Int32))]))
        obtain ⟨T67, h67, X67, e67, E67, A67, st67⟩ := own_newB X0 hx hZ (hw _ (List.mem_of_getElem? (i := 0) rfl)) e0 (g := (mkF m 73 #[.val (.int p0), .val (.long q1), .second, .val (.int p2), .val (.int nn), .val (.int aa), .val (.int b0), .val (.int b1), .val (.int b2), .unset, .unset, .unset, .unset] [(.int (2 : Int32))])) rfl (hb hby at_73) rfl (N := 2) (by decide) (cap := 3) (by decide) (by decide) (by decide) (by decide)
        obtain ⟨b67, g67⟩ : ∃ z, z = h0.size := ⟨_, rfl⟩
        rw [← g67] at A67 st67
        have g_b67 : n0 ≤ b67 := Nat.le_trans Z0 (Nat.le_of_eq g67.symm)
        refine own_by st67 ?_
        have Z69 : n0 ≤ h67.size := Nat.le_trans Z0 E67.1
        show own_G _ _ _ _ _ _ _ (T67.setTop (mkF m 75 #[.val (.int p0), .val (.long q1), .second, .val (.int p2), .val (.int nn), .val (.int aa), .val (.int b0), .val (.int b1), .val (.int b2), .unset, .unset, .unset, .unset] [(.ref b67)]))
        refine own_by (fun _ k => XS.dup X67.here hx rfl (hb hby at_75) rfl rfl k) ?_
        show own_G _ _ _ _ _ _ _ (T67.setTop (mkF m 76 #[.val (.int p0), .val (.long q1), .second, .val (.int p2), .val (.int nn), .val (.int aa), .val (.int b0), .val (.int b1), .val (.int b2), .unset, .unset, .unset, .unset] [(.ref b67), (.ref b67)]))
        refine own_by (fun _ k => XS.iconst X67.here hx rfl (hb hby at_76) k) ?_
        show own_G _ _ _ _ _ _ _ (T67.setTop (mkF m 77 #[.val (.int p0), .val (.long q1), .second, .val (.int p2), .val (.int nn), .val (.int aa), .val (.int b0), .val (.int b1), .val (.int b2), .unset, .unset, .unset, .unset] [(.int (0 : Int32)), (.ref b67), (.ref b67)]))
        refine own_by (fun _ k => XS.iload X67.here hx rfl (hb hby at_77) rfl  k) ?_
        show own_G _ _ _ _ _ _ _ (T67.setTop (mkF m 79 #[.val (.int p0), .val (.long q1), .second, .val (.int p2), .val (.int nn), .val (.int aa), .val (.int b0), .val (.int b1), .val (.int b2), .unset, .unset, .unset, .unset] [(.int b0), (.int (0 : Int32)), (.ref b67), (.ref b67)]))
        obtain ⟨T70, h70, X70, e70, W70, A70, st70⟩ := own_stB X67 hx hZ e67 A67 (k := 0) (by decide) (by decide) (g := (mkF m 79 #[.val (.int p0), .val (.long q1), .second, .val (.int p2), .val (.int nn), .val (.int aa), .val (.int b0), .val (.int b1), .val (.int b2), .unset, .unset, .unset, .unset] [(.int b0), (.int (0 : Int32)), (.ref b67), (.ref b67)])) rfl rfl (hb hby at_79)
        refine own_by st70 ?_
        have N70 := Fr.snoc X70 N0 g_b67
        have Z72 : n0 ≤ h70.size := Nat.le_trans Z69 (Nat.le_of_eq W70.size.symm)
        show own_G _ _ _ _ _ _ _ (T70.setTop (mkF m 80 #[.val (.int p0), .val (.long q1), .second, .val (.int p2), .val (.int nn), .val (.int aa), .val (.int b0), .val (.int b1), .val (.int b2), .unset, .unset, .unset, .unset] [(.ref b67)]))
        refine own_by (fun _ k => XS.dup X70.here hx rfl (hb hby at_80) rfl rfl k) ?_
        show own_G _ _ _ _ _ _ _ (T70.setTop (mkF m 81 #[.val (.int p0), .val (.long q1), .second, .val (.int p2), .val (.int nn), .val (.int aa), .val (.int b0), .val (.int b1), .val (.int b2), .unset, .unset, .unset, .unset] [(.ref b67), (.ref b67)]))
        refine own_by (fun _ k => XS.iconst X70.here hx rfl (hb hby at_81) k) ?_
        show own_G _ _ _ _ _ _ _ (T70.setTop (mkF m 82 #[.val (.int p0), .val (.long q1), .second, .val (.int p2), .val (.int nn), .val (.int aa), .val (.int b0), .val (.int b1), .val (.int b2), .unset, .unset, .unset, .unset] [(.int (1 : Int32)), (.ref b67), (.ref b67)]))
        refine own_by (fun _ k => XS.iload X70.here hx rfl (hb hby at_82) rfl  k) ?_
        show own_G _ _ _ _ _ _ _ (T70.setTop (mkF m 84 #[.val (.int p0), .val (.long q1), .second, .val (.int p2), .val (.int nn), .val (.int aa), .val (.int b0), .val (.int b1), .val (.int b2), .unset, .unset, .unset, .unset] [(.int b1), (.int (1 : Int32)), (.ref b67), (.ref b67)]))
        obtain ⟨T73, h73, X73, e73, W73, A73, st73⟩ := own_stB X70 hx hZ e70 A70 (k := 1) (by decide) (by decide) (g := (mkF m 84 #[.val (.int p0), .val (.long q1), .second, .val (.int p2), .val (.int nn), .val (.int aa), .val (.int b0), .val (.int b1), .val (.int b2), .unset, .unset, .unset, .unset] [(.int b1), (.int (1 : Int32)), (.ref b67), (.ref b67)])) rfl rfl (hb hby at_84)
        refine own_by st73 ?_
        have N73 := Fr.snoc X73 N70 g_b67
        have Z75 : n0 ≤ h73.size := Nat.le_trans Z72 (Nat.le_of_eq W73.size.symm)
        show own_G _ _ _ _ _ _ _ (T73.setTop (mkF m 85 #[.val (.int p0), .val (.long q1), .second, .val (.int p2), .val (.int nn), .val (.int aa), .val (.int b0), .val (.int b1), .val (.int b2), .unset, .unset, .unset, .unset] [(.ref b67)]))
        refine own_by (fun _ k => XS.astore X73.here hx rfl (hb hby at_85) rfl rfl (l' := #[.val (.int p0), .val (.long q1), .second, .val (.int p2), .val (.int nn), .val (.int aa), .val (.int b0), .val (.int b1), .val (.int b2), .val (.ref b67), .unset, .unset, .unset]) rfl k) ?_
        show own_G _ _ _ _ _ _ _ (T73.setTop (mkF m 87 #[.val (.int p0), .val (.long q1), .second, .val (.int p2), .val (.int nn), .val (.int aa), .val (.int b0), .val (.int b1), .val (.int b2), .val (.ref b67), .unset, .unset, .unset] []))
        refine own_by (fun _ k => XS.goto X73.here hx rfl (pc0 := 87) (pc' := 110) rfl (hb hby at_87) (by decide) (by decide) k) ?_
        exact J110 h73 Z75 T73 _ X73 N73 e73 b67 (own_upd (own_upd (fun _ => 0) 0 (nar .byte b0)) 1 (nar .byte b1)) (A73.len (by have e := congrArg Int32.toInt hc69; rw [hN, show (2 : Int32).toInt = 2 by decide] at e; omega)) (fun j hj => by
        have e : 2 = N := (by have e := congrArg Int32.toInt hc69; rw [hN, show (2 : Int32).toInt = 2 by decide] at e; omega)
        have hj' : j < 2 := by omega
        match j, hj' with
        | 0, _ => simp [own_upd, own_lit]
        | 1, _ => simp [own_upd, own_lit])
      · refine own_by (fun _ k => XS.icmpYes X0.here hx rfl (pc0 := 69) (pc' := 90) rfl (hb hby at_69) rfl (XT.ii_ne_t hc69) (by decide) (by decide) k) ?_
        show own_G _ _ _ _ _ _ _ (s₁.setTop (mkF m 90 #[.val (.int p0), .val (.long q1), .second, .val (.int p2), .val (.int nn), .val (.int aa), .val (.int b0), .val (.int b1), .val (.int b2), .unset, .unset, .unset, .unset] []))
        refine own_by (fun _ k => XS.iconst X0.here hx rfl (hb hby at_90) k) ?_
        show own_G _ _ _ _ _ _ _ (s₁.setTop (mkF m 91 #[.val (.int p0), .val (.long q1), .second, .val (.int p2), .val (.int nn), .val (.int aa), .val (.int b0), .val (.int b1), .val (.int b2), .unset, .unset, .unset, .unset] [(.int (3 : Int32))]))
        obtain ⟨T76, h76, X76, e76, E76, A76, st76⟩ := own_newB X0 hx hZ (hw _ (List.mem_of_getElem? (i := 0) rfl)) e0 (g := (mkF m 91 #[.val (.int p0), .val (.long q1), .second, .val (.int p2), .val (.int nn), .val (.int aa), .val (.int b0), .val (.int b1), .val (.int b2), .unset, .unset, .unset, .unset] [(.int (3 : Int32))])) rfl (hb hby at_91) rfl (N := 3) (by decide) (cap := 3) (by decide) (by decide) (by decide) (by decide)
        obtain ⟨b76, g76⟩ : ∃ z, z = h0.size := ⟨_, rfl⟩
        rw [← g76] at A76 st76
        have g_b76 : n0 ≤ b76 := Nat.le_trans Z0 (Nat.le_of_eq g76.symm)
        refine own_by st76 ?_
        have Z78 : n0 ≤ h76.size := Nat.le_trans Z0 E76.1
        show own_G _ _ _ _ _ _ _ (T76.setTop (mkF m 93 #[.val (.int p0), .val (.long q1), .second, .val (.int p2), .val (.int nn), .val (.int aa), .val (.int b0), .val (.int b1), .val (.int b2), .unset, .unset, .unset, .unset] [(.ref b76)]))
        refine own_by (fun _ k => XS.dup X76.here hx rfl (hb hby at_93) rfl rfl k) ?_
        show own_G _ _ _ _ _ _ _ (T76.setTop (mkF m 94 #[.val (.int p0), .val (.long q1), .second, .val (.int p2), .val (.int nn), .val (.int aa), .val (.int b0), .val (.int b1), .val (.int b2), .unset, .unset, .unset, .unset] [(.ref b76), (.ref b76)]))
        refine own_by (fun _ k => XS.iconst X76.here hx rfl (hb hby at_94) k) ?_
        show own_G _ _ _ _ _ _ _ (T76.setTop (mkF m 95 #[.val (.int p0), .val (.long q1), .second, .val (.int p2), .val (.int nn), .val (.int aa), .val (.int b0), .val (.int b1), .val (.int b2), .unset, .unset, .unset, .unset] [(.int (0 : Int32)), (.ref b76), (.ref b76)]))
        refine own_by (fun _ k => XS.iload X76.here hx rfl (hb hby at_95) rfl  k) ?_
        show own_G _ _ _ _ _ _ _ (T76.setTop (mkF m 97 #[.val (.int p0), .val (.long q1), .second, .val (.int p2), .val (.int nn), .val (.int aa), .val (.int b0), .val (.int b1), .val (.int b2), .unset, .unset, .unset, .unset] [(.int b0), (.int (0 : Int32)), (.ref b76), (.ref b76)]))
        obtain ⟨T79, h79, X79, e79, W79, A79, st79⟩ := own_stB X76 hx hZ e76 A76 (k := 0) (by decide) (by decide) (g := (mkF m 97 #[.val (.int p0), .val (.long q1), .second, .val (.int p2), .val (.int nn), .val (.int aa), .val (.int b0), .val (.int b1), .val (.int b2), .unset, .unset, .unset, .unset] [(.int b0), (.int (0 : Int32)), (.ref b76), (.ref b76)])) rfl rfl (hb hby at_97)
        refine own_by st79 ?_
        have N79 := Fr.snoc X79 N0 g_b76
        have Z81 : n0 ≤ h79.size := Nat.le_trans Z78 (Nat.le_of_eq W79.size.symm)
        show own_G _ _ _ _ _ _ _ (T79.setTop (mkF m 98 #[.val (.int p0), .val (.long q1), .second, .val (.int p2), .val (.int nn), .val (.int aa), .val (.int b0), .val (.int b1), .val (.int b2), .unset, .unset, .unset, .unset] [(.ref b76)]))
        refine own_by (fun _ k => XS.dup X79.here hx rfl (hb hby at_98) rfl rfl k) ?_
        show own_G _ _ _ _ _ _ _ (T79.setTop (mkF m 99 #[.val (.int p0), .val (.long q1), .second, .val (.int p2), .val (.int nn), .val (.int aa), .val (.int b0), .val (.int b1), .val (.int b2), .unset, .unset, .unset, .unset] [(.ref b76), (.ref b76)]))
        refine own_by (fun _ k => XS.iconst X79.here hx rfl (hb hby at_99) k) ?_
        show own_G _ _ _ _ _ _ _ (T79.setTop (mkF m 100 #[.val (.int p0), .val (.long q1), .second, .val (.int p2), .val (.int nn), .val (.int aa), .val (.int b0), .val (.int b1), .val (.int b2), .unset, .unset, .unset, .unset] [(.int (1 : Int32)), (.ref b76), (.ref b76)]))
        refine own_by (fun _ k => XS.iload X79.here hx rfl (hb hby at_100) rfl  k) ?_
        show own_G _ _ _ _ _ _ _ (T79.setTop (mkF m 102 #[.val (.int p0), .val (.long q1), .second, .val (.int p2), .val (.int nn), .val (.int aa), .val (.int b0), .val (.int b1), .val (.int b2), .unset, .unset, .unset, .unset] [(.int b1), (.int (1 : Int32)), (.ref b76), (.ref b76)]))
        obtain ⟨T82, h82, X82, e82, W82, A82, st82⟩ := own_stB X79 hx hZ e79 A79 (k := 1) (by decide) (by decide) (g := (mkF m 102 #[.val (.int p0), .val (.long q1), .second, .val (.int p2), .val (.int nn), .val (.int aa), .val (.int b0), .val (.int b1), .val (.int b2), .unset, .unset, .unset, .unset] [(.int b1), (.int (1 : Int32)), (.ref b76), (.ref b76)])) rfl rfl (hb hby at_102)
        refine own_by st82 ?_
        have N82 := Fr.snoc X82 N79 g_b76
        have Z84 : n0 ≤ h82.size := Nat.le_trans Z81 (Nat.le_of_eq W82.size.symm)
        show own_G _ _ _ _ _ _ _ (T82.setTop (mkF m 103 #[.val (.int p0), .val (.long q1), .second, .val (.int p2), .val (.int nn), .val (.int aa), .val (.int b0), .val (.int b1), .val (.int b2), .unset, .unset, .unset, .unset] [(.ref b76)]))
        refine own_by (fun _ k => XS.dup X82.here hx rfl (hb hby at_103) rfl rfl k) ?_
        show own_G _ _ _ _ _ _ _ (T82.setTop (mkF m 104 #[.val (.int p0), .val (.long q1), .second, .val (.int p2), .val (.int nn), .val (.int aa), .val (.int b0), .val (.int b1), .val (.int b2), .unset, .unset, .unset, .unset] [(.ref b76), (.ref b76)]))
        refine own_by (fun _ k => XS.iconst X82.here hx rfl (hb hby at_104) k) ?_
        show own_G _ _ _ _ _ _ _ (T82.setTop (mkF m 105 #[.val (.int p0), .val (.long q1), .second, .val (.int p2), .val (.int nn), .val (.int aa), .val (.int b0), .val (.int b1), .val (.int b2), .unset, .unset, .unset, .unset] [(.int (2 : Int32)), (.ref b76), (.ref b76)]))
        refine own_by (fun _ k => XS.iload X82.here hx rfl (hb hby at_105) rfl  k) ?_
        show own_G _ _ _ _ _ _ _ (T82.setTop (mkF m 107 #[.val (.int p0), .val (.long q1), .second, .val (.int p2), .val (.int nn), .val (.int aa), .val (.int b0), .val (.int b1), .val (.int b2), .unset, .unset, .unset, .unset] [(.int b2), (.int (2 : Int32)), (.ref b76), (.ref b76)]))
        obtain ⟨T85, h85, X85, e85, W85, A85, st85⟩ := own_stB X82 hx hZ e82 A82 (k := 2) (by decide) (by decide) (g := (mkF m 107 #[.val (.int p0), .val (.long q1), .second, .val (.int p2), .val (.int nn), .val (.int aa), .val (.int b0), .val (.int b1), .val (.int b2), .unset, .unset, .unset, .unset] [(.int b2), (.int (2 : Int32)), (.ref b76), (.ref b76)])) rfl rfl (hb hby at_107)
        refine own_by st85 ?_
        have N85 := Fr.snoc X85 N82 g_b76
        have Z87 : n0 ≤ h85.size := Nat.le_trans Z84 (Nat.le_of_eq W85.size.symm)
        show own_G _ _ _ _ _ _ _ (T85.setTop (mkF m 108 #[.val (.int p0), .val (.long q1), .second, .val (.int p2), .val (.int nn), .val (.int aa), .val (.int b0), .val (.int b1), .val (.int b2), .unset, .unset, .unset, .unset] [(.ref b76)]))
        refine own_by (fun _ k => XS.astore X85.here hx rfl (hb hby at_108) rfl rfl (l' := #[.val (.int p0), .val (.long q1), .second, .val (.int p2), .val (.int nn), .val (.int aa), .val (.int b0), .val (.int b1), .val (.int b2), .val (.ref b76), .unset, .unset, .unset]) rfl k) ?_
        exact J110 h85 Z87 T85 _ X85 N85 e85 b76 (own_upd (own_upd (own_upd (fun _ => 0) 0 (nar .byte b0)) 1 (nar .byte b1)) 2 (nar .byte b2)) (A85.len (by have e0 : ¬ N = 0 := fun z => hc36 (Int32.toInt_inj.mp (by rw [hN, z]; decide)); have e1 : ¬ N = 1 := fun z => hc50 (Int32.toInt_inj.mp (by rw [hN, z]; decide)); have e2 : ¬ N = 2 := fun z => hc69 (Int32.toInt_inj.mp (by rw [hN, z]; decide)); omega)) (fun j hj => by
        have e : 3 = N := (by have e0 : ¬ N = 0 := fun z => hc36 (Int32.toInt_inj.mp (by rw [hN, z]; decide)); have e1 : ¬ N = 1 := fun z => hc50 (Int32.toInt_inj.mp (by rw [hN, z]; decide)); have e2 : ¬ N = 2 := fun z => hc69 (Int32.toInt_inj.mp (by rw [hN, z]; decide)); omega)
        have hj' : j < 3 := by omega
        match j, hj' with
        | 0, _ => simp [own_upd, own_lit]
        | 1, _ => simp [own_upd, own_lit]
        | 2, _ => simp [own_upd, own_lit])
set_option maxRecDepth 65536 in
set_option maxHeartbeats 40000000 in
theorem comes_1 {Post : Tables → Env → Array Value → State → Outcome → State → Prop} (hpost : ∀ tb e args s v u, (limb_1_1.after args s (.returned v) u = true ∧ limb_1_2.after args s (.returned v) u = true ∧ True) → FrameEnd s (.returned v) u (Jvm.fieldLocs frame_1_writes args s ++ Jvm.arrayLocs frame_1_arrays args s ++ Jvm.staticLocs frame_1_statics s) 16 128 → Post tb e args s (.returned v) u) :
    ArmFor flags0 classFile x code maxLocals ret World_1 tables_1 room_1 Calls_1 rest_1 Pre_1 Post := by
  intro l hfl _ _ p e ha hc hk s m args below hf hA hF happ hP
  obtain ⟨hcalls, hrest, hpre⟩ := hP
  obtain ⟨-, -, -, hnamed, -, -, -, hat⟩ := (Spec.applies_iff hf).mp happ
  obtain ⟨hg, hn⟩ := and_e (Cond.before_iff.mp (show (Jvm.Cond.and given_1 narrow_1).before args s = true from hpre))
  obtain ⟨gc, hg⟩ := and_e hg
  obtain ⟨g0, hg⟩ := and_e hg
  obtain ⟨g1, hg⟩ := and_e hg
  have g2 := hg
  obtain ⟨w0, w1, w2, rfl⟩ : ∃ w0 w1 w2 : Value, args = #[w0, w1, w2] := by
    have hs : args.size = 3 := by simpa [Cond.value, given_1] using gc
    obtain ⟨L⟩ := args
    match L, hs with
    | [w0, w1, w2], _ => exact ⟨w0, w1, w2, rfl⟩
  have hw := fun d (hd : d ∈ tables_1) => atoms_spec (ws := Jvm.Cond.code x code maxLocals ret :: tables_1) hat d (List.mem_cons_of_mem _ hd)
  obtain ⟨i0, ei0⟩ := is_v g0
  obtain rfl : w0 = (.int i0) := Option.some.inj ei0
  obtain ⟨i1, ei1⟩ := isL_v g1
  obtain rfl : w1 = (.long i1) := Option.some.inj ei1
  obtain ⟨i2, ei2⟩ := is_v g2
  obtain rfl : w2 = (.int i2) := Option.some.inj ei2
  obtain ⟨n, o, h1, h2, h3, _, L, rfl, ⟨rfl, N⟩, hq⟩ := rm0 l s _ hw tables_1 i0 i1 i2  s.heap s.heap.size (Nat.le_refl _)  p e ha hc hk s m _ below hf ((Spec.applies_iff_loose hf).mp happ).1 ⟨rfl, State.Warmed39.refl s, rfl⟩ trivial
  refine ⟨n, _, h1, h2, h3, hpost _ _ _ _ _ _ ⟨Cond.after_iff.mpr rfl, Cond.after_iff.mpr (eq_i res_at (Term.int_eval (1)) rfl), trivial⟩ ⟨hq.1, hq.2.1, (hq.2.2.sift fun y hy => Or.inr (N y hy)).mono (by decide) (by decide)⟩⟩
theorem main_1_1 : Claimed_1_1 := comes_1 fun _ _ _ _ _ _ h hF => ⟨h.1, hF⟩
theorem main_1_2 : Claimed_1_2 := comes_1 fun _ _ _ _ _ _ h hF => ⟨h.2.1, hF⟩
end Jvm.Pilot.@@N@@
namespace Jvm.Pilot.@@N@@
open Jvm Jvm.ClassFile Sem Op Lib Jvm.Free Jvm.Stand Jvm.Pilot.@@N@@.Jvm.D
/-! MADE BY PROGRAM (witnessworld.py) out of the Statement's table words and the real class files: 11 classes; the members and pool entries that the words name. The judged class is class 1, her method 1. -/
namespace start1
open Jvm.ClassFile
def u (s : String) : CpInfo := .utf8 (stringToUtf16 s)
/-- a pool by its gaps: so many unusable entries, then the entry; so many at the end -/
def gap : Nat → List CpInfo → List CpInfo
  | 0, r => r
  | n + 1, r => .unusable :: gap n r
def poolList (es : List (Nat × CpInfo)) (last : Nat) : List CpInfo := es.foldr (fun e r => gap e.1 (e.2 :: r)) (gap last [])
def pool (es : List (Nat × CpInfo)) (last : Nat) : Array CpInfo := ⟨poolList es last⟩
def fileOf (pool : Array CpInfo) (this : Nat) (attrs : Array Attribute := #[]) (ms : Array MethodInfo := #[]) (fl : Nat := 33) (sup : Nat := 0) (ifs : Array Nat := #[]) (fds : Array FieldInfo := #[]) : ClassFile where
  minorVersion := 0
  majorVersion := 65
  constantPool := pool
  accessFlags := fl
  thisClass := this
  superClass := sup
  interfaces := ifs
  fields := fds
  methods := ms
  attributes := attrs
def plain (name : String) (sup : Option ClassId) : Class where
  name := name
  kind := .ordinary
  loader := none
  accessFlags := 33
  super := sup
  interfaces := #[]
  cf := none
  fields := #[]
  methods := #[]
  instanceTypes := #[]
  staticTypes := #[]
  resolved := #[]
  callSites := []
  init := .initialized
  statics := none
  mirror := none

def pool0 : Array CpInfo := pool [(5, u "<init>"), (0, u "()V"), (1, .class_ 10), (1, u "java/lang/Object")] 113

def k0c0 : Code := { maxStack := 0, maxLocals := 1, code := object_method_1_code, exceptionTable := #[], attributes := #[] }
def k0m0 : Method := { name := "<init>", desc := "()V", sig := { parameters := [], returnType := none }, accessFlags := 1, code := some k0c0 }
/-- java/lang/Object -/
def k0 : Class := { plain "java/lang/Object" none with
  accessFlags := 33
  interfaces := #[]
  cf := some (fileOf pool0 8 #[] #[{ accessFlags := 1, nameIndex := 5, descriptorIndex := 6, attributes := #[] }] 33 0 #[] #[])
  fields := #[]
  methods := #[k0m0]
  instanceTypes := #[]
  staticTypes := #[]
  resolved := Array.replicate 124 none
  statics := none }

def pool1 : Array CpInfo := pool [(2, .class_ 4), (1, u "java/lang/Object"), (0, u "<init>"), (0, u "()V"), (0, .methodref 8 9), (0, .class_ 10), (0, .nameAndType 11 12), (0, u "com/example/keys_into_regions/keysintoregions/LiteralWritePinLaw"), (0, u "fill"), (0, u "(JI)B"), (0, .class_ 14), (0, u "com/example/keys_into_regions/keysintoregions/KeyPart$Literal"), (0, .methodref 13 16), (0, .nameAndType 5 17), (0, u "([B)V"), (0, .methodref 13 19), (0, .nameAndType 20 21), (0, u "write"), (0, u "(Lcom/example/keys_into_regions/keysintoregions/RecordFields;[BI)I"), (0, .methodref 8 23), (0, .nameAndType 24 25), (0, u "expected"), (0, u "(JIIIBBB)B"), (2, u "law"), (0, u "(IJI)Z")] 9

def k1m0 : Method := { name := "<init>", desc := "()V", sig := { parameters := [], returnType := none }, accessFlags := 1, code := none }
def k1c1 : Code := { maxStack := 9, maxLocals := 13, code := code, exceptionTable := #[], attributes := #[] }
def k1m1 : Method := { name := "law", desc := "(IJI)Z", sig := { parameters := [.int, .long, .int], returnType := some .boolean }, accessFlags := 9, code := some k1c1 }
def k1c2 : Code := { maxStack := 4, maxLocals := 3, code := method_3_code, exceptionTable := #[], attributes := #[] }
def k1m2 : Method := { name := "fill", desc := "(JI)B", sig := { parameters := [.long, .int], returnType := some .byte }, accessFlags := 10, code := some k1c2 }
def k1c3 : Code := { maxStack := 3, maxLocals := 9, code := method_4_code, exceptionTable := #[], attributes := #[] }
def k1m3 : Method := { name := "expected", desc := "(JIIIBBB)B", sig := { parameters := [.long, .int, .int, .int, .byte, .byte, .byte], returnType := some .byte }, accessFlags := 10, code := some k1c3 }
/-- com/example/keys_into_regions/keysintoregions/LiteralWritePinLaw -/
def k1 : Class := { plain "com/example/keys_into_regions/keysintoregions/LiteralWritePinLaw" (some 0) with
  accessFlags := 49
  interfaces := #[]
  cf := some (fileOf pool1 8 #[] #[{ accessFlags := 1, nameIndex := 5, descriptorIndex := 6, attributes := #[] }, { accessFlags := 9, nameIndex := 28, descriptorIndex := 29, attributes := #[] }, { accessFlags := 10, nameIndex := 11, descriptorIndex := 12, attributes := #[] }, { accessFlags := 10, nameIndex := 24, descriptorIndex := 25, attributes := #[] }] 49 2 #[] #[])
  fields := #[]
  methods := #[k1m0, k1m1, k1m2, k1m3]
  instanceTypes := #[]
  staticTypes := #[]
  resolved := Array.replicate 39 none
  statics := none }

def pool2 : Array CpInfo := pool [(3, .methodref 4 5), (0, .class_ 6), (0, .nameAndType 7 8), (0, u "java/lang/Object"), (0, u "<init>"), (0, u "()V"), (0, .class_ 10), (0, u "com/example/keys_into_regions/keysintoregions/KeyPart"), (0, u "MAX_ARRAY_LENGTH"), (0, u "I"), (11, .class_ 25), (0, u "com/example/keys_into_regions/keysintoregions/KeyPart$SaltByte"), (0, .class_ 27), (0, u "com/example/keys_into_regions/keysintoregions/KeyPart$HexDigits"), (0, .class_ 29), (0, u "com/example/keys_into_regions/keysintoregions/KeyPart$OfDigest"), (0, .class_ 31), (0, u "com/example/keys_into_regions/keysintoregions/KeyPart$Reversed"), (0, .class_ 33), (0, u "com/example/keys_into_regions/keysintoregions/KeyPart$EightByteNumber"), (0, .class_ 35), (0, u "com/example/keys_into_regions/keysintoregions/KeyPart$Literal"), (0, .class_ 37), (0, u "com/example/keys_into_regions/keysintoregions/KeyPart$Field"), (0, .class_ 39), (0, u "com/example/keys_into_regions/keysintoregions/KeyPart$Sequence")] 9

def k2c0 : Code := { maxStack := 1, maxLocals := 1, code := prog_11_method_1_code, exceptionTable := #[], attributes := #[] }
def k2m0 : Method := { name := "<init>", desc := "()V", sig := { parameters := [], returnType := none }, accessFlags := 0, code := some k2c0 }
/-- com/example/keys_into_regions/keysintoregions/KeyPart -/
def k2 : Class := { plain "com/example/keys_into_regions/keysintoregions/KeyPart" (some 0) with
  accessFlags := 1056
  interfaces := #[]
  cf := some (fileOf pool2 9 #[.nestMembers #[24, 26, 28, 30, 32, 34, 36, 38]] #[{ accessFlags := 0, nameIndex := 7, descriptorIndex := 8, attributes := #[] }] 1056 4 #[] #[{ accessFlags := 26, nameIndex := 11, descriptorIndex := 12, attributes := #[] }])
  fields := #[{ name := "MAX_ARRAY_LENGTH", type := .int, accessFlags := 26, slot := 0, constantValue := 0 }]
  methods := #[k2m0]
  instanceTypes := #[]
  staticTypes := #[.int]
  resolved := Array.replicate 49 none
  statics := none }

def pool3 : Array CpInfo := pool [(1, .methodref 2 3), (0, .class_ 4), (0, .nameAndType 5 6), (0, u "com/example/keys_into_regions/keysintoregions/KeyPart"), (0, u "<init>"), (0, u "()V"), (0, .fieldref 8 9), (0, .class_ 10), (0, .nameAndType 11 12), (0, u "com/example/keys_into_regions/keysintoregions/KeyPart$Literal"), (0, u "bytes"), (0, u "[B"), (0, .methodref 14 15), (0, .class_ 16), (0, .nameAndType 17 18), (0, u "java/lang/System"), (0, u "arraycopy"), (0, u "(Ljava/lang/Object;ILjava/lang/Object;II)V"), (0, u "([B)V"), (4, u "write"), (0, u "(Lcom/example/keys_into_regions/keysintoregions/RecordFields;[BI)I")] 5

def k3c0 : Code := { maxStack := 2, maxLocals := 2, code := prog_15_method_1_code, exceptionTable := #[], attributes := #[] }
def k3m0 : Method := { name := "<init>", desc := "([B)V", sig := { parameters := [(.array .byte)], returnType := none }, accessFlags := 0, code := some k3c0 }
def k3c1 : Code := { maxStack := 5, maxLocals := 4, code := prog_15_method_3_code, exceptionTable := #[], attributes := #[] }
def k3m1 : Method := { name := "write", desc := "(Lcom/example/keys_into_regions/keysintoregions/RecordFields;[BI)I", sig := { parameters := [(.object "com/example/keys_into_regions/keysintoregions/RecordFields"), (.array .byte), .int], returnType := some .int }, accessFlags := 0, code := some k3c1 }
/-- com/example/keys_into_regions/keysintoregions/KeyPart$Literal -/
def k3 : Class := { plain "com/example/keys_into_regions/keysintoregions/KeyPart$Literal" (some 2) with
  accessFlags := 32
  interfaces := #[]
  cf := some (fileOf pool3 8 #[.nestHost 2] #[{ accessFlags := 0, nameIndex := 5, descriptorIndex := 19, attributes := #[] }, { accessFlags := 0, nameIndex := 24, descriptorIndex := 25, attributes := #[] }] 32 2 #[] #[{ accessFlags := 18, nameIndex := 11, descriptorIndex := 12, attributes := #[] }])
  fields := #[{ name := "bytes", type := (.array .byte), accessFlags := 18, slot := 0, constantValue := 0 }]
  methods := #[k3m0, k3m1]
  instanceTypes := #[(.array .byte)]
  staticTypes := #[]
  resolved := Array.replicate 31 none
  statics := none }

def pool4 : Array CpInfo := pool [(2, .class_ 4), (1, u "java/lang/Object"), (0, u "<init>"), (0, u "()V"), (1, .class_ 10), (1, u "java/lang/System"), (0, u "allowSecurityManager"), (0, u "I"), (16, u "cons"), (0, u "Ljava/io/Console;"), (77, .class_ 110), (1, u "java/lang/System$CallersHolder"), (43, u "initialErrStream"), (0, u "Ljava/io/PrintStream;"), (19, u "security"), (0, u "Ljava/lang/SecurityManager;"), (31, .class_ 209), (0, u "java/lang/System$1"), (7, u "props"), (0, u "Ljava/util/Properties;"), (2, u "lineSeparator"), (0, u "Ljava/lang/String;"), (96, .class_ 321), (1, u "java/lang/System$LoggerFinder"), (5, .class_ 328), (0, u "java/lang/System$Logger"), (67, u "err"), (2, u "out"), (91, u "notSupportedJnuEncoding"), (15, u "in"), (17, u "initialIn"), (0, u "Ljava/io/InputStream;"), (35, u "bootLayer"), (0, u "Ljava/lang/ModuleLayer;"), (99, .class_ 664), (0, u "java/lang/System$2"), (9, u "NEVER"), (2, u "MAYBE"), (49, u "arraycopy"), (0, u "(Ljava/lang/Object;ILjava/lang/Object;II)V"), (72, .class_ 802), (0, u "java/lang/System$Logger$Level")] 31

def k4m0 : Method := { name := "<init>", desc := "()V", sig := { parameters := [], returnType := none }, accessFlags := 2, code := none }
def k4m1 : Method := { name := "arraycopy", desc := "(Ljava/lang/Object;ILjava/lang/Object;II)V", sig := { parameters := [(.object "java/lang/Object"), .int, (.object "java/lang/Object"), .int, .int], returnType := none }, accessFlags := 265, code := none }
/-- java/lang/System -/
def k4 : Class := { plain "java/lang/System" (some 0) with
  accessFlags := 49
  interfaces := #[]
  cf := some (fileOf pool4 8 #[.nestMembers #[319, 327, 801, 108, 663, 208]] #[{ accessFlags := 2, nameIndex := 5, descriptorIndex := 6, attributes := #[] }, { accessFlags := 265, nameIndex := 727, descriptorIndex := 728, attributes := #[] }] 49 2 #[] #[{ accessFlags := 25, nameIndex := 507, descriptorIndex := 526, attributes := #[] }, { accessFlags := 25, nameIndex := 399, descriptorIndex := 155, attributes := #[] }, { accessFlags := 25, nameIndex := 396, descriptorIndex := 155, attributes := #[] }, { accessFlags := 10, nameIndex := 525, descriptorIndex := 526, attributes := #[] }, { accessFlags := 26, nameIndex := 674, descriptorIndex := 12, attributes := #[] }, { accessFlags := 26, nameIndex := 677, descriptorIndex := 12, attributes := #[] }, { accessFlags := 10, nameIndex := 11, descriptorIndex := 12, attributes := #[] }, { accessFlags := 74, nameIndex := 175, descriptorIndex := 176, attributes := #[] }, { accessFlags := 10, nameIndex := 491, descriptorIndex := 222, attributes := #[] }, { accessFlags := 74, nameIndex := 29, descriptorIndex := 30, attributes := #[] }, { accessFlags := 74, nameIndex := 154, descriptorIndex := 155, attributes := #[] }, { accessFlags := 10, nameIndex := 217, descriptorIndex := 218, attributes := #[] }, { accessFlags := 10, nameIndex := 221, descriptorIndex := 222, attributes := #[] }, { accessFlags := 8, nameIndex := 562, descriptorIndex := 563, attributes := #[] }])
  fields := #[{ name := "in", type := (.object "java/io/InputStream"), accessFlags := 25, slot := 0, constantValue := 0 }, { name := "out", type := (.object "java/io/PrintStream"), accessFlags := 25, slot := 1, constantValue := 0 }, { name := "err", type := (.object "java/io/PrintStream"), accessFlags := 25, slot := 2, constantValue := 0 }, { name := "initialIn", type := (.object "java/io/InputStream"), accessFlags := 10, slot := 3, constantValue := 0 }, { name := "NEVER", type := .int, accessFlags := 26, slot := 4, constantValue := 0 }, { name := "MAYBE", type := .int, accessFlags := 26, slot := 5, constantValue := 0 }, { name := "allowSecurityManager", type := .int, accessFlags := 10, slot := 6, constantValue := 0 }, { name := "security", type := (.object "java/lang/SecurityManager"), accessFlags := 74, slot := 7, constantValue := 0 }, { name := "notSupportedJnuEncoding", type := (.object "java/lang/String"), accessFlags := 10, slot := 8, constantValue := 0 }, { name := "cons", type := (.object "java/io/Console"), accessFlags := 74, slot := 9, constantValue := 0 }, { name := "initialErrStream", type := (.object "java/io/PrintStream"), accessFlags := 74, slot := 10, constantValue := 0 }, { name := "props", type := (.object "java/util/Properties"), accessFlags := 10, slot := 11, constantValue := 0 }, { name := "lineSeparator", type := (.object "java/lang/String"), accessFlags := 10, slot := 12, constantValue := 0 }, { name := "bootLayer", type := (.object "java/lang/ModuleLayer"), accessFlags := 8, slot := 13, constantValue := 0 }]
  methods := #[k4m0, k4m1]
  instanceTypes := #[]
  staticTypes := #[(.object "java/io/InputStream"), (.object "java/io/PrintStream"), (.object "java/io/PrintStream"), (.object "java/io/InputStream"), .int, .int, .int, (.object "java/lang/SecurityManager"), (.object "java/lang/String"), (.object "java/io/Console"), (.object "java/io/PrintStream"), (.object "java/util/Properties"), (.object "java/lang/String"), (.object "java/lang/ModuleLayer")]
  resolved := Array.replicate 834 none
  statics := none }

def pool5 : Array CpInfo := pool [(1, u "java/lang/Cloneable"), (0, .class_ 1), (0, u "java/lang/Object"), (0, .class_ 3)] 3

/-- java/lang/Cloneable -/
def k5 : Class := { plain "java/lang/Cloneable" (some 0) with
  accessFlags := 1537
  interfaces := #[]
  cf := some (fileOf pool5 2 #[] #[] 1537 4 #[] #[])
  fields := #[]
  methods := #[]
  instanceTypes := #[]
  staticTypes := #[]
  resolved := Array.replicate 8 none
  statics := none }

def pool6 : Array CpInfo := pool [(1, u "java/io/Serializable"), (0, .class_ 1), (0, u "java/lang/Object"), (0, .class_ 3)] 3

/-- java/io/Serializable -/
def k6 : Class := { plain "java/io/Serializable" (some 0) with
  accessFlags := 1537
  interfaces := #[]
  cf := some (fileOf pool6 2 #[] #[] 1537 4 #[] #[])
  fields := #[]
  methods := #[]
  instanceTypes := #[]
  staticTypes := #[]
  resolved := Array.replicate 8 none
  statics := none }

/-- the primitive byte -/
def k7 : Class := { plain "byte" none with kind := .primitive 'B', accessFlags := 0x411 }
/-- [B -/
def k8 : Class := { plain "[B" (some 0) with kind := .array 7 .byte, interfaces := #[5, 6], accessFlags := 1041 }

/-- the primitive int -/
def k9 : Class := { plain "int" none with kind := .primitive 'I', accessFlags := 0x411 }
/-- [I -/
def k10 : Class := { plain "[I" (some 0) with kind := .array 9 .int, interfaces := #[5, 6], accessFlags := 1041 }

def heap : Heap := #[]
def classes : Array Class := #[k0, k1, k2, k3, k4, k5, k6, k7, k8, k9, k10]
def interned : List (Array UInt16 × Addr) := []
def slotsUsed : Nat := 0
def theMethod : MethodId := ⟨1, 1⟩
def args0 : Array Value := #[.int 5, .long 5, .int 5]
def aboutOver (below : List Frame) : State where
  vm := { classes := classes, interned := interned.toArray }
  heap := heap
  slotsUsed := slotsUsed
  threads := #[{ frames := .invoking theMethod args0 :: below }]
def below0 : List Frame := [.native { method := ⟨0, 0⟩, args := #[] }]
def about1 : State := aboutOver below0
def p0 : Program := .bare "" "" ""
def e0 : Env := launch0.env 0 0 0
theorem w_frames : about1.frames = Frame.invoking theMethod args0 :: below0 := rfl
set_option maxRecDepth 65536 in
theorem w_args : argsFit about1.vm theMethod args0 = true := by decide +kernel
set_option maxRecDepth 65536 in
theorem w_heap : heapFits about1 = true := by decide +kernel
set_option maxRecDepth 65536 in
theorem w_runnable : about1.curStatus? = some .runnable := by decide +kernel
set_option maxRecDepth 65536 in
theorem w_alone : about1.alone = true := by decide +kernel
set_option maxRecDepth 65536 in
theorem w_named : about1.methodNamed? x = some theMethod := by decide +kernel
set_option maxRecDepth 65536 in
theorem w_hears : about1.hears theMethod below0 = true := by decide +kernel
set_option maxRecDepth 65536 in
theorem w_ripe : about1.ripe theMethod args0 below0 = true := by decide +kernel
theorem w_running : about1.status = .running := rfl
set_option maxRecDepth 65536 in
theorem w_room : about1.hasRoom e0.platform room_1 = true :=
  launch0.hasRoom_least _ room_1 (by decide +kernel) (by decide +kernel) (by decide +kernel) (by decide +kernel) (by decide +kernel) (by decide +kernel)
theorem allAtoms_all (ts : List Jvm.Cond) (a : Array Jvm.Value) (st : Jvm.State) : (allAtoms ts).before a st = ts.all (fun c => c.before a st) := by
  induction ts with
  | nil => rfl
  | cons c t ih =>
    show (Jvm.Cond.and c (allAtoms t)).before a st = _
    rw [Jvm.Cond.before_and, ih, List.all_cons]
def words1 : List Jvm.Cond := Jvm.Cond.code x code maxLocals ret :: tables_1
/-- a 'code' word, met by the world's own term for the bytes: nothing is compared byte by byte -/
theorem code_word {y : MethodName} {bytes : ByteArray} {mx : Nat} {rt : Option FieldType} {a : Array Value} {s : State} {m : MethodId} {meth : Method} {c : Code} (h1 : s.methodNamed? y = some m) (h2 : s.vm.method? m = some meth) (h3 : meth.code = some c) (h4 : c.code = bytes)
    (h5 : (c.maxLocals == mx && c.exceptionTable.isEmpty && decide (c.maxStack ≤ mostOperands) && decide (meth.sig.returnType = rt) && !meth.locks && decide (parseMethodDescriptor y.desc = some meth.sig)) = true) : (Jvm.Cond.code y bytes mx rt).before a s = true := by
  simp only [Bool.and_eq_true, beq_iff_eq, Bool.not_eq_true', decide_eq_true_eq] at h5
  obtain ⟨⟨⟨⟨⟨g1, g2⟩, g3⟩, g4⟩, g5⟩, g6⟩ := h5
  simp [Cond.before, Cond.holds, Cond.value, h1, h2, h3, h4, g1, g2, g3, g4, g5, g6]
def isCode : Jvm.Cond → Bool
  | .code _ _ _ _ => true
  | _ => false
theorem all_split {L : List Jvm.Cond} {P : Jvm.Cond → Bool} (h1 : L.all (fun c => isCode c || P c) = true) (h2 : ∀ c ∈ L.filter isCode, P c = true) : L.all P = true := by
  refine List.all_eq_true.mpr fun c hc => ?_
  have h := List.all_eq_true.mp h1 c hc
  rcases Bool.eq_false_or_eq_true (isCode c) with hi | hi
  · exact h2 c (List.mem_filter.mpr ⟨hc, hi⟩)
  · simpa [hi] using h
set_option maxRecDepth 65536 in
theorem w_c0 : (Jvm.Cond.code x code maxLocals ret).before args0 about1 = true := code_word (m := ⟨1, 1⟩) (meth := k1m1) (c := k1c1) (by decide +kernel) rfl rfl rfl (by decide +kernel)
set_option maxRecDepth 65536 in
theorem w_c1 : (Jvm.Cond.code ({ cls := "com/example/keys_into_regions/keysintoregions/LiteralWritePinLaw", name := "fill", desc := "(JI)B" } : Jvm.MethodName) method_3_code (3 : Nat) (Option.some Jvm.ClassFile.FieldType.byte)).before args0 about1 = true := code_word (m := ⟨1, 2⟩) (meth := k1m2) (c := k1c2) (by decide +kernel) rfl rfl rfl (by decide +kernel)
set_option maxRecDepth 65536 in
theorem w_c2 : (Jvm.Cond.code ({ cls := "com/example/keys_into_regions/keysintoregions/KeyPart$Literal", name := "<init>", desc := "([B)V" } : Jvm.MethodName) prog_15_method_1_code (2 : Nat) (Option.none : Option Jvm.ClassFile.FieldType)).before args0 about1 = true := code_word (m := ⟨3, 0⟩) (meth := k3m0) (c := k3c0) (by decide +kernel) rfl rfl rfl (by decide +kernel)
set_option maxRecDepth 65536 in
theorem w_c3 : (Jvm.Cond.code ({ cls := "com/example/keys_into_regions/keysintoregions/KeyPart", name := "<init>", desc := "()V" } : Jvm.MethodName) prog_11_method_1_code (1 : Nat) (Option.none : Option Jvm.ClassFile.FieldType)).before args0 about1 = true := code_word (m := ⟨2, 0⟩) (meth := k2m0) (c := k2c0) (by decide +kernel) rfl rfl rfl (by decide +kernel)
set_option maxRecDepth 65536 in
theorem w_c4 : (Jvm.Cond.code ({ cls := "java/lang/Object", name := "<init>", desc := "()V" } : Jvm.MethodName) object_method_1_code (1 : Nat) (Option.none : Option Jvm.ClassFile.FieldType)).before args0 about1 = true := code_word (m := ⟨0, 0⟩) (meth := k0m0) (c := k0c0) (by decide +kernel) rfl rfl rfl (by decide +kernel)
set_option maxRecDepth 65536 in
theorem w_c5 : (Jvm.Cond.code ({ cls := "com/example/keys_into_regions/keysintoregions/KeyPart$Literal", name := "write", desc := "(Lcom/example/keys_into_regions/keysintoregions/RecordFields;[BI)I" } : Jvm.MethodName) prog_15_method_3_code (4 : Nat) (Option.some Jvm.ClassFile.FieldType.int)).before args0 about1 = true := code_word (m := ⟨3, 1⟩) (meth := k3m1) (c := k3c1) (by decide +kernel) rfl rfl rfl (by decide +kernel)
set_option maxRecDepth 65536 in
theorem w_c6 : (Jvm.Cond.code ({ cls := "com/example/keys_into_regions/keysintoregions/LiteralWritePinLaw", name := "expected", desc := "(JIIIBBB)B" } : Jvm.MethodName) method_4_code (9 : Nat) (Option.some Jvm.ClassFile.FieldType.byte)).before args0 about1 = true := code_word (m := ⟨1, 3⟩) (meth := k1m3) (c := k1c3) (by decide +kernel) rfl rfl rfl (by decide +kernel)
def codes1 : List Jvm.Cond := [Jvm.Cond.code x code maxLocals ret, Jvm.Cond.code ({ cls := "com/example/keys_into_regions/keysintoregions/LiteralWritePinLaw", name := "fill", desc := "(JI)B" } : Jvm.MethodName) method_3_code (3 : Nat) (Option.some Jvm.ClassFile.FieldType.byte), Jvm.Cond.code ({ cls := "com/example/keys_into_regions/keysintoregions/KeyPart$Literal", name := "<init>", desc := "([B)V" } : Jvm.MethodName) prog_15_method_1_code (2 : Nat) (Option.none : Option Jvm.ClassFile.FieldType), Jvm.Cond.code ({ cls := "com/example/keys_into_regions/keysintoregions/KeyPart", name := "<init>", desc := "()V" } : Jvm.MethodName) prog_11_method_1_code (1 : Nat) (Option.none : Option Jvm.ClassFile.FieldType), Jvm.Cond.code ({ cls := "java/lang/Object", name := "<init>", desc := "()V" } : Jvm.MethodName) object_method_1_code (1 : Nat) (Option.none : Option Jvm.ClassFile.FieldType), Jvm.Cond.code ({ cls := "com/example/keys_into_regions/keysintoregions/KeyPart$Literal", name := "write", desc := "(Lcom/example/keys_into_regions/keysintoregions/RecordFields;[BI)I" } : Jvm.MethodName) prog_15_method_3_code (4 : Nat) (Option.some Jvm.ClassFile.FieldType.int), Jvm.Cond.code ({ cls := "com/example/keys_into_regions/keysintoregions/LiteralWritePinLaw", name := "expected", desc := "(JIIIBBB)B" } : Jvm.MethodName) method_4_code (9 : Nat) (Option.some Jvm.ClassFile.FieldType.byte)]
set_option maxRecDepth 65536 in
theorem codes_eq : words1.filter isCode = codes1 := rfl
theorem w_codes : ∀ c ∈ words1.filter isCode, c.before args0 about1 = true := by
  rw [codes_eq]
  intro c hc
  simp only [codes1, List.mem_cons, List.not_mem_nil, or_false] at hc
  rcases hc with rfl | rfl | rfl | rfl | rfl | rfl | rfl
  · exact w_c0
  · exact w_c1
  · exact w_c2
  · exact w_c3
  · exact w_c4
  · exact w_c5
  · exact w_c6
set_option maxRecDepth 65536 in
theorem w_t1 : (words1.take 24).all (fun c => isCode c || c.before args0 about1) = true := by decide +kernel
set_option maxRecDepth 65536 in
theorem w_t2 : (words1.drop 24).all (fun c => isCode c || c.before args0 about1) = true := by decide +kernel
theorem w_tables : (allAtoms (Jvm.Cond.code x code maxLocals ret :: tables_1)).before args0 about1 = true := by
  rw [allAtoms_all]
  show words1.all (fun c => c.before args0 about1) = true
  refine all_split ?_ w_codes
  rw [← List.take_append_drop 24 words1, List.all_append, w_t1, w_t2]
  rfl
set_option maxRecDepth 65536 in
theorem w_case : (Jvm.Cond.and given_1 narrow_1).before args0 about1 = true := by decide +kernel
theorem w_applies : (headSpec (Jvm.Cond.code x code maxLocals ret :: tables_1) room_1).applies x e0.platform about1 = true :=
  (Spec.applies_iff w_frames).mpr ⟨w_running, w_runnable, w_alone, w_named, w_hears, w_ripe, w_room, w_tables⟩
theorem atStart : AtStart classFile x code maxLocals ret World_1 tables_1 room_1 Calls_1 rest_1 Pre_1 launch0 p0 e0 about1 theMethod args0 below0 :=
  ⟨lists_1, trivial, launch0.admits_env _ _ _, launch0.least_env, fairChoices_fair.cas, fairChoices_fair.clock, w_frames, w_args, w_heap, w_applies, trivial, trivial, w_case⟩
end start1
theorem witness_1 : WitnessClaimed_1 := ⟨start1.p0, start1.e0, start1.about1, start1.theMethod, start1.args0, start1.below0, start1.atStart⟩
end Jvm.Pilot.@@N@@
