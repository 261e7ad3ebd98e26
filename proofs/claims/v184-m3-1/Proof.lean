import JvmDerived
import JvmDerived.Pilot.@@N@@Statement
import JvmDerived.Pilot.@@N@@Code
set_option linter.unusedVariables false
set_option linter.unusedSimpArgs false
namespace Jvm.RoadKit
open Sem ClassFile Op Lib Jvm.Stand Jvm.Free Jvm.LawKit
section New
variable {p : Program} {l : Launch} {e : Env} {R : Room} {s : State} {m : MethodId} {args : Array Value} {below : List Frame} {meth : Method} {c : Code} {T : State} {locs : List Loc} {cells slots : Nat}
theorem retI (X : Stand p l e R s m args below meth c T locs cells slots) (hx : p.tables.exec = Jvm.exec) {pc : Nat} {Ls : Array Slot} {z : Int32} {rest : List Value} (hret : meth.sig.returnType = some .int) (hd : decode c.code pc = .ok (.ireturn, 1)) {fs : List Frame}
    (hl : ∀ (f : JFrame) (acts : List Action), f.method = m → f.locked = none → f.entered = [] → (doReturn e (T.setTop f) acts (some (.int z))).1 = T.setFrames fs) : Steps p.tables e below (T.setTop (mkF m pc Ls (.int z :: rest))) (T.setFrames fs) := by
  have hm' : T.vm.method? m = some meth := X.method'
  have hn : narrow .int (.int z) = .int z := rfl
  show Steps p.tables e below (T.setTop { method := m, pc := pc, locals := Ls, stack := _ :: rest, locked := none }) _
  jvm_step X.here [X.here.top, hx, hd, hm', hret, hn]
  first | (intro acts; rw [hl _ acts rfl rfl rfl]) | rw [hl _ _ rfl rfl rfl]
  exact Steps.refl _
/-- the run from A comes to its end, and there Q holds -/
def own_G (tb : Tables) (e : Env) (below : List Frame) (s : State) (Q : Option Value → Heap → List Loc → Prop) (C S : Nat) (A : State) : Prop :=
  ∃ s₂ o, Steps tb e below A s₂ ∧ s₂.status = .running ∧ Ended s₂ below o ∧ ∃ v L, o = .returned v ∧ Q v s₂.heap L ∧ FrameEnd s o s₂ L C S
theorem own_by {tb : Tables} {Q : Option Value → Heap → List Loc → Prop} {C S : Nat} {A B : State} (st : ∀ t, Steps tb e below B t → Steps tb e below A t) (k : own_G tb e below s Q C S B) : own_G tb e below s Q C S A := by
  obtain ⟨s₂, o, h, r⟩ := k
  exact ⟨s₂, o, st _ h, r⟩
theorem own_end (X : Stand p l e R s m args below meth c T locs cells slots) {v : Option Value} (hv : meth.sig.returnType = none → v = none) (hlk : meth.locks = false) {Q : Option Value → Heap → List Loc → Prop} {C S : Nat} {A : State}
    (st : ∀ fs, (∀ (f : JFrame) (acts : List Action), f.method = m → f.locked = none → f.entered = [] → (doReturn e (T.setTop f) acts v).1 = T.setFrames fs) → Steps p.tables e below A (T.setFrames fs))
    (hQ : Q v T.heap locs) (hc : cells ≤ C) (hs : slots ≤ S) : own_G p.tables e below s Q C S A := by
  obtain ⟨fs, hr, hrun, hended, hW, hsame⟩ := X.leave hv hlk
  exact ⟨_, _, st fs hr, hrun, hended, _, _, rfl, hQ, ⟨_, rfl⟩, hW, hsame.mono hc hs⟩
theorem own_lremM {tb : Tables} [Ours tb] {target : State} {g : JFrame} (h : At T m c below) (hx : tb.exec = Jvm.exec) (hg : g.method = m) {x y : Int64} {rest : List Value} (hd : decode c.code g.pc = .ok (.lrem, 1)) (hs : g.stack = .long y :: .long x :: rest) (hy : y ≠ 0)
    (hr : Steps tb e below (T.setTop { g with pc := g.pc + 1, stack := .long (x % y) :: rest }) target) : Steps tb e below (T.setTop g) target := by
  have q : x - x / y * y = x % y := lrem_mod x y
  exact XT.lrem h hx hg hd hs hy (by rw [q]; exact hr)
variable {Z : State} {a0 : Array Value} {h h' : Heap} {a b : Addr} {ty : FieldType} {n : Nat} {f : Nat → Value} {sl : Nat} {v : Value} {ws : List Addr}
/-- the array at a has n places, place k holds f k -/
def own_A (Z : State) (h : Heap) (a : Addr) (ty : FieldType) (n : Nat) (f : Nat → Value) : Prop := ∃ c : Cell, Arr Z h a c ty ∧ c.slots.size = n ∧ ∀ k, k < n → c.slots[k]? = some (f k)
abbrev own_AJ (Z : State) (h : Heap) (a : Addr) (n : Nat) (F : Nat → Int64) : Prop := own_A Z h a .long n (fun k => .long (F k))
abbrev own_AI (Z : State) (h : Heap) (a : Addr) (n : Nat) (F : Nat → Int32) : Prop := own_A Z h a .int n (fun k => .int (F k))
abbrev own_AB (Z : State) (h : Heap) (a : Addr) (n : Nat) (F : Nat → Int32) : Prop := own_A Z h a .byte n (fun k => .int (F k))
def own_upd {α : Type} (f : Nat → α) (k : Nat) (x : α) : Nat → α := fun i => if i = k then x else f i
theorem own_A.lt (F : own_A Z h a ty n f) : a < h.size := by obtain ⟨c, A, -⟩ := F; exact A.lt
theorem own_A.ext (F : own_A Z h a ty n f) (E : Ext h h') : own_A Z h' a ty n f := by obtain ⟨c, A, r⟩ := F; exact ⟨c, A.ext E, r⟩
theorem own_A.other (F : own_A Z h b ty n f) (W : Wr h h' a sl v) (q : b ≠ a) : own_A Z h' b ty n f := by obtain ⟨c, A, r⟩ := F; exact ⟨c, A.other W q, r⟩
theorem own_A.keep (F : own_A Z h a ty n f) (K : Keep h h' ws) (q : a ∉ ws) : own_A Z h' a ty n f := by obtain ⟨c, A, r⟩ := F; exact ⟨c, ⟨K.2.1 a c A.1 q, A.2⟩, r⟩
theorem own_A.cast {f' : Nat → Value} (F : own_A Z h a ty n f) (q : ∀ k, k < n → f k = f' k) : own_A Z h a ty n f' := by obtain ⟨c, A, S, H⟩ := F; exact ⟨c, A, S, fun k hk => by rw [H k hk, q k hk]⟩
theorem own_idx {j : Int32} {k n : Nat} (hk : j.toInt = k) (hn : k < n) {c : Cell} (S : c.slots.size = n) : ¬ (j < 0 ∨ c.slots.size ≤ j.toNatClampNeg) ∧ j.toNatClampNeg = k := by
  have e : j.toNatClampNeg = k := by show j.toInt.toNat = k; rw [hk]; rfl
  refine ⟨?_, e⟩
  rw [e, S]
  rintro (q | q)
  · rw [Int32.lt_iff_toInt_lt] at q; have : (0 : Int32).toInt = 0 := by decide
    omega
  · omega
theorem own_A.set {c : Cell} (A : Arr Z h a c ty) (S : c.slots.size = n) (H : ∀ k, k < n → c.slots[k]? = some (f k)) {j : Nat} (W : Wr h h' a j v) (hj : j < n) {f' : Nat → Value} (q : ∀ k, k < n → f' k = if k = j then v else f k) : own_A Z h' a ty n f' := by
  refine ⟨c.setSlot j v, A.same W, by rw [sz_set]; exact S, fun i hi => ?_⟩
  rw [q i hi]
  by_cases e : i = j
  · subst e; simp [Cell.setSlot, S, hi]
  · rw [if_neg e, ← H i hi]; show (c.slots.setIfInBounds j v)[i]? = _; exact Array.getElem?_setIfInBounds_ne (Ne.symm e)
theorem own_ldJ (X : Stand p l e R s m args below meth c T locs cells slots) (hx : p.tables.exec = Jvm.exec) (hZ : Z.Warmed39 s.vm) (eT : T.heap = h) {F : Nat → Int64} (V : own_AJ Z h a n F) {j : Int32} {k : Nat} (hk : j.toInt = k) (hn : k < n) {g : JFrame} (hg : g.method = m) {rest : List Value} (hs : g.stack = .int j :: .ref a :: rest) (hd : decode c.code g.pc = .ok (.laload, 1)) :
    ∀ target, Steps p.tables e below (T.setTop { g with pc := g.pc + 1, stack := .long (F k) :: rest }) target → Steps p.tables e below (T.setTop g) target := by
  obtain ⟨c, A, S, H⟩ := V
  obtain ⟨q, e'⟩ := own_idx hk hn S
  intro target hr
  exact X.laload hx (by rw [eT]; exact A.1) (State.isArrayOf_alike hZ.alike A.2.1) A.2.2 q (v := .long (F k)) (by rw [e']; exact H k hn) hg hs hd target hr
theorem own_ldI (X : Stand p l e R s m args below meth c T locs cells slots) (hx : p.tables.exec = Jvm.exec) (hZ : Z.Warmed39 s.vm) (eT : T.heap = h) {F : Nat → Int32} (V : own_AI Z h a n F) {j : Int32} {k : Nat} (hk : j.toInt = k) (hn : k < n) {g : JFrame} (hg : g.method = m) {rest : List Value} (hs : g.stack = .int j :: .ref a :: rest) (hd : decode c.code g.pc = .ok (.iaload, 1)) :
    ∀ target, Steps p.tables e below (T.setTop { g with pc := g.pc + 1, stack := .int (F k) :: rest }) target → Steps p.tables e below (T.setTop g) target := by
  obtain ⟨c, A, S, H⟩ := V
  obtain ⟨q, e'⟩ := own_idx hk hn S
  intro target hr
  exact X.iaload hx (by rw [eT]; exact A.1) (State.isArrayOf_alike hZ.alike A.2.1) A.2.2 q (v := .int (F k)) (by rw [e']; exact H k hn) hg hs hd target hr
theorem own_ldB (X : Stand p l e R s m args below meth c T locs cells slots) (hx : p.tables.exec = Jvm.exec) (hZ : Z.Warmed39 s.vm) (eT : T.heap = h) {F : Nat → Int32} (V : own_AB Z h a n F) {j : Int32} {k : Nat} (hk : j.toInt = k) (hn : k < n) {g : JFrame} (hg : g.method = m) {rest : List Value} (hs : g.stack = .int j :: .ref a :: rest) (hd : decode c.code g.pc = .ok (.baload, 1)) :
    ∀ target, Steps p.tables e below (T.setTop { g with pc := g.pc + 1, stack := .int (F k) :: rest }) target → Steps p.tables e below (T.setTop g) target := by
  obtain ⟨c, A, S, H⟩ := V
  obtain ⟨q, e'⟩ := own_idx hk hn S
  intro target hr
  exact X.baloadBytes hx (by rw [eT]; exact A.1) (State.isArrayOf_alike hZ.alike A.2.1) A.2.2 q (v := .int (F k)) (by rw [e']; exact H k hn) hg hs hd target hr
theorem own_stJ (X : Stand p l e R s m args below meth c T locs cells slots) (hx : p.tables.exec = Jvm.exec) (hZ : Z.Warmed39 s.vm) (eT : T.heap = h) {F : Nat → Int64} (V : own_AJ Z h a n F) {j : Int32} {x : Int64} {k : Nat} (hk : j.toInt = k) (hn : k < n) {g : JFrame} (hg : g.method = m) {rest : List Value} (hs : g.stack = .long x :: .int j :: .ref a :: rest) (hd : decode c.code g.pc = .ok (.lastore, 1)) :
    ∃ T' h', Stand p l e R s m args below meth c T' (locs ++ [⟨a, j.toNatClampNeg⟩]) cells slots ∧ T'.heap = h' ∧ Wr h h' a j.toNatClampNeg (.long x) ∧ own_AJ Z h' a n (own_upd F k x) ∧ ∀ target, Steps p.tables e below (T'.setTop { g with pc := g.pc + 1, stack := rest }) target → Steps p.tables e below (T.setTop g) target := by
  obtain ⟨c, A, S, H⟩ := V
  obtain ⟨q, e'⟩ := own_idx hk hn S
  obtain ⟨T', h', X', e1, W, st⟩ := stJ X hx hZ eT A q hg hs hd
  exact ⟨T', h', X', e1, W, own_A.set A S H W (by rw [e']; exact hn) (fun i _ => by rw [e']; show Value.long (if i = k then x else F i) = _; by_cases z : i = k <;> simp [z]), st⟩
theorem own_stI (X : Stand p l e R s m args below meth c T locs cells slots) (hx : p.tables.exec = Jvm.exec) (hZ : Z.Warmed39 s.vm) (eT : T.heap = h) {F : Nat → Int32} (V : own_AI Z h a n F) {j : Int32} {x : Int32} {k : Nat} (hk : j.toInt = k) (hn : k < n) {g : JFrame} (hg : g.method = m) {rest : List Value} (hs : g.stack = .int x :: .int j :: .ref a :: rest) (hd : decode c.code g.pc = .ok (.iastore, 1)) :
    ∃ T' h', Stand p l e R s m args below meth c T' (locs ++ [⟨a, j.toNatClampNeg⟩]) cells slots ∧ T'.heap = h' ∧ Wr h h' a j.toNatClampNeg (.int x) ∧ own_AI Z h' a n (own_upd F k x) ∧ ∀ target, Steps p.tables e below (T'.setTop { g with pc := g.pc + 1, stack := rest }) target → Steps p.tables e below (T.setTop g) target := by
  obtain ⟨c, A, S, H⟩ := V
  obtain ⟨q, e'⟩ := own_idx hk hn S
  obtain ⟨T', h', X', e1, W, st⟩ := stI X hx hZ eT A q hg hs hd
  exact ⟨T', h', X', e1, W, own_A.set A S H W (by rw [e']; exact hn) (fun i _ => by rw [e']; show Value.int (if i = k then x else F i) = _; by_cases z : i = k <;> simp [z]), st⟩
theorem own_stB (X : Stand p l e R s m args below meth c T locs cells slots) (hx : p.tables.exec = Jvm.exec) (hZ : Z.Warmed39 s.vm) (eT : T.heap = h) {F : Nat → Int32} (V : own_AB Z h a n F) {j : Int32} {x : Int32} {k : Nat} (hk : j.toInt = k) (hn : k < n) {g : JFrame} (hg : g.method = m) {rest : List Value} (hs : g.stack = .int x :: .int j :: .ref a :: rest) (hd : decode c.code g.pc = .ok (.bastore, 1)) :
    ∃ T' h', Stand p l e R s m args below meth c T' (locs ++ [⟨a, j.toNatClampNeg⟩]) cells slots ∧ T'.heap = h' ∧ Wr h h' a j.toNatClampNeg (.int (nar .byte x)) ∧ own_AB Z h' a n (own_upd F k (nar .byte x)) ∧ ∀ target, Steps p.tables e below (T'.setTop { g with pc := g.pc + 1, stack := rest }) target → Steps p.tables e below (T.setTop g) target := by
  obtain ⟨c, A, S, H⟩ := V
  obtain ⟨q, e'⟩ := own_idx hk hn S
  obtain ⟨T', h', X', e1, W, st⟩ := stB X hx hZ eT A q hg hs hd
  exact ⟨T', h', X', e1, W, own_A.set A S H W (by rw [e']; exact hn) (fun i _ => by rw [e']; show Value.int (if i = k then nar .byte x else F i) = _; by_cases z : i = k <;> simp [z]), st⟩
theorem own_newA {cA : ClassId} {z : Int32} {N : Nat} (A : Arr Z h a (newA cA ty z) ty) (hz : z.toInt = N) : own_A Z h a ty N (fun _ => defaultValue ty) := by
  have e : z.toNatClampNeg = N := by show z.toInt.toNat = N; rw [hz]; rfl
  refine ⟨_, A, by rw [sz_new]; exact e, fun k hk => ?_⟩
  show (Array.replicate z.toNatClampNeg (defaultValue ty))[k]? = _
  rw [e]; simp [hk]
theorem own_neg {z : Int32} {N : Nat} (hz : z.toInt = N) : ¬ z < 0 ∧ z.toNatClampNeg = N := by
  refine ⟨fun q => ?_, by show z.toInt.toNat = N; rw [hz]; rfl⟩
  rw [Int32.lt_iff_toInt_lt] at q; have : (0 : Int32).toInt = 0 := by decide
  omega
theorem own_newJ (X : Stand p l e R s m args below meth c T locs cells slots) (hx : p.tables.exec = Jvm.exec) (hZ : Z.Warmed39 s.vm) (w : (Cond.arrayClass .long).before a0 Z = true) (eT : T.heap = h) {g : JFrame} (hg : g.method = m) (hd : decode c.code g.pc = .ok (.newarray .long, 2)) {z : Int32} {rest : List Value} (hs : g.stack = .int z :: rest)
    {N : Nat} (hz : z.toInt = N) {cap : Nat} (hcap : N ≤ cap) (hb : cap * 8 ≤ 536870912) (hc : cells + 1 ≤ R.cells) (hl : slots + cap ≤ R.slots) :
    ∃ T' h', Stand p l e R s m args below meth c T' locs (cells + 1) (slots + cap) ∧ T'.heap = h' ∧ Ext h h' ∧ own_AJ Z h' h.size N (fun _ => 0) ∧ ∀ target, Steps p.tables e below (T'.setTop { g with pc := g.pc + 2, stack := .ref h.size :: rest }) target → Steps p.tables e below (T.setTop g) target := by
  obtain ⟨q1, q2⟩ := own_neg hz
  obtain ⟨T', h', cA, X', e1, E, A, st⟩ := newP X hx hZ (aty := .long) w eT hg hd hs q1 (cap := cap) (by rw [q2]; exact hcap) hb hc hl
  exact ⟨T', h', X', e1, E, own_newA A hz, st⟩
theorem own_newI (X : Stand p l e R s m args below meth c T locs cells slots) (hx : p.tables.exec = Jvm.exec) (hZ : Z.Warmed39 s.vm) (w : (Cond.arrayClass .int).before a0 Z = true) (eT : T.heap = h) {g : JFrame} (hg : g.method = m) (hd : decode c.code g.pc = .ok (.newarray .int, 2)) {z : Int32} {rest : List Value} (hs : g.stack = .int z :: rest)
    {N : Nat} (hz : z.toInt = N) {cap : Nat} (hcap : N ≤ cap) (hb : cap * 8 ≤ 536870912) (hc : cells + 1 ≤ R.cells) (hl : slots + cap ≤ R.slots) :
    ∃ T' h', Stand p l e R s m args below meth c T' locs (cells + 1) (slots + cap) ∧ T'.heap = h' ∧ Ext h h' ∧ own_AI Z h' h.size N (fun _ => 0) ∧ ∀ target, Steps p.tables e below (T'.setTop { g with pc := g.pc + 2, stack := .ref h.size :: rest }) target → Steps p.tables e below (T.setTop g) target := by
  obtain ⟨q1, q2⟩ := own_neg hz
  obtain ⟨T', h', cA, X', e1, E, A, st⟩ := newP X hx hZ (aty := .int) w eT hg hd hs q1 (cap := cap) (by rw [q2]; exact hcap) hb hc hl
  exact ⟨T', h', X', e1, E, own_newA A hz, st⟩
theorem own_newB (X : Stand p l e R s m args below meth c T locs cells slots) (hx : p.tables.exec = Jvm.exec) (hZ : Z.Warmed39 s.vm) (w : (Cond.arrayClass .byte).before a0 Z = true) (eT : T.heap = h) {g : JFrame} (hg : g.method = m) (hd : decode c.code g.pc = .ok (.newarray .byte, 2)) {z : Int32} {rest : List Value} (hs : g.stack = .int z :: rest)
    {N : Nat} (hz : z.toInt = N) {cap : Nat} (hcap : N ≤ cap) (hb : cap * 8 ≤ 536870912) (hc : cells + 1 ≤ R.cells) (hl : slots + cap ≤ R.slots) :
    ∃ T' h', Stand p l e R s m args below meth c T' locs (cells + 1) (slots + cap) ∧ T'.heap = h' ∧ Ext h h' ∧ own_AB Z h' h.size N (fun _ => 0) ∧ ∀ target, Steps p.tables e below (T'.setTop { g with pc := g.pc + 2, stack := .ref h.size :: rest }) target → Steps p.tables e below (T.setTop g) target := by
  obtain ⟨q1, q2⟩ := own_neg hz
  obtain ⟨T', h', cA, X', e1, E, A, st⟩ := newP X hx hZ (aty := .byte) w eT hg hd hs q1 (cap := cap) (by rw [q2]; exact hcap) hb hc hl
  exact ⟨T', h', X', e1, E, own_newA A hz, st⟩
theorem own_len (X : Stand p l e R s m args below meth c T locs cells slots) (hx : p.tables.exec = Jvm.exec) (hZ : Z.Warmed39 s.vm) (eT : T.heap = h) (V : own_A Z h a ty n f) {z : Int32} (hz : z.toInt = n) {g : JFrame} (hg : g.method = m) {rest : List Value} (hs : g.stack = .ref a :: rest) (hd : decode c.code g.pc = .ok (.arraylength, 1)) :
    ∀ target, Steps p.tables e below (T.setTop { g with pc := g.pc + 1, stack := .int z :: rest }) target → Steps p.tables e below (T.setTop g) target := by
  obtain ⟨c, A, S, H⟩ := V
  obtain ⟨q1, q2⟩ := own_neg hz
  intro target hr
  exact X.arraylength hx (by rw [eT]; exact A.1) (State.isArrayOf_alike hZ.alike A.2.1) hg hs hd target (by rw [len_of (S.trans q2.symm) q1]; exact hr)
end New
end Jvm.RoadKit
namespace Jvm.Pilot.@@N@@
open Jvm Jvm.ClassFile Sem Op Lib Jvm.Free Jvm.Stand Jvm.LawKit Jvm.RoadKit Bundle Jvm.Pilot.@@N@@.Jvm.D
def own_pick (sh bit : Int32) (x y : Int64) : Int64 := if (XT.ushr sh bit &&& (1 : Int32)) = (0 : Int32) then y else x
def own_max (a b : Int32) : Int32 := if a < b then b else a
def own_place (sh : Int32) (x y : Int64) (aF bF i len : Int32) : Int32 := if i < len then (if x = y then 1 else if (XT.ushr sh (aF + i) &&& (1 : Int32)) = (XT.ushr sh (((4 : Int32) + bF) + i) &&& (1 : Int32)) then 1 else 0) else 0
def own_cnt (F G : Nat → Int64) (af bf : Nat) : Nat → Int32
  | 0 => 0
  | n + 1 => if F (af + n) = G (bf + n) then own_cnt F G af bf n + 1 else own_cnt F G af bf n
def own_FA (sh : Int32) (x y : Int64) (k : Nat) : Int64 := own_pick sh (Int32.ofNat k) x y
def own_FB (sh : Int32) (x y : Int64) (k : Nat) : Int64 := own_pick sh (Int32.ofNat (4 + k)) x y
theorem own_nat {x : Int32} {a : Nat} (h : x.toInt = a) : x = Int32.ofNat a := by
  have r := rng32 x
  rw [← Int32.toInt_inj, h, Int32.toInt_ofNat_of_lt (by omega)]
theorem own_add {x y : Int32} {a b : Nat} (hx : x.toInt = a) (hy : y.toInt = b) (h : a + b < 2147483648) : (x + y).toInt = ((a + b : Nat) : Int) := by
  have q := c_iadd x y
  have r := rng32 (x + y)
  omega
theorem own_lt {x y : Int32} {a b : Nat} (hx : x.toInt = a) (hy : y.toInt = b) : x < y ↔ a < b := by
  rw [Int32.lt_iff_toInt_lt]; omega
theorem own_bits (sh : Int32) (x y : Int64) (u v : Int32) : (own_pick sh u x y = own_pick sh v x y) ↔ (x = y ∨ (XT.ushr sh u &&& (1 : Int32)) = (XT.ushr sh v &&& (1 : Int32))) := by
  unfold own_pick
  rcases and_one (XT.ushr sh u) with a | a <;> rcases and_one (XT.ushr sh v) with b | b <;> rw [a, b]
  · simp
  · simp only [↓reduceIte, if_neg (show ¬ (1 : Int32) = 0 by decide)]
    exact ⟨fun h => Or.inl h.symm, fun h => h.elim (fun z => z.symm) (fun z => absurd z (by decide))⟩
  · simp only [↓reduceIte, if_neg (show ¬ (1 : Int32) = 0 by decide)]
    exact ⟨fun h => Or.inl h, fun h => h.elim id (fun z => absurd z (by decide))⟩
  · simp
theorem own_pl {sh : Int32} {x y : Int64} {aF bF i len : Int32} {af bf k ln : Nat} (ha : aF.toInt = af) (hb : bF.toInt = bf) (hi : i.toInt = k) (hl : len.toInt = ln) (h1 : af < 8) (h2 : bf < 8) (h3 : k < 8) :
    own_place sh x y aF bF i len = if k < ln then (if own_FA sh x y (af + k) = own_FB sh x y (bf + k) then 1 else 0) else 0 := by
  have e1 : aF + i = Int32.ofNat (af + k) := own_nat (own_add ha hi (by omega))
  have e2 : ((4 : Int32) + bF) + i = Int32.ofNat (4 + (bf + k)) := own_nat (by rw [own_add (own_add (show (4 : Int32).toInt = (4 : Nat) by decide) hb (by omega)) hi (by omega)]; omega)
  unfold own_place own_FA own_FB
  simp only [own_lt hi hl, own_bits, e1, e2]
  by_cases a : k < ln
  · rw [if_pos a, if_pos a]
    by_cases b : x = y
    · rw [if_pos b, if_pos (Or.inl b)]
    · rw [if_neg b]
      by_cases d : (XT.ushr sh (Int32.ofNat (af + k)) &&& (1 : Int32)) = (XT.ushr sh (Int32.ofNat (4 + (bf + k))) &&& (1 : Int32))
      · rw [if_pos d, if_pos (Or.inr d)]
      · rw [if_neg d, if_neg (fun z => z.elim b d)]
  · rw [if_neg a, if_neg a]
theorem own_sum (F G : Nat → Int64) (af bf ln : Nat) (h : ln ≤ 4) : own_cnt F G af bf ln = ((((if 0 < ln then (if F (af + 0) = G (bf + 0) then (1 : Int32) else 0) else 0) + (if 1 < ln then (if F (af + 1) = G (bf + 1) then (1 : Int32) else 0) else 0)) + (if 2 < ln then (if F (af + 2) = G (bf + 2) then (1 : Int32) else 0) else 0)) + (if 3 < ln then (if F (af + 3) = G (bf + 3) then (1 : Int32) else 0) else 0)) := by
  match ln, h with
  | 0, _ => simp [own_cnt]
  | 1, _ => simp only [own_cnt]; by_cases a : F (af + 0) = G (bf + 0) <;> simp [a]
  | 2, _ => simp only [own_cnt]; by_cases a : F (af + 0) = G (bf + 0) <;> by_cases b : F (af + 1) = G (bf + 1) <;> simp [a, b]
  | 3, _ => simp only [own_cnt]; by_cases a : F (af + 0) = G (bf + 0) <;> by_cases b : F (af + 1) = G (bf + 1) <;> by_cases c : F (af + 2) = G (bf + 2) <;> simp [a, b, c]
  | 4, _ => simp only [own_cnt]; by_cases a : F (af + 0) = G (bf + 0) <;> by_cases b : F (af + 1) = G (bf + 1) <;> by_cases c : F (af + 2) = G (bf + 2) <;> by_cases d : F (af + 3) = G (bf + 3) <;> simp [a, b, c, d]
theorem own_msk (x m : Int32) (k : Nat) (hk : k ≤ 31) (hm : m.toBitVec.toNat = 2 ^ k - 1) : ∃ a : Nat, (x &&& m).toInt = a ∧ a < 2 ^ k := by
  have h := c_mask x m k hk hm
  have p : (0 : Int) < ((2 ^ k : Nat) : Int) := by exact_mod_cast Nat.two_pow_pos k
  have b1 := Int.emod_nonneg x.toInt (Int.ne_of_gt p)
  have b2 := Int.emod_lt_of_pos x.toInt p
  refine ⟨(x &&& m).toInt.toNat, by omega, ?_⟩
  omega
theorem own_room {aF bF : Int32} {af bf : Nat} (ha : aF.toInt = af) (hb : bF.toInt = bf) (h1 : af < 4) (h2 : bf < 4) : (((4 : Int32) - own_max aF bF) + (1 : Int32)).toInt = 5 - (if af < bf then bf else af : Nat) := by
  have e : (own_max aF bF).toInt = ((if af < bf then bf else af : Nat) : Int) := by
    unfold own_max
    by_cases q : af < bf
    · rw [if_pos ((own_lt ha hb).mpr q), if_pos q]; exact hb
    · rw [if_neg (fun z => q ((own_lt ha hb).mp z)), if_neg q]; exact ha
  have m : (if af < bf then bf else af : Nat) < 4 := by split <;> omega
  generalize (if af < bf then bf else af : Nat) = mx at e m
  have q1 := c_isub (4 : Int32) (own_max aF bF)
  have q2 := c_iadd ((4 : Int32) - own_max aF bF) (1 : Int32)
  have r1 := rng32 ((4 : Int32) - own_max aF bF)
  have r2 := rng32 (((4 : Int32) - own_max aF bF) + (1 : Int32))
  have k4 : (4 : Int32).toInt = 4 := by decide
  have k1 : (1 : Int32).toInt = 1 := by decide
  omega
theorem own_len4 {aF bF x : Int32} {af bf : Nat} (ha : aF.toInt = af) (hb : bF.toInt = bf) (h1 : af < 4) (h2 : bf < 4) : ∃ ln : Nat, ((x &&& (7 : Int32)) % (((4 : Int32) - own_max aF bF) + (1 : Int32))).toInt = ln ∧ af + ln ≤ 4 ∧ bf + ln ≤ 4 := by
  have e := own_room ha hb h1 h2
  obtain ⟨a, q, -⟩ := own_msk x (7 : Int32) 3 (by decide) (by decide)
  have d := (c_irem (x &&& (7 : Int32)) (((4 : Int32) - own_max aF bF) + (1 : Int32)) _ e).1 (by omega)
  have m1 : (if af < bf then bf else af : Nat) < 4 := by split <;> omega
  have m2 : af ≤ (if af < bf then bf else af : Nat) := by split <;> omega
  have m3 : bf ≤ (if af < bf then bf else af : Nat) := by split <;> omega
  generalize (if af < bf then bf else af : Nat) = mx at e d m1 m2 m3
  have b1 := Int.emod_nonneg (x &&& (7 : Int32)).toInt (show (5 - (mx : Int)) ≠ 0 by omega)
  have b2 := Int.emod_lt_of_pos (x &&& (7 : Int32)).toInt (show (0 : Int) < 5 - (mx : Int) by omega)
  rw [← d] at b1 b2
  exact ⟨((x &&& (7 : Int32)) % (((4 : Int32) - own_max aF bF) + (1 : Int32))).toInt.toNat, by omega, by omega, by omega⟩
theorem own_rnz {aF bF : Int32} {af bf : Nat} (ha : aF.toInt = af) (hb : bF.toInt = bf) (h1 : af < 4) (h2 : bf < 4) : (((4 : Int32) - own_max aF bF) + (1 : Int32)) ≠ 0 := fun z => by
  have e := own_room ha hb h1 h2
  have m1 : (if af < bf then bf else af : Nat) < 4 := by split <;> omega
  rw [z, show (0 : Int32).toInt = 0 by decide] at e; omega
theorem own_d1_0 : decode method_3_code 0 = .ok (.iload_n 0, 1) := by decide +kernel
theorem own_d1_1 : decode method_3_code 1 = .ok (.iload_n 1, 1) := by decide +kernel
theorem own_d1_2 : decode method_3_code 2 = .ok (.iushr, 1) := by decide +kernel
theorem own_d1_3 : decode method_3_code 3 = .ok (.iconst 1, 1) := by decide +kernel
theorem own_d1_4 : decode method_3_code 4 = .ok (.iand, 1) := by decide +kernel
theorem own_d1_5 : decode method_3_code 5 = .ok (.ifCond .eq 5, 3) := by decide +kernel
theorem own_d1_10 : decode method_3_code 10 = .ok (.lload 4, 2) := by decide +kernel
theorem own_d1_12 : decode method_3_code 12 = .ok (.lreturn, 1) := by decide +kernel
theorem own_d1_8 : decode method_3_code 8 = .ok (.lload_n 2, 1) := by decide +kernel
theorem own_d1_9 : decode method_3_code 9 = .ok (.lreturn, 1) := by decide +kernel
theorem own_pn0 : plainName "com/example/vote64/vote64/sketch/MinWiseSamplesEqualPlacesPinLaw" = true := by first | (simp [plainName, overriddenIn]; done) | decide +kernel
theorem own_ef1 (m : MethodId) (x0 : Int32) (x1 : Int32) (x2 : Int64) (x3 : Int64) : entryFrame m #[(.int x0), (.int x1), (.long x2), (.long x3)] 6 = mkF m 0 #[.val (.int x0), .val (.int x1), .val (.long x2), .second, .val (.long x3), .second] [] := by first | (simp [entryFrame, mkF, argsToLocals, Value.category]; done) | rfl
def own_Q1 (Z : State) (p0 : Int32) (p1 : Int32) (q2 : Int64) (q3 : Int64) (h0 : Heap) (n0 : Nat) (v : Option Value) (h : Heap) (L : List Loc) : Prop := v = some (.long (own_pick p0 p1 q2 q3)) ∧ Fr n0 L ∧ h = h0
set_option maxRecDepth 65536 in
set_option maxHeartbeats 40000000 in
theorem rm1 (l : Launch) (Z : State) (aw : Array Value) (hw : ∀ d ∈ tables_1, d.before aw Z = true) (ws : List Jvm.Cond) (p0 : Int32) (p1 : Int32) (q2 : Int64) (q3 : Int64) (h0 : Heap) (n0 : Nat) (Z0 : n0 ≤ h0.size) :
    MetFree l (⟨"com/example/vote64/vote64/sketch/MinWiseSamplesEqualPlacesPinLaw", "pick", "(IIJJ)J"⟩ : MethodName) (head1 (Jvm.Cond.code (⟨"com/example/vote64/vote64/sketch/MinWiseSamplesEqualPlacesPinLaw", "pick", "(IIJJ)J"⟩ : MethodName) method_3_code 6 (some .long) :: ws) ({ frames := 0, cells := 0, slots := 0, locals := 0 } : Room)) (fun a U => a = #[(.int p0), (.int p1), (.long q2), (.long q3)] ∧ Z.Warmed39 U.vm ∧ U.heap = h0) (fun _ _ _ _ _ => True) (fun _ U o U' => ∃ v L, o = .returned v ∧ own_Q1 Z p0 p1 q2 q3 h0 n0 v U'.heap L ∧ FrameEnd U o U' L ({ frames := 0, cells := 0, slots := 0, locals := 0 } : Room).cells ({ frames := 0, cells := 0, slots := 0, locals := 0 } : Room).slots) := by
  refine MetFree.of_bodySF (plainFor_of_name own_pn0) hisR ?_
  intro p e s m args below meth c s₁ Bd hml0 hP hK
  obtain ⟨rfl, hZ, hh⟩ := hP
  have hx := Bd.exec
  have hby := Bd.bytes
  have hml : c.maxLocals = 6 := hml0
  have hown : s.vm.findClass "com/example/vote64/vote64/sketch/MinWiseSamplesEqualPlacesPinLaw" = some m.cls := findClass_of_methodNamed Bd.named
  have hnm := (name_of_methodNamed Bd.named Bd.method).1
  have X0 : Stand p l e ({ frames := 0, cells := 0, slots := 0, locals := 0 } : Room) s m #[(.int p0), (.int p1), (.long q2), (.long q3)] below meth c s₁ [] 0 0 := Stand.of_body Bd
  have e0 : s₁.heap = h0 := by rw [← hh, Bd.state]; rfl
  have N0 := Fr.nil n0
  show own_G p.tables e below s (own_Q1 Z p0 p1 q2 q3 h0 n0) ({ frames := 0, cells := 0, slots := 0, locals := 0 } : Room).cells ({ frames := 0, cells := 0, slots := 0, locals := 0 } : Room).slots (s₁.setTop (entryFrame m #[(.int p0), (.int p1), (.long q2), (.long q3)] 6))
  refine own_by (fun _ k => castTop (own_ef1 m p0 p1 q2 q3) k) ?_
  show own_G _ _ _ _ _ _ _ (s₁.setTop (mkF m 0 #[.val (.int p0), .val (.int p1), .val (.long q2), .second, .val (.long q3), .second] []))
  refine own_by (fun _ k => XS.iloadN X0.here hx rfl (hb hby own_d1_0) rfl  k) ?_
  show own_G _ _ _ _ _ _ _ (s₁.setTop (mkF m 1 #[.val (.int p0), .val (.int p1), .val (.long q2), .second, .val (.long q3), .second] [(.int p0)]))
  refine own_by (fun _ k => XS.iloadN X0.here hx rfl (hb hby own_d1_1) rfl  k) ?_
  show own_G _ _ _ _ _ _ _ (s₁.setTop (mkF m 2 #[.val (.int p0), .val (.int p1), .val (.long q2), .second, .val (.long q3), .second] [(.int p1), (.int p0)]))
  refine own_by (fun _ k => XT.iushr X0.here hx rfl (hb hby own_d1_2) rfl k) ?_
  show own_G _ _ _ _ _ _ _ (s₁.setTop (mkF m 3 #[.val (.int p0), .val (.int p1), .val (.long q2), .second, .val (.long q3), .second] [(.int (XT.ushr p0 p1))]))
  refine own_by (fun _ k => XS.iconst X0.here hx rfl (hb hby own_d1_3) k) ?_
  show own_G _ _ _ _ _ _ _ (s₁.setTop (mkF m 4 #[.val (.int p0), .val (.int p1), .val (.long q2), .second, .val (.long q3), .second] [(.int (1 : Int32)), (.int (XT.ushr p0 p1))]))
  refine own_by (fun _ k => XS.iand X0.here hx rfl (hb hby own_d1_4) rfl k) ?_
  show own_G _ _ _ _ _ _ _ (s₁.setTop (mkF m 5 #[.val (.int p0), .val (.int p1), .val (.long q2), .second, .val (.long q3), .second] [(.int ((XT.ushr p0 p1) &&& (1 : Int32)))]))
  by_cases hc5 : ((XT.ushr p0 p1) &&& (1 : Int32)) = (0 : Int32)
  · refine own_by (fun _ k => XS.ifYes X0.here hx rfl (pc0 := 5) (pc' := 10) rfl (hb hby own_d1_5) rfl (XT.i0_eq_t hc5) (by decide) (by decide) k) ?_
    show own_G _ _ _ _ _ _ _ (s₁.setTop (mkF m 10 #[.val (.int p0), .val (.int p1), .val (.long q2), .second, .val (.long q3), .second] []))
    refine own_by (fun _ k => XT.lload X0.here hx rfl (hb hby own_d1_10) rfl  k) ?_
    show own_G _ _ _ _ _ _ _ (s₁.setTop (mkF m 12 #[.val (.int p0), .val (.int p1), .val (.long q2), .second, .val (.long q3), .second] [(.long q3)]))
    exact own_end X0 (v := some (.long q3)) (fun h => by rw [Bd.returns] at h; cases h) (BodyLoose.notSynchronized Bd) (fun fs hr => X0.lreturnOut hx Bd.returns (hb hby own_d1_12) hr) (by rw [e0]; exact ⟨(by simp only [own_pick, if_pos hc5]; first | done | rfl), N0, rfl⟩) (by decide) (by decide)
  · refine own_by (fun _ k => XS.ifNo X0.here hx rfl (hb hby own_d1_5) rfl (XT.i0_eq_f hc5) k) ?_
    show own_G _ _ _ _ _ _ _ (s₁.setTop (mkF m 8 #[.val (.int p0), .val (.int p1), .val (.long q2), .second, .val (.long q3), .second] []))
    refine own_by (fun _ k => XT.lloadN X0.here hx rfl (hb hby own_d1_8) rfl  k) ?_
    show own_G _ _ _ _ _ _ _ (s₁.setTop (mkF m 9 #[.val (.int p0), .val (.int p1), .val (.long q2), .second, .val (.long q3), .second] [(.long q2)]))
    exact own_end X0 (v := some (.long q2)) (fun h => by rw [Bd.returns] at h; cases h) (BodyLoose.notSynchronized Bd) (fun fs hr => X0.lreturnOut hx Bd.returns (hb hby own_d1_9) hr) (by rw [e0]; exact ⟨(by simp only [own_pick, if_neg hc5]; first | done | rfl), N0, rfl⟩) (by decide) (by decide)
theorem own_d2_0 : decode jdk_29_method_65_code 0 = .ok (.iload_n 0, 1) := by decide +kernel
theorem own_d2_1 : decode jdk_29_method_65_code 1 = .ok (.iload_n 1, 1) := by decide +kernel
theorem own_d2_2 : decode jdk_29_method_65_code 2 = .ok (.if_icmp .lt 7, 3) := by decide +kernel
theorem own_d2_9 : decode jdk_29_method_65_code 9 = .ok (.iload_n 1, 1) := by decide +kernel
theorem own_d2_10 : decode jdk_29_method_65_code 10 = .ok (.ireturn, 1) := by decide +kernel
theorem own_d2_5 : decode jdk_29_method_65_code 5 = .ok (.iload_n 0, 1) := by decide +kernel
theorem own_d2_6 : decode jdk_29_method_65_code 6 = .ok (.goto 4, 3) := by decide +kernel
theorem own_ef2 (m : MethodId) (x0 : Int32) (x1 : Int32) : entryFrame m #[(.int x0), (.int x1)] 2 = mkF m 0 #[.val (.int x0), .val (.int x1)] [] := by first | (simp [entryFrame, mkF, argsToLocals, Value.category]; done) | rfl
def own_Q2 (Z : State) (p0 : Int32) (p1 : Int32) (h0 : Heap) (n0 : Nat) (v : Option Value) (h : Heap) (L : List Loc) : Prop := v = some (.int (own_max p0 p1)) ∧ Fr n0 L ∧ h = h0
set_option maxRecDepth 65536 in
set_option maxHeartbeats 40000000 in
theorem rm2 (l : Launch) (Z : State) (aw : Array Value) (hw : ∀ d ∈ tables_1, d.before aw Z = true) (ws : List Jvm.Cond) (p0 : Int32) (p1 : Int32) (h0 : Heap) (n0 : Nat) (Z0 : n0 ≤ h0.size) :
    MetFree l (⟨"java/lang/Math", "max", "(II)I"⟩ : MethodName) (head1 (Jvm.Cond.code (⟨"java/lang/Math", "max", "(II)I"⟩ : MethodName) jdk_29_method_65_code 2 (some .int) :: ws) ({ frames := 0, cells := 0, slots := 0, locals := 0 } : Room)) (fun a U => a = #[(.int p0), (.int p1)] ∧ Z.Warmed39 U.vm ∧ U.heap = h0) (fun _ _ _ _ _ => True) (fun _ U o U' => ∃ v L, o = .returned v ∧ own_Q2 Z p0 p1 h0 n0 v U'.heap L ∧ FrameEnd U o U' L ({ frames := 0, cells := 0, slots := 0, locals := 0 } : Room).cells ({ frames := 0, cells := 0, slots := 0, locals := 0 } : Room).slots) := by
  refine MetFree.of_bodySF (Jvm.Free.JP.mathPlain rfl (by decide +kernel)) hisR ?_
  intro p e s m args below meth c s₁ Bd hml0 hP hK
  obtain ⟨rfl, hZ, hh⟩ := hP
  have hx := Bd.exec
  have hby := Bd.bytes
  have hml : c.maxLocals = 2 := hml0
  have hown : s.vm.findClass "java/lang/Math" = some m.cls := findClass_of_methodNamed Bd.named
  have hnm := (name_of_methodNamed Bd.named Bd.method).1
  have X0 : Stand p l e ({ frames := 0, cells := 0, slots := 0, locals := 0 } : Room) s m #[(.int p0), (.int p1)] below meth c s₁ [] 0 0 := Stand.of_body Bd
  have e0 : s₁.heap = h0 := by rw [← hh, Bd.state]; rfl
  have N0 := Fr.nil n0
  show own_G p.tables e below s (own_Q2 Z p0 p1 h0 n0) ({ frames := 0, cells := 0, slots := 0, locals := 0 } : Room).cells ({ frames := 0, cells := 0, slots := 0, locals := 0 } : Room).slots (s₁.setTop (entryFrame m #[(.int p0), (.int p1)] 2))
  refine own_by (fun _ k => castTop (own_ef2 m p0 p1) k) ?_
  show own_G _ _ _ _ _ _ _ (s₁.setTop (mkF m 0 #[.val (.int p0), .val (.int p1)] []))
  refine own_by (fun _ k => XS.iloadN X0.here hx rfl (hb hby own_d2_0) rfl  k) ?_
  show own_G _ _ _ _ _ _ _ (s₁.setTop (mkF m 1 #[.val (.int p0), .val (.int p1)] [(.int p0)]))
  refine own_by (fun _ k => XS.iloadN X0.here hx rfl (hb hby own_d2_1) rfl  k) ?_
  show own_G _ _ _ _ _ _ _ (s₁.setTop (mkF m 2 #[.val (.int p0), .val (.int p1)] [(.int p1), (.int p0)]))
  by_cases hc2 : p0 < p1
  · refine own_by (fun _ k => XS.icmpYes X0.here hx rfl (pc0 := 2) (pc' := 9) rfl (hb hby own_d2_2) rfl (XT.ii_lt_t hc2) (by decide) (by decide) k) ?_
    show own_G _ _ _ _ _ _ _ (s₁.setTop (mkF m 9 #[.val (.int p0), .val (.int p1)] []))
    refine own_by (fun _ k => XS.iloadN X0.here hx rfl (hb hby own_d2_9) rfl  k) ?_
    show own_G _ _ _ _ _ _ _ (s₁.setTop (mkF m 10 #[.val (.int p0), .val (.int p1)] [(.int p1)]))
    exact own_end X0 (v := some (.int p1)) (fun h => by rw [Bd.returns] at h; cases h) (BodyLoose.notSynchronized Bd) (fun fs hr => retI X0 hx Bd.returns (hb hby own_d2_10) hr) (by rw [e0]; exact ⟨(by simp only [own_max, if_pos hc2]; first | done | rfl), N0, rfl⟩) (by decide) (by decide)
  · refine own_by (fun _ k => XS.icmpNo X0.here hx rfl (hb hby own_d2_2) rfl (XT.ii_lt_f hc2) k) ?_
    show own_G _ _ _ _ _ _ _ (s₁.setTop (mkF m 5 #[.val (.int p0), .val (.int p1)] []))
    refine own_by (fun _ k => XS.iloadN X0.here hx rfl (hb hby own_d2_5) rfl  k) ?_
    show own_G _ _ _ _ _ _ _ (s₁.setTop (mkF m 6 #[.val (.int p0), .val (.int p1)] [(.int p0)]))
    refine own_by (fun _ k => XS.goto X0.here hx rfl (pc0 := 6) (pc' := 10) rfl (hb hby own_d2_6) (by decide) (by decide) k) ?_
    show own_G _ _ _ _ _ _ _ (s₁.setTop (mkF m 10 #[.val (.int p0), .val (.int p1)] [(.int p0)]))
    exact own_end X0 (v := some (.int p0)) (fun h => by rw [Bd.returns] at h; cases h) (BodyLoose.notSynchronized Bd) (fun fs hr => retI X0 hx Bd.returns (hb hby own_d2_10) hr) (by rw [e0]; exact ⟨(by simp only [own_max, if_neg hc2]; first | done | rfl), N0, rfl⟩) (by decide) (by decide)
theorem own_d4_0 : decode method_4_code 0 = .ok (.iload 7, 2) := by decide +kernel
theorem own_d4_2 : decode method_4_code 2 = .ok (.iload 8, 2) := by decide +kernel
theorem own_d4_4 : decode method_4_code 4 = .ok (.if_icmp .lt 5, 3) := by decide +kernel
theorem own_d4_9 : decode method_4_code 9 = .ok (.iload_n 0, 1) := by decide +kernel
theorem own_d4_10 : decode method_4_code 10 = .ok (.iload 5, 2) := by decide +kernel
theorem own_d4_12 : decode method_4_code 12 = .ok (.iload 7, 2) := by decide +kernel
theorem own_d4_14 : decode method_4_code 14 = .ok (.iadd, 1) := by decide +kernel
theorem own_d4_15 : decode method_4_code 15 = .ok (.iushr, 1) := by decide +kernel
theorem own_d4_16 : decode method_4_code 16 = .ok (.iconst 1, 1) := by decide +kernel
theorem own_d4_17 : decode method_4_code 17 = .ok (.iand, 1) := by decide +kernel
theorem own_d4_18 : decode method_4_code 18 = .ok (.istore 9, 2) := by decide +kernel
theorem own_d4_20 : decode method_4_code 20 = .ok (.iload_n 0, 1) := by decide +kernel
theorem own_d4_21 : decode method_4_code 21 = .ok (.iconst 4, 1) := by decide +kernel
theorem own_d4_22 : decode method_4_code 22 = .ok (.iload 6, 2) := by decide +kernel
theorem own_d4_24 : decode method_4_code 24 = .ok (.iadd, 1) := by decide +kernel
theorem own_d4_25 : decode method_4_code 25 = .ok (.iload 7, 2) := by decide +kernel
theorem own_d4_27 : decode method_4_code 27 = .ok (.iadd, 1) := by decide +kernel
theorem own_d4_28 : decode method_4_code 28 = .ok (.iushr, 1) := by decide +kernel
theorem own_d4_29 : decode method_4_code 29 = .ok (.iconst 1, 1) := by decide +kernel
theorem own_d4_30 : decode method_4_code 30 = .ok (.iand, 1) := by decide +kernel
theorem own_d4_31 : decode method_4_code 31 = .ok (.istore 10, 2) := by decide +kernel
theorem own_d4_33 : decode method_4_code 33 = .ok (.lload_n 1, 1) := by decide +kernel
theorem own_d4_34 : decode method_4_code 34 = .ok (.lload_n 3, 1) := by decide +kernel
theorem own_d4_35 : decode method_4_code 35 = .ok (.lcmp, 1) := by decide +kernel
theorem own_d4_36 : decode method_4_code 36 = .ok (.ifCond .eq 10, 3) := by decide +kernel
theorem own_d4_46 : decode method_4_code 46 = .ok (.iconst 1, 1) := by decide +kernel
theorem own_d4_47 : decode method_4_code 47 = .ok (.ireturn, 1) := by decide +kernel
theorem own_d4_39 : decode method_4_code 39 = .ok (.iload 9, 2) := by decide +kernel
theorem own_d4_41 : decode method_4_code 41 = .ok (.iload 10, 2) := by decide +kernel
theorem own_d4_43 : decode method_4_code 43 = .ok (.if_icmp .ne 5, 3) := by decide +kernel
theorem own_d4_48 : decode method_4_code 48 = .ok (.iconst 0, 1) := by decide +kernel
theorem own_d4_49 : decode method_4_code 49 = .ok (.ireturn, 1) := by decide +kernel
theorem own_d4_7 : decode method_4_code 7 = .ok (.iconst 0, 1) := by decide +kernel
theorem own_d4_8 : decode method_4_code 8 = .ok (.ireturn, 1) := by decide +kernel
theorem own_ef3 (m : MethodId) (x0 : Int32) (x1 : Int64) (x2 : Int64) (x3 : Int32) (x4 : Int32) (x5 : Int32) (x6 : Int32) : entryFrame m #[(.int x0), (.long x1), (.long x2), (.int x3), (.int x4), (.int x5), (.int x6)] 11 = mkF m 0 #[.val (.int x0), .val (.long x1), .second, .val (.long x2), .second, .val (.int x3), .val (.int x4), .val (.int x5), .val (.int x6), .unset, .unset] [] := by first | (simp [entryFrame, mkF, argsToLocals, Value.category]; done) | rfl
def own_Q3 (Z : State) (p0 : Int32) (q1 : Int64) (q2 : Int64) (p3 : Int32) (p4 : Int32) (p5 : Int32) (p6 : Int32) (h0 : Heap) (n0 : Nat) (v : Option Value) (h : Heap) (L : List Loc) : Prop := v = some (.int (own_place p0 q1 q2 p3 p4 p5 p6)) ∧ Fr n0 L ∧ h = h0
set_option maxRecDepth 65536 in
set_option maxHeartbeats 40000000 in
theorem rm3 (l : Launch) (Z : State) (aw : Array Value) (hw : ∀ d ∈ tables_1, d.before aw Z = true) (ws : List Jvm.Cond) (p0 : Int32) (q1 : Int64) (q2 : Int64) (p3 : Int32) (p4 : Int32) (p5 : Int32) (p6 : Int32) (h0 : Heap) (n0 : Nat) (Z0 : n0 ≤ h0.size) :
    MetFree l (⟨"com/example/vote64/vote64/sketch/MinWiseSamplesEqualPlacesPinLaw", "place", "(IJJIIII)I"⟩ : MethodName) (head1 (Jvm.Cond.code (⟨"com/example/vote64/vote64/sketch/MinWiseSamplesEqualPlacesPinLaw", "place", "(IJJIIII)I"⟩ : MethodName) method_4_code 11 (some .int) :: ws) ({ frames := 0, cells := 0, slots := 0, locals := 0 } : Room)) (fun a U => a = #[(.int p0), (.long q1), (.long q2), (.int p3), (.int p4), (.int p5), (.int p6)] ∧ Z.Warmed39 U.vm ∧ U.heap = h0) (fun _ _ _ _ _ => True) (fun _ U o U' => ∃ v L, o = .returned v ∧ own_Q3 Z p0 q1 q2 p3 p4 p5 p6 h0 n0 v U'.heap L ∧ FrameEnd U o U' L ({ frames := 0, cells := 0, slots := 0, locals := 0 } : Room).cells ({ frames := 0, cells := 0, slots := 0, locals := 0 } : Room).slots) := by
  refine MetFree.of_bodySF (plainFor_of_name own_pn0) hisR ?_
  intro p e s m args below meth c s₁ Bd hml0 hP hK
  obtain ⟨rfl, hZ, hh⟩ := hP
  have hx := Bd.exec
  have hby := Bd.bytes
  have hml : c.maxLocals = 11 := hml0
  have hown : s.vm.findClass "com/example/vote64/vote64/sketch/MinWiseSamplesEqualPlacesPinLaw" = some m.cls := findClass_of_methodNamed Bd.named
  have hnm := (name_of_methodNamed Bd.named Bd.method).1
  have X0 : Stand p l e ({ frames := 0, cells := 0, slots := 0, locals := 0 } : Room) s m #[(.int p0), (.long q1), (.long q2), (.int p3), (.int p4), (.int p5), (.int p6)] below meth c s₁ [] 0 0 := Stand.of_body Bd
  have e0 : s₁.heap = h0 := by rw [← hh, Bd.state]; rfl
  have N0 := Fr.nil n0
  show own_G p.tables e below s (own_Q3 Z p0 q1 q2 p3 p4 p5 p6 h0 n0) ({ frames := 0, cells := 0, slots := 0, locals := 0 } : Room).cells ({ frames := 0, cells := 0, slots := 0, locals := 0 } : Room).slots (s₁.setTop (entryFrame m #[(.int p0), (.long q1), (.long q2), (.int p3), (.int p4), (.int p5), (.int p6)] 11))
  refine own_by (fun _ k => castTop (own_ef3 m p0 q1 q2 p3 p4 p5 p6) k) ?_
  show own_G _ _ _ _ _ _ _ (s₁.setTop (mkF m 0 #[.val (.int p0), .val (.long q1), .second, .val (.long q2), .second, .val (.int p3), .val (.int p4), .val (.int p5), .val (.int p6), .unset, .unset] []))
  refine own_by (fun _ k => XS.iload X0.here hx rfl (hb hby own_d4_0) rfl  k) ?_
  show own_G _ _ _ _ _ _ _ (s₁.setTop (mkF m 2 #[.val (.int p0), .val (.long q1), .second, .val (.long q2), .second, .val (.int p3), .val (.int p4), .val (.int p5), .val (.int p6), .unset, .unset] [(.int p5)]))
  refine own_by (fun _ k => XS.iload X0.here hx rfl (hb hby own_d4_2) rfl  k) ?_
  show own_G _ _ _ _ _ _ _ (s₁.setTop (mkF m 4 #[.val (.int p0), .val (.long q1), .second, .val (.long q2), .second, .val (.int p3), .val (.int p4), .val (.int p5), .val (.int p6), .unset, .unset] [(.int p6), (.int p5)]))
  by_cases hc4 : p5 < p6
  · refine own_by (fun _ k => XS.icmpYes X0.here hx rfl (pc0 := 4) (pc' := 9) rfl (hb hby own_d4_4) rfl (XT.ii_lt_t hc4) (by decide) (by decide) k) ?_
    show own_G _ _ _ _ _ _ _ (s₁.setTop (mkF m 9 #[.val (.int p0), .val (.long q1), .second, .val (.long q2), .second, .val (.int p3), .val (.int p4), .val (.int p5), .val (.int p6), .unset, .unset] []))
    refine own_by (fun _ k => XS.iloadN X0.here hx rfl (hb hby own_d4_9) rfl  k) ?_
    show own_G _ _ _ _ _ _ _ (s₁.setTop (mkF m 10 #[.val (.int p0), .val (.long q1), .second, .val (.long q2), .second, .val (.int p3), .val (.int p4), .val (.int p5), .val (.int p6), .unset, .unset] [(.int p0)]))
    refine own_by (fun _ k => XS.iload X0.here hx rfl (hb hby own_d4_10) rfl  k) ?_
    show own_G _ _ _ _ _ _ _ (s₁.setTop (mkF m 12 #[.val (.int p0), .val (.long q1), .second, .val (.long q2), .second, .val (.int p3), .val (.int p4), .val (.int p5), .val (.int p6), .unset, .unset] [(.int p3), (.int p0)]))
    refine own_by (fun _ k => XS.iload X0.here hx rfl (hb hby own_d4_12) rfl  k) ?_
    show own_G _ _ _ _ _ _ _ (s₁.setTop (mkF m 14 #[.val (.int p0), .val (.long q1), .second, .val (.long q2), .second, .val (.int p3), .val (.int p4), .val (.int p5), .val (.int p6), .unset, .unset] [(.int p5), (.int p3), (.int p0)]))
    refine own_by (fun _ k => XS.iadd X0.here hx rfl (hb hby own_d4_14) rfl k) ?_
    show own_G _ _ _ _ _ _ _ (s₁.setTop (mkF m 15 #[.val (.int p0), .val (.long q1), .second, .val (.long q2), .second, .val (.int p3), .val (.int p4), .val (.int p5), .val (.int p6), .unset, .unset] [(.int (p3 + p5)), (.int p0)]))
    refine own_by (fun _ k => XT.iushr X0.here hx rfl (hb hby own_d4_15) rfl k) ?_
    show own_G _ _ _ _ _ _ _ (s₁.setTop (mkF m 16 #[.val (.int p0), .val (.long q1), .second, .val (.long q2), .second, .val (.int p3), .val (.int p4), .val (.int p5), .val (.int p6), .unset, .unset] [(.int (XT.ushr p0 (p3 + p5)))]))
    refine own_by (fun _ k => XS.iconst X0.here hx rfl (hb hby own_d4_16) k) ?_
    show own_G _ _ _ _ _ _ _ (s₁.setTop (mkF m 17 #[.val (.int p0), .val (.long q1), .second, .val (.long q2), .second, .val (.int p3), .val (.int p4), .val (.int p5), .val (.int p6), .unset, .unset] [(.int (1 : Int32)), (.int (XT.ushr p0 (p3 + p5)))]))
    refine own_by (fun _ k => XS.iand X0.here hx rfl (hb hby own_d4_17) rfl k) ?_
    show own_G _ _ _ _ _ _ _ (s₁.setTop (mkF m 18 #[.val (.int p0), .val (.long q1), .second, .val (.long q2), .second, .val (.int p3), .val (.int p4), .val (.int p5), .val (.int p6), .unset, .unset] [(.int ((XT.ushr p0 (p3 + p5)) &&& (1 : Int32)))]))
    refine own_by (fun _ k => XS.istore X0.here hx rfl (hb hby own_d4_18) rfl (l' := #[.val (.int p0), .val (.long q1), .second, .val (.long q2), .second, .val (.int p3), .val (.int p4), .val (.int p5), .val (.int p6), .val (.int ((XT.ushr p0 (p3 + p5)) &&& (1 : Int32))), .unset]) rfl k) ?_
    show own_G _ _ _ _ _ _ _ (s₁.setTop (mkF m 20 #[.val (.int p0), .val (.long q1), .second, .val (.long q2), .second, .val (.int p3), .val (.int p4), .val (.int p5), .val (.int p6), .val (.int ((XT.ushr p0 (p3 + p5)) &&& (1 : Int32))), .unset] []))
    refine own_by (fun _ k => XS.iloadN X0.here hx rfl (hb hby own_d4_20) rfl  k) ?_
    show own_G _ _ _ _ _ _ _ (s₁.setTop (mkF m 21 #[.val (.int p0), .val (.long q1), .second, .val (.long q2), .second, .val (.int p3), .val (.int p4), .val (.int p5), .val (.int p6), .val (.int ((XT.ushr p0 (p3 + p5)) &&& (1 : Int32))), .unset] [(.int p0)]))
    refine own_by (fun _ k => XS.iconst X0.here hx rfl (hb hby own_d4_21) k) ?_
    show own_G _ _ _ _ _ _ _ (s₁.setTop (mkF m 22 #[.val (.int p0), .val (.long q1), .second, .val (.long q2), .second, .val (.int p3), .val (.int p4), .val (.int p5), .val (.int p6), .val (.int ((XT.ushr p0 (p3 + p5)) &&& (1 : Int32))), .unset] [(.int (4 : Int32)), (.int p0)]))
    refine own_by (fun _ k => XS.iload X0.here hx rfl (hb hby own_d4_22) rfl  k) ?_
    show own_G _ _ _ _ _ _ _ (s₁.setTop (mkF m 24 #[.val (.int p0), .val (.long q1), .second, .val (.long q2), .second, .val (.int p3), .val (.int p4), .val (.int p5), .val (.int p6), .val (.int ((XT.ushr p0 (p3 + p5)) &&& (1 : Int32))), .unset] [(.int p4), (.int (4 : Int32)), (.int p0)]))
    refine own_by (fun _ k => XS.iadd X0.here hx rfl (hb hby own_d4_24) rfl k) ?_
    show own_G _ _ _ _ _ _ _ (s₁.setTop (mkF m 25 #[.val (.int p0), .val (.long q1), .second, .val (.long q2), .second, .val (.int p3), .val (.int p4), .val (.int p5), .val (.int p6), .val (.int ((XT.ushr p0 (p3 + p5)) &&& (1 : Int32))), .unset] [(.int ((4 : Int32) + p4)), (.int p0)]))
    refine own_by (fun _ k => XS.iload X0.here hx rfl (hb hby own_d4_25) rfl  k) ?_
    show own_G _ _ _ _ _ _ _ (s₁.setTop (mkF m 27 #[.val (.int p0), .val (.long q1), .second, .val (.long q2), .second, .val (.int p3), .val (.int p4), .val (.int p5), .val (.int p6), .val (.int ((XT.ushr p0 (p3 + p5)) &&& (1 : Int32))), .unset] [(.int p5), (.int ((4 : Int32) + p4)), (.int p0)]))
    refine own_by (fun _ k => XS.iadd X0.here hx rfl (hb hby own_d4_27) rfl k) ?_
    show own_G _ _ _ _ _ _ _ (s₁.setTop (mkF m 28 #[.val (.int p0), .val (.long q1), .second, .val (.long q2), .second, .val (.int p3), .val (.int p4), .val (.int p5), .val (.int p6), .val (.int ((XT.ushr p0 (p3 + p5)) &&& (1 : Int32))), .unset] [(.int (((4 : Int32) + p4) + p5)), (.int p0)]))
    refine own_by (fun _ k => XT.iushr X0.here hx rfl (hb hby own_d4_28) rfl k) ?_
    show own_G _ _ _ _ _ _ _ (s₁.setTop (mkF m 29 #[.val (.int p0), .val (.long q1), .second, .val (.long q2), .second, .val (.int p3), .val (.int p4), .val (.int p5), .val (.int p6), .val (.int ((XT.ushr p0 (p3 + p5)) &&& (1 : Int32))), .unset] [(.int (XT.ushr p0 (((4 : Int32) + p4) + p5)))]))
    refine own_by (fun _ k => XS.iconst X0.here hx rfl (hb hby own_d4_29) k) ?_
    show own_G _ _ _ _ _ _ _ (s₁.setTop (mkF m 30 #[.val (.int p0), .val (.long q1), .second, .val (.long q2), .second, .val (.int p3), .val (.int p4), .val (.int p5), .val (.int p6), .val (.int ((XT.ushr p0 (p3 + p5)) &&& (1 : Int32))), .unset] [(.int (1 : Int32)), (.int (XT.ushr p0 (((4 : Int32) + p4) + p5)))]))
    refine own_by (fun _ k => XS.iand X0.here hx rfl (hb hby own_d4_30) rfl k) ?_
    show own_G _ _ _ _ _ _ _ (s₁.setTop (mkF m 31 #[.val (.int p0), .val (.long q1), .second, .val (.long q2), .second, .val (.int p3), .val (.int p4), .val (.int p5), .val (.int p6), .val (.int ((XT.ushr p0 (p3 + p5)) &&& (1 : Int32))), .unset] [(.int ((XT.ushr p0 (((4 : Int32) + p4) + p5)) &&& (1 : Int32)))]))
    refine own_by (fun _ k => XS.istore X0.here hx rfl (hb hby own_d4_31) rfl (l' := #[.val (.int p0), .val (.long q1), .second, .val (.long q2), .second, .val (.int p3), .val (.int p4), .val (.int p5), .val (.int p6), .val (.int ((XT.ushr p0 (p3 + p5)) &&& (1 : Int32))), .val (.int ((XT.ushr p0 (((4 : Int32) + p4) + p5)) &&& (1 : Int32)))]) rfl k) ?_
    show own_G _ _ _ _ _ _ _ (s₁.setTop (mkF m 33 #[.val (.int p0), .val (.long q1), .second, .val (.long q2), .second, .val (.int p3), .val (.int p4), .val (.int p5), .val (.int p6), .val (.int ((XT.ushr p0 (p3 + p5)) &&& (1 : Int32))), .val (.int ((XT.ushr p0 (((4 : Int32) + p4) + p5)) &&& (1 : Int32)))] []))
    refine own_by (fun _ k => XT.lloadN X0.here hx rfl (hb hby own_d4_33) rfl  k) ?_
    show own_G _ _ _ _ _ _ _ (s₁.setTop (mkF m 34 #[.val (.int p0), .val (.long q1), .second, .val (.long q2), .second, .val (.int p3), .val (.int p4), .val (.int p5), .val (.int p6), .val (.int ((XT.ushr p0 (p3 + p5)) &&& (1 : Int32))), .val (.int ((XT.ushr p0 (((4 : Int32) + p4) + p5)) &&& (1 : Int32)))] [(.long q1)]))
    refine own_by (fun _ k => XT.lloadN X0.here hx rfl (hb hby own_d4_34) rfl  k) ?_
    show own_G _ _ _ _ _ _ _ (s₁.setTop (mkF m 35 #[.val (.int p0), .val (.long q1), .second, .val (.long q2), .second, .val (.int p3), .val (.int p4), .val (.int p5), .val (.int p6), .val (.int ((XT.ushr p0 (p3 + p5)) &&& (1 : Int32))), .val (.int ((XT.ushr p0 (((4 : Int32) + p4) + p5)) &&& (1 : Int32)))] [(.long q2), (.long q1)]))
    refine own_by (fun _ k => XT.lcmp X0.here hx rfl (hb hby own_d4_35) rfl k) ?_
    show own_G _ _ _ _ _ _ _ (s₁.setTop (mkF m 36 #[.val (.int p0), .val (.long q1), .second, .val (.long q2), .second, .val (.int p3), .val (.int p4), .val (.int p5), .val (.int p6), .val (.int ((XT.ushr p0 (p3 + p5)) &&& (1 : Int32))), .val (.int ((XT.ushr p0 (((4 : Int32) + p4) + p5)) &&& (1 : Int32)))] [(.int (XT.cmpL q1 q2))]))
    by_cases hc36 : q1 = q2
    · refine own_by (fun _ k => XS.ifYes X0.here hx rfl (pc0 := 36) (pc' := 46) rfl (hb hby own_d4_36) rfl (XT.ll_eq_t hc36) (by decide) (by decide) k) ?_
      show own_G _ _ _ _ _ _ _ (s₁.setTop (mkF m 46 #[.val (.int p0), .val (.long q1), .second, .val (.long q2), .second, .val (.int p3), .val (.int p4), .val (.int p5), .val (.int p6), .val (.int ((XT.ushr p0 (p3 + p5)) &&& (1 : Int32))), .val (.int ((XT.ushr p0 (((4 : Int32) + p4) + p5)) &&& (1 : Int32)))] []))
      refine own_by (fun _ k => XS.iconst X0.here hx rfl (hb hby own_d4_46) k) ?_
      show own_G _ _ _ _ _ _ _ (s₁.setTop (mkF m 47 #[.val (.int p0), .val (.long q1), .second, .val (.long q2), .second, .val (.int p3), .val (.int p4), .val (.int p5), .val (.int p6), .val (.int ((XT.ushr p0 (p3 + p5)) &&& (1 : Int32))), .val (.int ((XT.ushr p0 (((4 : Int32) + p4) + p5)) &&& (1 : Int32)))] [(.int (1 : Int32))]))
      exact own_end X0 (v := some (.int (1 : Int32))) (fun h => by rw [Bd.returns] at h; cases h) (BodyLoose.notSynchronized Bd) (fun fs hr => retI X0 hx Bd.returns (hb hby own_d4_47) hr) (by rw [e0]; exact ⟨(by simp only [own_place, if_pos hc4, if_pos hc36]; first | done | rfl), N0, rfl⟩) (by decide) (by decide)
    · refine own_by (fun _ k => XS.ifNo X0.here hx rfl (hb hby own_d4_36) rfl (XT.ll_eq_f hc36) k) ?_
      show own_G _ _ _ _ _ _ _ (s₁.setTop (mkF m 39 #[.val (.int p0), .val (.long q1), .second, .val (.long q2), .second, .val (.int p3), .val (.int p4), .val (.int p5), .val (.int p6), .val (.int ((XT.ushr p0 (p3 + p5)) &&& (1 : Int32))), .val (.int ((XT.ushr p0 (((4 : Int32) + p4) + p5)) &&& (1 : Int32)))] []))
      refine own_by (fun _ k => XS.iload X0.here hx rfl (hb hby own_d4_39) rfl  k) ?_
      show own_G _ _ _ _ _ _ _ (s₁.setTop (mkF m 41 #[.val (.int p0), .val (.long q1), .second, .val (.long q2), .second, .val (.int p3), .val (.int p4), .val (.int p5), .val (.int p6), .val (.int ((XT.ushr p0 (p3 + p5)) &&& (1 : Int32))), .val (.int ((XT.ushr p0 (((4 : Int32) + p4) + p5)) &&& (1 : Int32)))] [(.int ((XT.ushr p0 (p3 + p5)) &&& (1 : Int32)))]))
      refine own_by (fun _ k => XS.iload X0.here hx rfl (hb hby own_d4_41) rfl  k) ?_
      show own_G _ _ _ _ _ _ _ (s₁.setTop (mkF m 43 #[.val (.int p0), .val (.long q1), .second, .val (.long q2), .second, .val (.int p3), .val (.int p4), .val (.int p5), .val (.int p6), .val (.int ((XT.ushr p0 (p3 + p5)) &&& (1 : Int32))), .val (.int ((XT.ushr p0 (((4 : Int32) + p4) + p5)) &&& (1 : Int32)))] [(.int ((XT.ushr p0 (((4 : Int32) + p4) + p5)) &&& (1 : Int32))), (.int ((XT.ushr p0 (p3 + p5)) &&& (1 : Int32)))]))
      by_cases hc43 : ((XT.ushr p0 (p3 + p5)) &&& (1 : Int32)) = ((XT.ushr p0 (((4 : Int32) + p4) + p5)) &&& (1 : Int32))
      · refine own_by (fun _ k => XS.icmpNo X0.here hx rfl (hb hby own_d4_43) rfl (XT.ii_ne_f hc43) k) ?_
        show own_G _ _ _ _ _ _ _ (s₁.setTop (mkF m 46 #[.val (.int p0), .val (.long q1), .second, .val (.long q2), .second, .val (.int p3), .val (.int p4), .val (.int p5), .val (.int p6), .val (.int ((XT.ushr p0 (p3 + p5)) &&& (1 : Int32))), .val (.int ((XT.ushr p0 (((4 : Int32) + p4) + p5)) &&& (1 : Int32)))] []))
        refine own_by (fun _ k => XS.iconst X0.here hx rfl (hb hby own_d4_46) k) ?_
        show own_G _ _ _ _ _ _ _ (s₁.setTop (mkF m 47 #[.val (.int p0), .val (.long q1), .second, .val (.long q2), .second, .val (.int p3), .val (.int p4), .val (.int p5), .val (.int p6), .val (.int ((XT.ushr p0 (p3 + p5)) &&& (1 : Int32))), .val (.int ((XT.ushr p0 (((4 : Int32) + p4) + p5)) &&& (1 : Int32)))] [(.int (1 : Int32))]))
        exact own_end X0 (v := some (.int (1 : Int32))) (fun h => by rw [Bd.returns] at h; cases h) (BodyLoose.notSynchronized Bd) (fun fs hr => retI X0 hx Bd.returns (hb hby own_d4_47) hr) (by rw [e0]; exact ⟨(by simp only [own_place, if_pos hc4, if_neg hc36, if_pos hc43]; first | done | rfl), N0, rfl⟩) (by decide) (by decide)
      · refine own_by (fun _ k => XS.icmpYes X0.here hx rfl (pc0 := 43) (pc' := 48) rfl (hb hby own_d4_43) rfl (XT.ii_ne_t hc43) (by decide) (by decide) k) ?_
        show own_G _ _ _ _ _ _ _ (s₁.setTop (mkF m 48 #[.val (.int p0), .val (.long q1), .second, .val (.long q2), .second, .val (.int p3), .val (.int p4), .val (.int p5), .val (.int p6), .val (.int ((XT.ushr p0 (p3 + p5)) &&& (1 : Int32))), .val (.int ((XT.ushr p0 (((4 : Int32) + p4) + p5)) &&& (1 : Int32)))] []))
        refine own_by (fun _ k => XS.iconst X0.here hx rfl (hb hby own_d4_48) k) ?_
        show own_G _ _ _ _ _ _ _ (s₁.setTop (mkF m 49 #[.val (.int p0), .val (.long q1), .second, .val (.long q2), .second, .val (.int p3), .val (.int p4), .val (.int p5), .val (.int p6), .val (.int ((XT.ushr p0 (p3 + p5)) &&& (1 : Int32))), .val (.int ((XT.ushr p0 (((4 : Int32) + p4) + p5)) &&& (1 : Int32)))] [(.int (0 : Int32))]))
        exact own_end X0 (v := some (.int (0 : Int32))) (fun h => by rw [Bd.returns] at h; cases h) (BodyLoose.notSynchronized Bd) (fun fs hr => retI X0 hx Bd.returns (hb hby own_d4_49) hr) (by rw [e0]; exact ⟨(by simp only [own_place, if_pos hc4, if_neg hc36, if_neg hc43]; first | done | rfl), N0, rfl⟩) (by decide) (by decide)
  · refine own_by (fun _ k => XS.icmpNo X0.here hx rfl (hb hby own_d4_4) rfl (XT.ii_lt_f hc4) k) ?_
    show own_G _ _ _ _ _ _ _ (s₁.setTop (mkF m 7 #[.val (.int p0), .val (.long q1), .second, .val (.long q2), .second, .val (.int p3), .val (.int p4), .val (.int p5), .val (.int p6), .unset, .unset] []))
    refine own_by (fun _ k => XS.iconst X0.here hx rfl (hb hby own_d4_7) k) ?_
    show own_G _ _ _ _ _ _ _ (s₁.setTop (mkF m 8 #[.val (.int p0), .val (.long q1), .second, .val (.long q2), .second, .val (.int p3), .val (.int p4), .val (.int p5), .val (.int p6), .unset, .unset] [(.int (0 : Int32))]))
    exact own_end X0 (v := some (.int (0 : Int32))) (fun h => by rw [Bd.returns] at h; cases h) (BodyLoose.notSynchronized Bd) (fun fs hr => retI X0 hx Bd.returns (hb hby own_d4_8) hr) (by rw [e0]; exact ⟨(by simp only [own_place, if_neg hc4]; first | done | rfl), N0, rfl⟩) (by decide) (by decide)
theorem own_d3_0 : decode prog_7_method_5_code 0 = .ok (.iconst 0, 1) := by decide +kernel
theorem own_d3_1 : decode prog_7_method_5_code 1 = .ok (.istore 5, 2) := by decide +kernel
theorem own_d3_3 : decode prog_7_method_5_code 3 = .ok (.iconst 0, 1) := by decide +kernel
theorem own_d3_4 : decode prog_7_method_5_code 4 = .ok (.istore 6, 2) := by decide +kernel
theorem own_d3_6 : decode prog_7_method_5_code 6 = .ok (.iload 6, 2) := by decide +kernel
theorem own_d3_8 : decode prog_7_method_5_code 8 = .ok (.iload 4, 2) := by decide +kernel
theorem own_d3_10 : decode prog_7_method_5_code 10 = .ok (.if_icmp .ge 28, 3) := by decide +kernel
theorem own_d3_13 : decode prog_7_method_5_code 13 = .ok (.aload_n 0, 1) := by decide +kernel
theorem own_d3_14 : decode prog_7_method_5_code 14 = .ok (.iload_n 1, 1) := by decide +kernel
theorem own_d3_15 : decode prog_7_method_5_code 15 = .ok (.iload 6, 2) := by decide +kernel
theorem own_d3_17 : decode prog_7_method_5_code 17 = .ok (.iadd, 1) := by decide +kernel
theorem own_d3_18 : decode prog_7_method_5_code 18 = .ok (.laload, 1) := by decide +kernel
theorem own_d3_19 : decode prog_7_method_5_code 19 = .ok (.aload_n 2, 1) := by decide +kernel
theorem own_d3_20 : decode prog_7_method_5_code 20 = .ok (.iload_n 3, 1) := by decide +kernel
theorem own_d3_21 : decode prog_7_method_5_code 21 = .ok (.iload 6, 2) := by decide +kernel
theorem own_d3_23 : decode prog_7_method_5_code 23 = .ok (.iadd, 1) := by decide +kernel
theorem own_d3_24 : decode prog_7_method_5_code 24 = .ok (.laload, 1) := by decide +kernel
theorem own_d3_25 : decode prog_7_method_5_code 25 = .ok (.lcmp, 1) := by decide +kernel
theorem own_d3_26 : decode prog_7_method_5_code 26 = .ok (.ifCond .ne 6, 3) := by decide +kernel
theorem own_d3_29 : decode prog_7_method_5_code 29 = .ok (.iinc 5 1, 3) := by decide +kernel
theorem own_d3_32 : decode prog_7_method_5_code 32 = .ok (.iinc 6 1, 3) := by decide +kernel
theorem own_d3_35 : decode prog_7_method_5_code 35 = .ok (.goto (-29), 3) := by decide +kernel
theorem own_d3_38 : decode prog_7_method_5_code 38 = .ok (.iload 5, 2) := by decide +kernel
theorem own_d3_40 : decode prog_7_method_5_code 40 = .ok (.ireturn, 1) := by decide +kernel
theorem own_pn1 : plainName "com/example/vote64/vote64/sketch/MinWiseSamples" = true := by first | (simp [plainName, overriddenIn]; done) | decide +kernel
theorem own_ef4 (m : MethodId) (x0 : Addr) (x1 : Int32) (x2 : Addr) (x3 : Int32) (x4 : Int32) : entryFrame m #[(.ref x0), (.int x1), (.ref x2), (.int x3), (.int x4)] 7 = mkF m 0 #[.val (.ref x0), .val (.int x1), .val (.ref x2), .val (.int x3), .val (.int x4), .unset, .unset] [] := by first | (simp [entryFrame, mkF, argsToLocals, Value.category]; done) | rfl
def own_Q4 (Z : State) (a0 : Addr) (p1 : Int32) (a2 : Addr) (p3 : Int32) (p4 : Int32) (F : Nat → Int64) (G : Nat → Int64) (af : Nat) (bf : Nat) (len : Nat) (h0 : Heap) (n0 : Nat) (v : Option Value) (h : Heap) (L : List Loc) : Prop := v = some (.int (own_cnt F G af bf len)) ∧ Fr n0 L ∧ h = h0
set_option maxRecDepth 65536 in
set_option maxHeartbeats 40000000 in
theorem rm4 (l : Launch) (Z : State) (aw : Array Value) (hw : ∀ d ∈ tables_1, d.before aw Z = true) (ws : List Jvm.Cond) (a0 : Addr) (p1 : Int32) (a2 : Addr) (p3 : Int32) (p4 : Int32) (F : Nat → Int64) (G : Nat → Int64) (af : Nat) (bf : Nat) (len : Nat) (h0 : Heap) (n0 : Nat) (Z0 : n0 ≤ h0.size) (VA : own_AJ Z h0 a0 4 F) (VB : own_AJ Z h0 a2 4 G) (h1 : p1.toInt = af) (h3 : p3.toInt = bf) (h4 : p4.toInt = len) (hA : af + len ≤ 4) (hB : bf + len ≤ 4) :
    MetFree l (⟨"com/example/vote64/vote64/sketch/MinWiseSamples", "equalPlaces", "([JI[JII)I"⟩ : MethodName) (head1 (Jvm.Cond.code (⟨"com/example/vote64/vote64/sketch/MinWiseSamples", "equalPlaces", "([JI[JII)I"⟩ : MethodName) prog_7_method_5_code 7 (some .int) :: ws) ({ frames := 0, cells := 0, slots := 0, locals := 0 } : Room)) (fun a U => a = #[(.ref a0), (.int p1), (.ref a2), (.int p3), (.int p4)] ∧ Z.Warmed39 U.vm ∧ U.heap = h0) (fun _ _ _ _ _ => True) (fun _ U o U' => ∃ v L, o = .returned v ∧ own_Q4 Z a0 p1 a2 p3 p4 F G af bf len h0 n0 v U'.heap L ∧ FrameEnd U o U' L ({ frames := 0, cells := 0, slots := 0, locals := 0 } : Room).cells ({ frames := 0, cells := 0, slots := 0, locals := 0 } : Room).slots) := by
  refine MetFree.of_bodySF (plainFor_of_name own_pn1) hisR ?_
  intro p e s m args below meth c s₁ Bd hml0 hP hK
  obtain ⟨rfl, hZ, hh⟩ := hP
  have hx := Bd.exec
  have hby := Bd.bytes
  have hml : c.maxLocals = 7 := hml0
  have hown : s.vm.findClass "com/example/vote64/vote64/sketch/MinWiseSamples" = some m.cls := findClass_of_methodNamed Bd.named
  have hnm := (name_of_methodNamed Bd.named Bd.method).1
  have X0 : Stand p l e ({ frames := 0, cells := 0, slots := 0, locals := 0 } : Room) s m #[(.ref a0), (.int p1), (.ref a2), (.int p3), (.int p4)] below meth c s₁ [] 0 0 := Stand.of_body Bd
  have e0 : s₁.heap = h0 := by rw [← hh, Bd.state]; rfl
  have N0 := Fr.nil n0
  show own_G p.tables e below s (own_Q4 Z a0 p1 a2 p3 p4 F G af bf len h0 n0) ({ frames := 0, cells := 0, slots := 0, locals := 0 } : Room).cells ({ frames := 0, cells := 0, slots := 0, locals := 0 } : Room).slots (s₁.setTop (entryFrame m #[(.ref a0), (.int p1), (.ref a2), (.int p3), (.int p4)] 7))
  refine own_by (fun _ k => castTop (own_ef4 m a0 p1 a2 p3 p4) k) ?_
  show own_G _ _ _ _ _ _ _ (s₁.setTop (mkF m 0 #[.val (.ref a0), .val (.int p1), .val (.ref a2), .val (.int p3), .val (.int p4), .unset, .unset] []))
  refine own_by (fun _ k => XS.iconst X0.here hx rfl (hb hby own_d3_0) k) ?_
  show own_G _ _ _ _ _ _ _ (s₁.setTop (mkF m 1 #[.val (.ref a0), .val (.int p1), .val (.ref a2), .val (.int p3), .val (.int p4), .unset, .unset] [(.int (0 : Int32))]))
  refine own_by (fun _ k => XS.istore X0.here hx rfl (hb hby own_d3_1) rfl (l' := #[.val (.ref a0), .val (.int p1), .val (.ref a2), .val (.int p3), .val (.int p4), .val (.int (0 : Int32)), .unset]) rfl k) ?_
  show own_G _ _ _ _ _ _ _ (s₁.setTop (mkF m 3 #[.val (.ref a0), .val (.int p1), .val (.ref a2), .val (.int p3), .val (.int p4), .val (.int (0 : Int32)), .unset] []))
  refine own_by (fun _ k => XS.iconst X0.here hx rfl (hb hby own_d3_3) k) ?_
  show own_G _ _ _ _ _ _ _ (s₁.setTop (mkF m 4 #[.val (.ref a0), .val (.int p1), .val (.ref a2), .val (.int p3), .val (.int p4), .val (.int (0 : Int32)), .unset] [(.int (0 : Int32))]))
  refine own_by (fun _ k => XS.istore X0.here hx rfl (hb hby own_d3_4) rfl (l' := #[.val (.ref a0), .val (.int p1), .val (.ref a2), .val (.int p3), .val (.int p4), .val (.int (0 : Int32)), .val (.int (0 : Int32))]) rfl k) ?_
  have J6 : ∀ (kk6 : Nat) (Tj1 : State) (lj1 : List Loc) (Xj1 : Stand p l e ({ frames := 0, cells := 0, slots := 0, locals := 0 } : Room) s m #[(.ref a0), (.int p1), (.ref a2), (.int p3), (.int p4)] below meth c Tj1 lj1 0 0) (Nj1 : Fr n0 lj1) (ej1 : Tj1.heap = h0) (ci : Int32) (ii : Int32) (i : Nat) (hii : ii.toInt = i) (hil : i ≤ len) (hci : ci = own_cnt F G af bf i) (hk6 : len - i < kk6), own_G p.tables e below s (own_Q4 Z a0 p1 a2 p3 p4 F G af bf len h0 n0) ({ frames := 0, cells := 0, slots := 0, locals := 0 } : Room).cells ({ frames := 0, cells := 0, slots := 0, locals := 0 } : Room).slots (Tj1.setTop (mkF m 6 #[.val (.ref a0), .val (.int p1), .val (.ref a2), .val (.int p3), .val (.int p4), .val (.int ci), .val (.int ii)] [])) := by
    intro kk6
    induction kk6 with
    | zero => intro Tj1 lj1 Xj1 Nj1 ej1 ci ii i hii hil hci hk6; omega
    | succ kk6 ih6 =>
      intro Tj1 lj1 Xj1 Nj1 ej1 ci ii i hii hil hci hk6
      show own_G _ _ _ _ _ _ _ (Tj1.setTop (mkF m 6 #[.val (.ref a0), .val (.int p1), .val (.ref a2), .val (.int p3), .val (.int p4), .val (.int ci), .val (.int ii)] []))
      refine own_by (fun _ k => XS.iload Xj1.here hx rfl (hb hby own_d3_6) rfl  k) ?_
      show own_G _ _ _ _ _ _ _ (Tj1.setTop (mkF m 8 #[.val (.ref a0), .val (.int p1), .val (.ref a2), .val (.int p3), .val (.int p4), .val (.int ci), .val (.int ii)] [(.int ii)]))
      refine own_by (fun _ k => XS.iload Xj1.here hx rfl (hb hby own_d3_8) rfl  k) ?_
      show own_G _ _ _ _ _ _ _ (Tj1.setTop (mkF m 10 #[.val (.ref a0), .val (.int p1), .val (.ref a2), .val (.int p3), .val (.int p4), .val (.int ci), .val (.int ii)] [(.int p4), (.int ii)]))
      by_cases hc10 : ii < p4
      · refine own_by (fun _ k => XS.icmpNo Xj1.here hx rfl (hb hby own_d3_10) rfl (XT.ii_ge_f hc10) k) ?_
        show own_G _ _ _ _ _ _ _ (Tj1.setTop (mkF m 13 #[.val (.ref a0), .val (.int p1), .val (.ref a2), .val (.int p3), .val (.int p4), .val (.int ci), .val (.int ii)] []))
        have hlt : i < len := (own_lt hii h4).mp hc10
        refine own_by (fun _ k => XS.aloadN Xj1.here hx rfl (hb hby own_d3_13) rfl rfl k) ?_
        show own_G _ _ _ _ _ _ _ (Tj1.setTop (mkF m 14 #[.val (.ref a0), .val (.int p1), .val (.ref a2), .val (.int p3), .val (.int p4), .val (.int ci), .val (.int ii)] [(.ref a0)]))
        refine own_by (fun _ k => XS.iloadN Xj1.here hx rfl (hb hby own_d3_14) rfl  k) ?_
        show own_G _ _ _ _ _ _ _ (Tj1.setTop (mkF m 15 #[.val (.ref a0), .val (.int p1), .val (.ref a2), .val (.int p3), .val (.int p4), .val (.int ci), .val (.int ii)] [(.int p1), (.ref a0)]))
        refine own_by (fun _ k => XS.iload Xj1.here hx rfl (hb hby own_d3_15) rfl  k) ?_
        show own_G _ _ _ _ _ _ _ (Tj1.setTop (mkF m 17 #[.val (.ref a0), .val (.int p1), .val (.ref a2), .val (.int p3), .val (.int p4), .val (.int ci), .val (.int ii)] [(.int ii), (.int p1), (.ref a0)]))
        refine own_by (fun _ k => XS.iadd Xj1.here hx rfl (hb hby own_d3_17) rfl k) ?_
        show own_G _ _ _ _ _ _ _ (Tj1.setTop (mkF m 18 #[.val (.ref a0), .val (.int p1), .val (.ref a2), .val (.int p3), .val (.int p4), .val (.int ci), .val (.int ii)] [(.int (p1 + ii)), (.ref a0)]))
        refine own_by (own_ldJ Xj1 hx hZ ej1 VA (k := (af + i)) (own_add h1 hii (by omega)) (by omega) (g := (mkF m 18 #[.val (.ref a0), .val (.int p1), .val (.ref a2), .val (.int p3), .val (.int p4), .val (.int ci), .val (.int ii)] [(.int (p1 + ii)), (.ref a0)])) rfl rfl (hb hby own_d3_18)) ?_
        show own_G _ _ _ _ _ _ _ (Tj1.setTop (mkF m 19 #[.val (.ref a0), .val (.int p1), .val (.ref a2), .val (.int p3), .val (.int p4), .val (.int ci), .val (.int ii)] [(.long (F (af + i)))]))
        refine own_by (fun _ k => XS.aloadN Xj1.here hx rfl (hb hby own_d3_19) rfl rfl k) ?_
        show own_G _ _ _ _ _ _ _ (Tj1.setTop (mkF m 20 #[.val (.ref a0), .val (.int p1), .val (.ref a2), .val (.int p3), .val (.int p4), .val (.int ci), .val (.int ii)] [(.ref a2), (.long (F (af + i)))]))
        refine own_by (fun _ k => XS.iloadN Xj1.here hx rfl (hb hby own_d3_20) rfl  k) ?_
        show own_G _ _ _ _ _ _ _ (Tj1.setTop (mkF m 21 #[.val (.ref a0), .val (.int p1), .val (.ref a2), .val (.int p3), .val (.int p4), .val (.int ci), .val (.int ii)] [(.int p3), (.ref a2), (.long (F (af + i)))]))
        refine own_by (fun _ k => XS.iload Xj1.here hx rfl (hb hby own_d3_21) rfl  k) ?_
        show own_G _ _ _ _ _ _ _ (Tj1.setTop (mkF m 23 #[.val (.ref a0), .val (.int p1), .val (.ref a2), .val (.int p3), .val (.int p4), .val (.int ci), .val (.int ii)] [(.int ii), (.int p3), (.ref a2), (.long (F (af + i)))]))
        refine own_by (fun _ k => XS.iadd Xj1.here hx rfl (hb hby own_d3_23) rfl k) ?_
        show own_G _ _ _ _ _ _ _ (Tj1.setTop (mkF m 24 #[.val (.ref a0), .val (.int p1), .val (.ref a2), .val (.int p3), .val (.int p4), .val (.int ci), .val (.int ii)] [(.int (p3 + ii)), (.ref a2), (.long (F (af + i)))]))
        refine own_by (own_ldJ Xj1 hx hZ ej1 VB (k := (bf + i)) (own_add h3 hii (by omega)) (by omega) (g := (mkF m 24 #[.val (.ref a0), .val (.int p1), .val (.ref a2), .val (.int p3), .val (.int p4), .val (.int ci), .val (.int ii)] [(.int (p3 + ii)), (.ref a2), (.long (F (af + i)))])) rfl rfl (hb hby own_d3_24)) ?_
        show own_G _ _ _ _ _ _ _ (Tj1.setTop (mkF m 25 #[.val (.ref a0), .val (.int p1), .val (.ref a2), .val (.int p3), .val (.int p4), .val (.int ci), .val (.int ii)] [(.long (G (bf + i))), (.long (F (af + i)))]))
        refine own_by (fun _ k => XT.lcmp Xj1.here hx rfl (hb hby own_d3_25) rfl k) ?_
        show own_G _ _ _ _ _ _ _ (Tj1.setTop (mkF m 26 #[.val (.ref a0), .val (.int p1), .val (.ref a2), .val (.int p3), .val (.int p4), .val (.int ci), .val (.int ii)] [(.int (XT.cmpL (F (af + i)) (G (bf + i))))]))
        by_cases hc26 : (F (af + i)) = (G (bf + i))
        · refine own_by (fun _ k => XS.ifNo Xj1.here hx rfl (hb hby own_d3_26) rfl (XT.ll_ne_f hc26) k) ?_
          show own_G _ _ _ _ _ _ _ (Tj1.setTop (mkF m 29 #[.val (.ref a0), .val (.int p1), .val (.ref a2), .val (.int p3), .val (.int p4), .val (.int ci), .val (.int ii)] []))
          refine own_by (fun _ k => XS.iinc Xj1.here hx rfl (hb hby own_d3_29) rfl (l' := #[.val (.ref a0), .val (.int p1), .val (.ref a2), .val (.int p3), .val (.int p4), .val (.int (ci + (1 : Int32))), .val (.int ii)]) rfl k) ?_
          show own_G _ _ _ _ _ _ _ (Tj1.setTop (mkF m 32 #[.val (.ref a0), .val (.int p1), .val (.ref a2), .val (.int p3), .val (.int p4), .val (.int (ci + (1 : Int32))), .val (.int ii)] []))
          refine own_by (fun _ k => XS.iinc Xj1.here hx rfl (hb hby own_d3_32) rfl (l' := #[.val (.ref a0), .val (.int p1), .val (.ref a2), .val (.int p3), .val (.int p4), .val (.int (ci + (1 : Int32))), .val (.int (ii + (1 : Int32)))]) rfl k) ?_
          show own_G _ _ _ _ _ _ _ (Tj1.setTop (mkF m 35 #[.val (.ref a0), .val (.int p1), .val (.ref a2), .val (.int p3), .val (.int p4), .val (.int (ci + (1 : Int32))), .val (.int (ii + (1 : Int32)))] []))
          refine own_by (fun _ k => XS.goto Xj1.here hx rfl (pc0 := 35) (pc' := 6) rfl (hb hby own_d3_35) (by decide) (by decide) k) ?_
          exact ih6 Tj1 _ Xj1 Nj1 ej1 (ci + (1 : Int32)) (ii + (1 : Int32)) (i + 1) (own_add hii (show (1 : Int32).toInt = (1 : Nat) by decide) (by omega)) (by omega) (by simp only [own_cnt, hci, if_pos hc26]) (by omega)
        · refine own_by (fun _ k => XS.ifYes Xj1.here hx rfl (pc0 := 26) (pc' := 32) rfl (hb hby own_d3_26) rfl (XT.ll_ne_t hc26) (by decide) (by decide) k) ?_
          show own_G _ _ _ _ _ _ _ (Tj1.setTop (mkF m 32 #[.val (.ref a0), .val (.int p1), .val (.ref a2), .val (.int p3), .val (.int p4), .val (.int ci), .val (.int ii)] []))
          refine own_by (fun _ k => XS.iinc Xj1.here hx rfl (hb hby own_d3_32) rfl (l' := #[.val (.ref a0), .val (.int p1), .val (.ref a2), .val (.int p3), .val (.int p4), .val (.int ci), .val (.int (ii + (1 : Int32)))]) rfl k) ?_
          show own_G _ _ _ _ _ _ _ (Tj1.setTop (mkF m 35 #[.val (.ref a0), .val (.int p1), .val (.ref a2), .val (.int p3), .val (.int p4), .val (.int ci), .val (.int (ii + (1 : Int32)))] []))
          refine own_by (fun _ k => XS.goto Xj1.here hx rfl (pc0 := 35) (pc' := 6) rfl (hb hby own_d3_35) (by decide) (by decide) k) ?_
          exact ih6 Tj1 _ Xj1 Nj1 ej1 ci (ii + (1 : Int32)) (i + 1) (own_add hii (show (1 : Int32).toInt = (1 : Nat) by decide) (by omega)) (by omega) (by simp only [own_cnt, hci, if_neg hc26]) (by omega)
      · refine own_by (fun _ k => XS.icmpYes Xj1.here hx rfl (pc0 := 10) (pc' := 38) rfl (hb hby own_d3_10) rfl (XT.ii_ge_t hc10) (by decide) (by decide) k) ?_
        show own_G _ _ _ _ _ _ _ (Tj1.setTop (mkF m 38 #[.val (.ref a0), .val (.int p1), .val (.ref a2), .val (.int p3), .val (.int p4), .val (.int ci), .val (.int ii)] []))
        refine own_by (fun _ k => XS.iload Xj1.here hx rfl (hb hby own_d3_38) rfl  k) ?_
        show own_G _ _ _ _ _ _ _ (Tj1.setTop (mkF m 40 #[.val (.ref a0), .val (.int p1), .val (.ref a2), .val (.int p3), .val (.int p4), .val (.int ci), .val (.int ii)] [(.int ci)]))
        exact own_end Xj1 (v := some (.int ci)) (fun h => by rw [Bd.returns] at h; cases h) (BodyLoose.notSynchronized Bd) (fun fs hr => retI Xj1 hx Bd.returns (hb hby own_d3_40) hr) (by rw [ej1]; exact ⟨(by rw [hci, show i = len from Nat.le_antisymm hil (Nat.le_of_not_lt fun z => hc10 ((own_lt hii h4).mpr z))]), Nj1, rfl⟩) (by decide) (by decide)
  exact J6 (len + 1) s₁ _ X0 N0 e0 (0 : Int32) (0 : Int32) 0 (by decide) (Nat.zero_le _) rfl (by omega)
theorem own_pd0 : parseMethodDescriptor "(IIJJ)J" = some ⟨[.int, .int, .long, .long], some .long⟩ := by decide +kernel
theorem own_pd1 : parseMethodDescriptor "(II)I" = some ⟨[.int, .int], some .int⟩ := by decide +kernel
theorem own_pd2 : parseMethodDescriptor "([JI[JII)I" = some ⟨[(.array .long), .int, (.array .long), .int, .int], some .int⟩ := by decide +kernel
theorem own_pd3 : parseMethodDescriptor "(IJJIIII)I" = some ⟨[.int, .long, .long, .int, .int, .int, .int], some .int⟩ := by decide +kernel
theorem own_ef0 (m : MethodId) (x0 : Int64) (x1 : Int64) (x2 : Int32) (x3 : Int32) : entryFrame m #[(.long x0), (.long x1), (.int x2), (.int x3)] maxLocals = mkF m 0 #[.val (.long x0), .second, .val (.long x1), .second, .val (.int x2), .val (.int x3), .unset, .unset, .unset, .unset, .unset, .unset, .unset, .unset] [] := by first | (simp [entryFrame, mkF, argsToLocals, Value.category, maxLocals]; done) | rfl
def own_Q0 (Z : State) (q0 : Int64) (q1 : Int64) (p2 : Int32) (p3 : Int32) (h0 : Heap) (n0 : Nat) (v : Option Value) (h : Heap) (L : List Loc) : Prop := v = some (.int 1) ∧ Fr n0 L
set_option maxRecDepth 65536 in
set_option maxHeartbeats 40000000 in
theorem rm0 (l : Launch) (Z : State) (aw : Array Value) (hw : ∀ d ∈ tables_1, d.before aw Z = true) (ws : List Jvm.Cond) (q0 : Int64) (q1 : Int64) (p2 : Int32) (p3 : Int32) (h0 : Heap) (n0 : Nat) (Z0 : n0 ≤ h0.size) :
    MetFree l x (head1 (Jvm.Cond.code x code maxLocals ret :: ws) room_1) (fun a U => a = #[(.long q0), (.long q1), (.int p2), (.int p3)] ∧ Z.Warmed39 U.vm ∧ U.heap = h0) (fun _ _ _ _ _ => True) (fun _ U o U' => ∃ v L, o = .returned v ∧ own_Q0 Z q0 q1 p2 p3 h0 n0 v U'.heap L ∧ FrameEnd U o U' L room_1.cells room_1.slots) := by
  refine MetFree.of_bodySF (plainFor_of_name own_pn0) hisR ?_
  intro p e s m args below meth c s₁ Bd hml0 hP hK
  obtain ⟨rfl, hZ, hh⟩ := hP
  have hx := Bd.exec
  have hby := Bd.bytes
  have hml : c.maxLocals = 14 := hml0
  have hown : s.vm.findClass "com/example/vote64/vote64/sketch/MinWiseSamplesEqualPlacesPinLaw" = some m.cls := findClass_of_methodNamed Bd.named
  have hnm := (name_of_methodNamed Bd.named Bd.method).1
  have X0 : Stand p l e room_1 s m #[(.long q0), (.long q1), (.int p2), (.int p3)] below meth c s₁ [] 0 0 := Stand.of_body Bd
  have e0 : s₁.heap = h0 := by rw [← hh, Bd.state]; rfl
  have N0 := Fr.nil n0
  show own_G p.tables e below s (own_Q0 Z q0 q1 p2 p3 h0 n0) room_1.cells room_1.slots (s₁.setTop (entryFrame m #[(.long q0), (.long q1), (.int p2), (.int p3)] maxLocals))
  refine own_by (fun _ k => castTop (own_ef0 m q0 q1 p2 p3) k) ?_
  show own_G _ _ _ _ _ _ _ (s₁.setTop (mkF m 0 #[.val (.long q0), .second, .val (.long q1), .second, .val (.int p2), .val (.int p3), .unset, .unset, .unset, .unset, .unset, .unset, .unset, .unset] []))
  refine own_by (fun _ k => XS.iconst X0.here hx rfl (hb hby at_0) k) ?_
  show own_G _ _ _ _ _ _ _ (s₁.setTop (mkF m 1 #[.val (.long q0), .second, .val (.long q1), .second, .val (.int p2), .val (.int p3), .unset, .unset, .unset, .unset, .unset, .unset, .unset, .unset] [(.int (4 : Int32))]))
  obtain ⟨T2, h2, X2, e2, E2, A2, st2⟩ := own_newJ X0 hx hZ (hw _ (List.mem_of_getElem? (i := 0) rfl)) e0 (g := (mkF m 1 #[.val (.long q0), .second, .val (.long q1), .second, .val (.int p2), .val (.int p3), .unset, .unset, .unset, .unset, .unset, .unset, .unset, .unset] [(.int (4 : Int32))])) rfl (hb hby at_1) rfl (N := 4) (by decide) (cap := 4) (Nat.le_refl _) (by decide) (by decide) (by decide)
  obtain ⟨b2, g2⟩ : ∃ z, z = h0.size := ⟨_, rfl⟩
  rw [← g2] at A2 st2
  have g_b2 : n0 ≤ b2 := Nat.le_trans Z0 (Nat.le_of_eq g2.symm)
  refine own_by st2 ?_
  have Z4 : n0 ≤ h2.size := Nat.le_trans Z0 E2.1
  show own_G _ _ _ _ _ _ _ (T2.setTop (mkF m 3 #[.val (.long q0), .second, .val (.long q1), .second, .val (.int p2), .val (.int p3), .unset, .unset, .unset, .unset, .unset, .unset, .unset, .unset] [(.ref b2)]))
  refine own_by (fun _ k => XS.astore X2.here hx rfl (hb hby at_3) rfl rfl (l' := #[.val (.long q0), .second, .val (.long q1), .second, .val (.int p2), .val (.int p3), .val (.ref b2), .unset, .unset, .unset, .unset, .unset, .unset, .unset]) rfl k) ?_
  show own_G _ _ _ _ _ _ _ (T2.setTop (mkF m 5 #[.val (.long q0), .second, .val (.long q1), .second, .val (.int p2), .val (.int p3), .val (.ref b2), .unset, .unset, .unset, .unset, .unset, .unset, .unset] []))
  refine own_by (fun _ k => XS.iconst X2.here hx rfl (hb hby at_5) k) ?_
  show own_G _ _ _ _ _ _ _ (T2.setTop (mkF m 6 #[.val (.long q0), .second, .val (.long q1), .second, .val (.int p2), .val (.int p3), .val (.ref b2), .unset, .unset, .unset, .unset, .unset, .unset, .unset] [(.int (4 : Int32))]))
  obtain ⟨T5, h5, X5, e5, E5, A5, st5⟩ := own_newJ X2 hx hZ (hw _ (List.mem_of_getElem? (i := 0) rfl)) e2 (g := (mkF m 6 #[.val (.long q0), .second, .val (.long q1), .second, .val (.int p2), .val (.int p3), .val (.ref b2), .unset, .unset, .unset, .unset, .unset, .unset, .unset] [(.int (4 : Int32))])) rfl (hb hby at_6) rfl (N := 4) (by decide) (cap := 4) (Nat.le_refl _) (by decide) (by decide) (by decide)
  obtain ⟨b5, g5⟩ : ∃ z, z = h2.size := ⟨_, rfl⟩
  rw [← g5] at A5 st5
  have ne_b2_b5 : b2 ≠ b5 := Nat.ne_of_lt (Nat.lt_of_lt_of_le A2.lt (Nat.le_of_eq g5.symm))
  have g_b5 : n0 ≤ b5 := Nat.le_trans Z4 (Nat.le_of_eq g5.symm)
  refine own_by st5 ?_
  have F6_0 := A2.ext E5
  have Z7 : n0 ≤ h5.size := Nat.le_trans Z4 E5.1
  show own_G _ _ _ _ _ _ _ (T5.setTop (mkF m 8 #[.val (.long q0), .second, .val (.long q1), .second, .val (.int p2), .val (.int p3), .val (.ref b2), .unset, .unset, .unset, .unset, .unset, .unset, .unset] [(.ref b5)]))
  refine own_by (fun _ k => XS.astore X5.here hx rfl (hb hby at_8) rfl rfl (l' := #[.val (.long q0), .second, .val (.long q1), .second, .val (.int p2), .val (.int p3), .val (.ref b2), .val (.ref b5), .unset, .unset, .unset, .unset, .unset, .unset]) rfl k) ?_
  show own_G _ _ _ _ _ _ _ (T5.setTop (mkF m 10 #[.val (.long q0), .second, .val (.long q1), .second, .val (.int p2), .val (.int p3), .val (.ref b2), .val (.ref b5), .unset, .unset, .unset, .unset, .unset, .unset] []))
  refine own_by (fun _ k => XS.aload X5.here hx rfl (hb hby at_10) rfl rfl k) ?_
  show own_G _ _ _ _ _ _ _ (T5.setTop (mkF m 12 #[.val (.long q0), .second, .val (.long q1), .second, .val (.int p2), .val (.int p3), .val (.ref b2), .val (.ref b5), .unset, .unset, .unset, .unset, .unset, .unset] [(.ref b2)]))
  refine own_by (fun _ k => XS.iconst X5.here hx rfl (hb hby at_12) k) ?_
  show own_G _ _ _ _ _ _ _ (T5.setTop (mkF m 13 #[.val (.long q0), .second, .val (.long q1), .second, .val (.int p2), .val (.int p3), .val (.ref b2), .val (.ref b5), .unset, .unset, .unset, .unset, .unset, .unset] [(.int (0 : Int32)), (.ref b2)]))
  refine own_by (fun _ k => XS.iload X5.here hx rfl (hb hby at_13) rfl  k) ?_
  show own_G _ _ _ _ _ _ _ (T5.setTop (mkF m 15 #[.val (.long q0), .second, .val (.long q1), .second, .val (.int p2), .val (.int p3), .val (.ref b2), .val (.ref b5), .unset, .unset, .unset, .unset, .unset, .unset] [(.int p2), (.int (0 : Int32)), (.ref b2)]))
  refine own_by (fun _ k => XS.iconst X5.here hx rfl (hb hby at_15) k) ?_
  show own_G _ _ _ _ _ _ _ (T5.setTop (mkF m 16 #[.val (.long q0), .second, .val (.long q1), .second, .val (.int p2), .val (.int p3), .val (.ref b2), .val (.ref b5), .unset, .unset, .unset, .unset, .unset, .unset] [(.int (0 : Int32)), (.int p2), (.int (0 : Int32)), (.ref b2)]))
  refine own_by (fun _ k => XT.lloadN X5.here hx rfl (hb hby at_16) rfl  k) ?_
  show own_G _ _ _ _ _ _ _ (T5.setTop (mkF m 17 #[.val (.long q0), .second, .val (.long q1), .second, .val (.int p2), .val (.int p3), .val (.ref b2), .val (.ref b5), .unset, .unset, .unset, .unset, .unset, .unset] [(.long q0), (.int (0 : Int32)), (.int p2), (.int (0 : Int32)), (.ref b2)]))
  refine own_by (fun _ k => XT.lloadN X5.here hx rfl (hb hby at_17) rfl  k) ?_
  show own_G _ _ _ _ _ _ _ (T5.setTop (mkF m 18 #[.val (.long q0), .second, .val (.long q1), .second, .val (.int p2), .val (.int p3), .val (.ref b2), .val (.ref b5), .unset, .unset, .unset, .unset, .unset, .unset] [(.long q1), (.long q0), (.int (0 : Int32)), (.int p2), (.int (0 : Int32)), (.ref b2)]))
  obtain ⟨_, _, ⟨T8, L8, k8, n8⟩, -, X8, ⟨Lc8, hQ8, l8, y8, z8⟩, st8⟩ := Jvm.LawKit.callS X5 hx (y := (⟨"com/example/vote64/vote64/sketch/MinWiseSamplesEqualPlacesPinLaw", "pick", "(IIJJ)J"⟩ : MethodName)) hown (mvT hZ (hw _ (List.mem_of_getElem? (i := 1) rfl))) (mvT hZ (hw _ (List.mem_of_getElem? (i := 2) rfl))) (mvT hZ (hw _ (List.mem_of_getElem? (i := 3) rfl))) (mvT hZ (hw _ (List.mem_of_getElem? (i := 4) rfl))) (by decide) (backOf (W := 2) (rm1 l Z aw hw [] p2 (0 : Int32) q0 q1 h5 n0 Z7 ) hZ (hw _ (List.mem_of_getElem? (i := 4) rfl)) (hw _ (List.mem_of_getElem? (i := 3) rfl)) (by decide) (by decide)) (g := (mkF m 18 #[.val (.long q0), .second, .val (.long q1), .second, .val (.int p2), .val (.int p3), .val (.ref b2), .val (.ref b5), .unset, .unset, .unset, .unset, .unset, .unset] [(.long q1), (.long q0), (.int (0 : Int32)), (.int p2), (.int (0 : Int32)), (.ref b2)])) rfl (by rw [hml]; rfl) (argsL := [(.int p2), (.int (0 : Int32)), (.long q0), (.long q1)]) (rest := [(.int (0 : Int32)), (.ref b2)]) (lenOf own_pd0 rfl) rfl (by show 2 * 0 + _ ≤ _; exact Nat.le_of_eq rfl) (hb hby at_18) (fun _ _ => ⟨rfl, e5, (by decide : 2 + 0 ≤ _), (by decide : 8 + 0 ≤ _)⟩)
  dsimp only [Pt.U, Pt.locs, Pt.cells, Pt.slots] at X8 l8 y8 z8 st8 hQ8
  rw [l8, y8, z8] at X8
  obtain ⟨rfl, Nq8, e8⟩ := hQ8
  have N8 := Fr.app N0 Nq8
  refine own_by (fun _ k => st8 _ k) ?_
  show own_G _ _ _ _ _ _ _ (T8.setTop (mkF m 21 #[.val (.long q0), .second, .val (.long q1), .second, .val (.int p2), .val (.int p3), .val (.ref b2), .val (.ref b5), .unset, .unset, .unset, .unset, .unset, .unset] [(.long (own_pick p2 (0 : Int32) q0 q1)), (.int (0 : Int32)), (.ref b2)]))
  obtain ⟨T9, h9, X9, e9, W9, A9, st9⟩ := own_stJ X8 hx hZ e8 F6_0 (k := 0) (by decide) (by decide) (g := (mkF m 21 #[.val (.long q0), .second, .val (.long q1), .second, .val (.int p2), .val (.int p3), .val (.ref b2), .val (.ref b5), .unset, .unset, .unset, .unset, .unset, .unset] [(.long (own_pick p2 (0 : Int32) q0 q1)), (.int (0 : Int32)), (.ref b2)])) rfl rfl (hb hby at_21)
  refine own_by st9 ?_
  have F10_1 := A5.other W9 (Ne.symm ne_b2_b5)
  have N9 := Fr.snoc X9 N8 g_b2
  have Z11 : n0 ≤ h9.size := Nat.le_trans Z7 (Nat.le_of_eq W9.size.symm)
  show own_G _ _ _ _ _ _ _ (T9.setTop (mkF m 22 #[.val (.long q0), .second, .val (.long q1), .second, .val (.int p2), .val (.int p3), .val (.ref b2), .val (.ref b5), .unset, .unset, .unset, .unset, .unset, .unset] []))
  refine own_by (fun _ k => XS.aload X9.here hx rfl (hb hby at_22) rfl rfl k) ?_
  show own_G _ _ _ _ _ _ _ (T9.setTop (mkF m 24 #[.val (.long q0), .second, .val (.long q1), .second, .val (.int p2), .val (.int p3), .val (.ref b2), .val (.ref b5), .unset, .unset, .unset, .unset, .unset, .unset] [(.ref b2)]))
  refine own_by (fun _ k => XS.iconst X9.here hx rfl (hb hby at_24) k) ?_
  show own_G _ _ _ _ _ _ _ (T9.setTop (mkF m 25 #[.val (.long q0), .second, .val (.long q1), .second, .val (.int p2), .val (.int p3), .val (.ref b2), .val (.ref b5), .unset, .unset, .unset, .unset, .unset, .unset] [(.int (1 : Int32)), (.ref b2)]))
  refine own_by (fun _ k => XS.iload X9.here hx rfl (hb hby at_25) rfl  k) ?_
  show own_G _ _ _ _ _ _ _ (T9.setTop (mkF m 27 #[.val (.long q0), .second, .val (.long q1), .second, .val (.int p2), .val (.int p3), .val (.ref b2), .val (.ref b5), .unset, .unset, .unset, .unset, .unset, .unset] [(.int p2), (.int (1 : Int32)), (.ref b2)]))
  refine own_by (fun _ k => XS.iconst X9.here hx rfl (hb hby at_27) k) ?_
  show own_G _ _ _ _ _ _ _ (T9.setTop (mkF m 28 #[.val (.long q0), .second, .val (.long q1), .second, .val (.int p2), .val (.int p3), .val (.ref b2), .val (.ref b5), .unset, .unset, .unset, .unset, .unset, .unset] [(.int (1 : Int32)), (.int p2), (.int (1 : Int32)), (.ref b2)]))
  refine own_by (fun _ k => XT.lloadN X9.here hx rfl (hb hby at_28) rfl  k) ?_
  show own_G _ _ _ _ _ _ _ (T9.setTop (mkF m 29 #[.val (.long q0), .second, .val (.long q1), .second, .val (.int p2), .val (.int p3), .val (.ref b2), .val (.ref b5), .unset, .unset, .unset, .unset, .unset, .unset] [(.long q0), (.int (1 : Int32)), (.int p2), (.int (1 : Int32)), (.ref b2)]))
  refine own_by (fun _ k => XT.lloadN X9.here hx rfl (hb hby at_29) rfl  k) ?_
  show own_G _ _ _ _ _ _ _ (T9.setTop (mkF m 30 #[.val (.long q0), .second, .val (.long q1), .second, .val (.int p2), .val (.int p3), .val (.ref b2), .val (.ref b5), .unset, .unset, .unset, .unset, .unset, .unset] [(.long q1), (.long q0), (.int (1 : Int32)), (.int p2), (.int (1 : Int32)), (.ref b2)]))
  obtain ⟨_, _, ⟨T12, L12, k12, n12⟩, -, X12, ⟨Lc12, hQ12, l12, y12, z12⟩, st12⟩ := Jvm.LawKit.callS X9 hx (y := (⟨"com/example/vote64/vote64/sketch/MinWiseSamplesEqualPlacesPinLaw", "pick", "(IIJJ)J"⟩ : MethodName)) hown (mvT hZ (hw _ (List.mem_of_getElem? (i := 1) rfl))) (mvT hZ (hw _ (List.mem_of_getElem? (i := 2) rfl))) (mvT hZ (hw _ (List.mem_of_getElem? (i := 3) rfl))) (mvT hZ (hw _ (List.mem_of_getElem? (i := 4) rfl))) (by decide) (backOf (W := 2) (rm1 l Z aw hw [] p2 (1 : Int32) q0 q1 h9 n0 Z11 ) hZ (hw _ (List.mem_of_getElem? (i := 4) rfl)) (hw _ (List.mem_of_getElem? (i := 3) rfl)) (by decide) (by decide)) (g := (mkF m 30 #[.val (.long q0), .second, .val (.long q1), .second, .val (.int p2), .val (.int p3), .val (.ref b2), .val (.ref b5), .unset, .unset, .unset, .unset, .unset, .unset] [(.long q1), (.long q0), (.int (1 : Int32)), (.int p2), (.int (1 : Int32)), (.ref b2)])) rfl (by rw [hml]; rfl) (argsL := [(.int p2), (.int (1 : Int32)), (.long q0), (.long q1)]) (rest := [(.int (1 : Int32)), (.ref b2)]) (lenOf own_pd0 rfl) rfl (by show 2 * 0 + _ ≤ _; exact Nat.le_of_eq rfl) (hb hby at_30) (fun _ _ => ⟨rfl, e9, (by decide : 2 + 0 ≤ _), (by decide : 8 + 0 ≤ _)⟩)
  dsimp only [Pt.U, Pt.locs, Pt.cells, Pt.slots] at X12 l12 y12 z12 st12 hQ12
  rw [l12, y12, z12] at X12
  obtain ⟨rfl, Nq12, e12⟩ := hQ12
  have N12 := Fr.app N9 Nq12
  refine own_by (fun _ k => st12 _ k) ?_
  show own_G _ _ _ _ _ _ _ (T12.setTop (mkF m 33 #[.val (.long q0), .second, .val (.long q1), .second, .val (.int p2), .val (.int p3), .val (.ref b2), .val (.ref b5), .unset, .unset, .unset, .unset, .unset, .unset] [(.long (own_pick p2 (1 : Int32) q0 q1)), (.int (1 : Int32)), (.ref b2)]))
  obtain ⟨T13, h13, X13, e13, W13, A13, st13⟩ := own_stJ X12 hx hZ e12 A9 (k := 1) (by decide) (by decide) (g := (mkF m 33 #[.val (.long q0), .second, .val (.long q1), .second, .val (.int p2), .val (.int p3), .val (.ref b2), .val (.ref b5), .unset, .unset, .unset, .unset, .unset, .unset] [(.long (own_pick p2 (1 : Int32) q0 q1)), (.int (1 : Int32)), (.ref b2)])) rfl rfl (hb hby at_33)
  refine own_by st13 ?_
  have F14_1 := F10_1.other W13 (Ne.symm ne_b2_b5)
  have N13 := Fr.snoc X13 N12 g_b2
  have Z15 : n0 ≤ h13.size := Nat.le_trans Z11 (Nat.le_of_eq W13.size.symm)
  show own_G _ _ _ _ _ _ _ (T13.setTop (mkF m 34 #[.val (.long q0), .second, .val (.long q1), .second, .val (.int p2), .val (.int p3), .val (.ref b2), .val (.ref b5), .unset, .unset, .unset, .unset, .unset, .unset] []))
  refine own_by (fun _ k => XS.aload X13.here hx rfl (hb hby at_34) rfl rfl k) ?_
  show own_G _ _ _ _ _ _ _ (T13.setTop (mkF m 36 #[.val (.long q0), .second, .val (.long q1), .second, .val (.int p2), .val (.int p3), .val (.ref b2), .val (.ref b5), .unset, .unset, .unset, .unset, .unset, .unset] [(.ref b2)]))
  refine own_by (fun _ k => XS.iconst X13.here hx rfl (hb hby at_36) k) ?_
  show own_G _ _ _ _ _ _ _ (T13.setTop (mkF m 37 #[.val (.long q0), .second, .val (.long q1), .second, .val (.int p2), .val (.int p3), .val (.ref b2), .val (.ref b5), .unset, .unset, .unset, .unset, .unset, .unset] [(.int (2 : Int32)), (.ref b2)]))
  refine own_by (fun _ k => XS.iload X13.here hx rfl (hb hby at_37) rfl  k) ?_
  show own_G _ _ _ _ _ _ _ (T13.setTop (mkF m 39 #[.val (.long q0), .second, .val (.long q1), .second, .val (.int p2), .val (.int p3), .val (.ref b2), .val (.ref b5), .unset, .unset, .unset, .unset, .unset, .unset] [(.int p2), (.int (2 : Int32)), (.ref b2)]))
  refine own_by (fun _ k => XS.iconst X13.here hx rfl (hb hby at_39) k) ?_
  show own_G _ _ _ _ _ _ _ (T13.setTop (mkF m 40 #[.val (.long q0), .second, .val (.long q1), .second, .val (.int p2), .val (.int p3), .val (.ref b2), .val (.ref b5), .unset, .unset, .unset, .unset, .unset, .unset] [(.int (2 : Int32)), (.int p2), (.int (2 : Int32)), (.ref b2)]))
  refine own_by (fun _ k => XT.lloadN X13.here hx rfl (hb hby at_40) rfl  k) ?_
  show own_G _ _ _ _ _ _ _ (T13.setTop (mkF m 41 #[.val (.long q0), .second, .val (.long q1), .second, .val (.int p2), .val (.int p3), .val (.ref b2), .val (.ref b5), .unset, .unset, .unset, .unset, .unset, .unset] [(.long q0), (.int (2 : Int32)), (.int p2), (.int (2 : Int32)), (.ref b2)]))
  refine own_by (fun _ k => XT.lloadN X13.here hx rfl (hb hby at_41) rfl  k) ?_
  show own_G _ _ _ _ _ _ _ (T13.setTop (mkF m 42 #[.val (.long q0), .second, .val (.long q1), .second, .val (.int p2), .val (.int p3), .val (.ref b2), .val (.ref b5), .unset, .unset, .unset, .unset, .unset, .unset] [(.long q1), (.long q0), (.int (2 : Int32)), (.int p2), (.int (2 : Int32)), (.ref b2)]))
  obtain ⟨_, _, ⟨T16, L16, k16, n16⟩, -, X16, ⟨Lc16, hQ16, l16, y16, z16⟩, st16⟩ := Jvm.LawKit.callS X13 hx (y := (⟨"com/example/vote64/vote64/sketch/MinWiseSamplesEqualPlacesPinLaw", "pick", "(IIJJ)J"⟩ : MethodName)) hown (mvT hZ (hw _ (List.mem_of_getElem? (i := 1) rfl))) (mvT hZ (hw _ (List.mem_of_getElem? (i := 2) rfl))) (mvT hZ (hw _ (List.mem_of_getElem? (i := 3) rfl))) (mvT hZ (hw _ (List.mem_of_getElem? (i := 4) rfl))) (by decide) (backOf (W := 2) (rm1 l Z aw hw [] p2 (2 : Int32) q0 q1 h13 n0 Z15 ) hZ (hw _ (List.mem_of_getElem? (i := 4) rfl)) (hw _ (List.mem_of_getElem? (i := 3) rfl)) (by decide) (by decide)) (g := (mkF m 42 #[.val (.long q0), .second, .val (.long q1), .second, .val (.int p2), .val (.int p3), .val (.ref b2), .val (.ref b5), .unset, .unset, .unset, .unset, .unset, .unset] [(.long q1), (.long q0), (.int (2 : Int32)), (.int p2), (.int (2 : Int32)), (.ref b2)])) rfl (by rw [hml]; rfl) (argsL := [(.int p2), (.int (2 : Int32)), (.long q0), (.long q1)]) (rest := [(.int (2 : Int32)), (.ref b2)]) (lenOf own_pd0 rfl) rfl (by show 2 * 0 + _ ≤ _; exact Nat.le_of_eq rfl) (hb hby at_42) (fun _ _ => ⟨rfl, e13, (by decide : 2 + 0 ≤ _), (by decide : 8 + 0 ≤ _)⟩)
  dsimp only [Pt.U, Pt.locs, Pt.cells, Pt.slots] at X16 l16 y16 z16 st16 hQ16
  rw [l16, y16, z16] at X16
  obtain ⟨rfl, Nq16, e16⟩ := hQ16
  have N16 := Fr.app N13 Nq16
  refine own_by (fun _ k => st16 _ k) ?_
  show own_G _ _ _ _ _ _ _ (T16.setTop (mkF m 45 #[.val (.long q0), .second, .val (.long q1), .second, .val (.int p2), .val (.int p3), .val (.ref b2), .val (.ref b5), .unset, .unset, .unset, .unset, .unset, .unset] [(.long (own_pick p2 (2 : Int32) q0 q1)), (.int (2 : Int32)), (.ref b2)]))
  obtain ⟨T17, h17, X17, e17, W17, A17, st17⟩ := own_stJ X16 hx hZ e16 A13 (k := 2) (by decide) (by decide) (g := (mkF m 45 #[.val (.long q0), .second, .val (.long q1), .second, .val (.int p2), .val (.int p3), .val (.ref b2), .val (.ref b5), .unset, .unset, .unset, .unset, .unset, .unset] [(.long (own_pick p2 (2 : Int32) q0 q1)), (.int (2 : Int32)), (.ref b2)])) rfl rfl (hb hby at_45)
  refine own_by st17 ?_
  have F18_1 := F14_1.other W17 (Ne.symm ne_b2_b5)
  have N17 := Fr.snoc X17 N16 g_b2
  have Z19 : n0 ≤ h17.size := Nat.le_trans Z15 (Nat.le_of_eq W17.size.symm)
  show own_G _ _ _ _ _ _ _ (T17.setTop (mkF m 46 #[.val (.long q0), .second, .val (.long q1), .second, .val (.int p2), .val (.int p3), .val (.ref b2), .val (.ref b5), .unset, .unset, .unset, .unset, .unset, .unset] []))
  refine own_by (fun _ k => XS.aload X17.here hx rfl (hb hby at_46) rfl rfl k) ?_
  show own_G _ _ _ _ _ _ _ (T17.setTop (mkF m 48 #[.val (.long q0), .second, .val (.long q1), .second, .val (.int p2), .val (.int p3), .val (.ref b2), .val (.ref b5), .unset, .unset, .unset, .unset, .unset, .unset] [(.ref b2)]))
  refine own_by (fun _ k => XS.iconst X17.here hx rfl (hb hby at_48) k) ?_
  show own_G _ _ _ _ _ _ _ (T17.setTop (mkF m 49 #[.val (.long q0), .second, .val (.long q1), .second, .val (.int p2), .val (.int p3), .val (.ref b2), .val (.ref b5), .unset, .unset, .unset, .unset, .unset, .unset] [(.int (3 : Int32)), (.ref b2)]))
  refine own_by (fun _ k => XS.iload X17.here hx rfl (hb hby at_49) rfl  k) ?_
  show own_G _ _ _ _ _ _ _ (T17.setTop (mkF m 51 #[.val (.long q0), .second, .val (.long q1), .second, .val (.int p2), .val (.int p3), .val (.ref b2), .val (.ref b5), .unset, .unset, .unset, .unset, .unset, .unset] [(.int p2), (.int (3 : Int32)), (.ref b2)]))
  refine own_by (fun _ k => XS.iconst X17.here hx rfl (hb hby at_51) k) ?_
  show own_G _ _ _ _ _ _ _ (T17.setTop (mkF m 52 #[.val (.long q0), .second, .val (.long q1), .second, .val (.int p2), .val (.int p3), .val (.ref b2), .val (.ref b5), .unset, .unset, .unset, .unset, .unset, .unset] [(.int (3 : Int32)), (.int p2), (.int (3 : Int32)), (.ref b2)]))
  refine own_by (fun _ k => XT.lloadN X17.here hx rfl (hb hby at_52) rfl  k) ?_
  show own_G _ _ _ _ _ _ _ (T17.setTop (mkF m 53 #[.val (.long q0), .second, .val (.long q1), .second, .val (.int p2), .val (.int p3), .val (.ref b2), .val (.ref b5), .unset, .unset, .unset, .unset, .unset, .unset] [(.long q0), (.int (3 : Int32)), (.int p2), (.int (3 : Int32)), (.ref b2)]))
  refine own_by (fun _ k => XT.lloadN X17.here hx rfl (hb hby at_53) rfl  k) ?_
  show own_G _ _ _ _ _ _ _ (T17.setTop (mkF m 54 #[.val (.long q0), .second, .val (.long q1), .second, .val (.int p2), .val (.int p3), .val (.ref b2), .val (.ref b5), .unset, .unset, .unset, .unset, .unset, .unset] [(.long q1), (.long q0), (.int (3 : Int32)), (.int p2), (.int (3 : Int32)), (.ref b2)]))
  obtain ⟨_, _, ⟨T20, L20, k20, n20⟩, -, X20, ⟨Lc20, hQ20, l20, y20, z20⟩, st20⟩ := Jvm.LawKit.callS X17 hx (y := (⟨"com/example/vote64/vote64/sketch/MinWiseSamplesEqualPlacesPinLaw", "pick", "(IIJJ)J"⟩ : MethodName)) hown (mvT hZ (hw _ (List.mem_of_getElem? (i := 1) rfl))) (mvT hZ (hw _ (List.mem_of_getElem? (i := 2) rfl))) (mvT hZ (hw _ (List.mem_of_getElem? (i := 3) rfl))) (mvT hZ (hw _ (List.mem_of_getElem? (i := 4) rfl))) (by decide) (backOf (W := 2) (rm1 l Z aw hw [] p2 (3 : Int32) q0 q1 h17 n0 Z19 ) hZ (hw _ (List.mem_of_getElem? (i := 4) rfl)) (hw _ (List.mem_of_getElem? (i := 3) rfl)) (by decide) (by decide)) (g := (mkF m 54 #[.val (.long q0), .second, .val (.long q1), .second, .val (.int p2), .val (.int p3), .val (.ref b2), .val (.ref b5), .unset, .unset, .unset, .unset, .unset, .unset] [(.long q1), (.long q0), (.int (3 : Int32)), (.int p2), (.int (3 : Int32)), (.ref b2)])) rfl (by rw [hml]; rfl) (argsL := [(.int p2), (.int (3 : Int32)), (.long q0), (.long q1)]) (rest := [(.int (3 : Int32)), (.ref b2)]) (lenOf own_pd0 rfl) rfl (by show 2 * 0 + _ ≤ _; exact Nat.le_of_eq rfl) (hb hby at_54) (fun _ _ => ⟨rfl, e17, (by decide : 2 + 0 ≤ _), (by decide : 8 + 0 ≤ _)⟩)
  dsimp only [Pt.U, Pt.locs, Pt.cells, Pt.slots] at X20 l20 y20 z20 st20 hQ20
  rw [l20, y20, z20] at X20
  obtain ⟨rfl, Nq20, e20⟩ := hQ20
  have N20 := Fr.app N17 Nq20
  refine own_by (fun _ k => st20 _ k) ?_
  show own_G _ _ _ _ _ _ _ (T20.setTop (mkF m 57 #[.val (.long q0), .second, .val (.long q1), .second, .val (.int p2), .val (.int p3), .val (.ref b2), .val (.ref b5), .unset, .unset, .unset, .unset, .unset, .unset] [(.long (own_pick p2 (3 : Int32) q0 q1)), (.int (3 : Int32)), (.ref b2)]))
  obtain ⟨T21, h21, X21, e21, W21, A21, st21⟩ := own_stJ X20 hx hZ e20 A17 (k := 3) (by decide) (by decide) (g := (mkF m 57 #[.val (.long q0), .second, .val (.long q1), .second, .val (.int p2), .val (.int p3), .val (.ref b2), .val (.ref b5), .unset, .unset, .unset, .unset, .unset, .unset] [(.long (own_pick p2 (3 : Int32) q0 q1)), (.int (3 : Int32)), (.ref b2)])) rfl rfl (hb hby at_57)
  refine own_by st21 ?_
  have F22_1 := F18_1.other W21 (Ne.symm ne_b2_b5)
  have N21 := Fr.snoc X21 N20 g_b2
  have Z23 : n0 ≤ h21.size := Nat.le_trans Z19 (Nat.le_of_eq W21.size.symm)
  show own_G _ _ _ _ _ _ _ (T21.setTop (mkF m 58 #[.val (.long q0), .second, .val (.long q1), .second, .val (.int p2), .val (.int p3), .val (.ref b2), .val (.ref b5), .unset, .unset, .unset, .unset, .unset, .unset] []))
  refine own_by (fun _ k => XS.aload X21.here hx rfl (hb hby at_58) rfl rfl k) ?_
  show own_G _ _ _ _ _ _ _ (T21.setTop (mkF m 60 #[.val (.long q0), .second, .val (.long q1), .second, .val (.int p2), .val (.int p3), .val (.ref b2), .val (.ref b5), .unset, .unset, .unset, .unset, .unset, .unset] [(.ref b5)]))
  refine own_by (fun _ k => XS.iconst X21.here hx rfl (hb hby at_60) k) ?_
  show own_G _ _ _ _ _ _ _ (T21.setTop (mkF m 61 #[.val (.long q0), .second, .val (.long q1), .second, .val (.int p2), .val (.int p3), .val (.ref b2), .val (.ref b5), .unset, .unset, .unset, .unset, .unset, .unset] [(.int (0 : Int32)), (.ref b5)]))
  refine own_by (fun _ k => XS.iload X21.here hx rfl (hb hby at_61) rfl  k) ?_
  show own_G _ _ _ _ _ _ _ (T21.setTop (mkF m 63 #[.val (.long q0), .second, .val (.long q1), .second, .val (.int p2), .val (.int p3), .val (.ref b2), .val (.ref b5), .unset, .unset, .unset, .unset, .unset, .unset] [(.int p2), (.int (0 : Int32)), (.ref b5)]))
  refine own_by (fun _ k => XS.iconst X21.here hx rfl (hb hby at_63) k) ?_
  show own_G _ _ _ _ _ _ _ (T21.setTop (mkF m 64 #[.val (.long q0), .second, .val (.long q1), .second, .val (.int p2), .val (.int p3), .val (.ref b2), .val (.ref b5), .unset, .unset, .unset, .unset, .unset, .unset] [(.int (4 : Int32)), (.int p2), (.int (0 : Int32)), (.ref b5)]))
  refine own_by (fun _ k => XT.lloadN X21.here hx rfl (hb hby at_64) rfl  k) ?_
  show own_G _ _ _ _ _ _ _ (T21.setTop (mkF m 65 #[.val (.long q0), .second, .val (.long q1), .second, .val (.int p2), .val (.int p3), .val (.ref b2), .val (.ref b5), .unset, .unset, .unset, .unset, .unset, .unset] [(.long q0), (.int (4 : Int32)), (.int p2), (.int (0 : Int32)), (.ref b5)]))
  refine own_by (fun _ k => XT.lloadN X21.here hx rfl (hb hby at_65) rfl  k) ?_
  show own_G _ _ _ _ _ _ _ (T21.setTop (mkF m 66 #[.val (.long q0), .second, .val (.long q1), .second, .val (.int p2), .val (.int p3), .val (.ref b2), .val (.ref b5), .unset, .unset, .unset, .unset, .unset, .unset] [(.long q1), (.long q0), (.int (4 : Int32)), (.int p2), (.int (0 : Int32)), (.ref b5)]))
  obtain ⟨_, _, ⟨T24, L24, k24, n24⟩, -, X24, ⟨Lc24, hQ24, l24, y24, z24⟩, st24⟩ := Jvm.LawKit.callS X21 hx (y := (⟨"com/example/vote64/vote64/sketch/MinWiseSamplesEqualPlacesPinLaw", "pick", "(IIJJ)J"⟩ : MethodName)) hown (mvT hZ (hw _ (List.mem_of_getElem? (i := 1) rfl))) (mvT hZ (hw _ (List.mem_of_getElem? (i := 2) rfl))) (mvT hZ (hw _ (List.mem_of_getElem? (i := 3) rfl))) (mvT hZ (hw _ (List.mem_of_getElem? (i := 4) rfl))) (by decide) (backOf (W := 2) (rm1 l Z aw hw [] p2 (4 : Int32) q0 q1 h21 n0 Z23 ) hZ (hw _ (List.mem_of_getElem? (i := 4) rfl)) (hw _ (List.mem_of_getElem? (i := 3) rfl)) (by decide) (by decide)) (g := (mkF m 66 #[.val (.long q0), .second, .val (.long q1), .second, .val (.int p2), .val (.int p3), .val (.ref b2), .val (.ref b5), .unset, .unset, .unset, .unset, .unset, .unset] [(.long q1), (.long q0), (.int (4 : Int32)), (.int p2), (.int (0 : Int32)), (.ref b5)])) rfl (by rw [hml]; rfl) (argsL := [(.int p2), (.int (4 : Int32)), (.long q0), (.long q1)]) (rest := [(.int (0 : Int32)), (.ref b5)]) (lenOf own_pd0 rfl) rfl (by show 2 * 0 + _ ≤ _; exact Nat.le_of_eq rfl) (hb hby at_66) (fun _ _ => ⟨rfl, e21, (by decide : 2 + 0 ≤ _), (by decide : 8 + 0 ≤ _)⟩)
  dsimp only [Pt.U, Pt.locs, Pt.cells, Pt.slots] at X24 l24 y24 z24 st24 hQ24
  rw [l24, y24, z24] at X24
  obtain ⟨rfl, Nq24, e24⟩ := hQ24
  have N24 := Fr.app N21 Nq24
  refine own_by (fun _ k => st24 _ k) ?_
  show own_G _ _ _ _ _ _ _ (T24.setTop (mkF m 69 #[.val (.long q0), .second, .val (.long q1), .second, .val (.int p2), .val (.int p3), .val (.ref b2), .val (.ref b5), .unset, .unset, .unset, .unset, .unset, .unset] [(.long (own_pick p2 (4 : Int32) q0 q1)), (.int (0 : Int32)), (.ref b5)]))
  obtain ⟨T25, h25, X25, e25, W25, A25, st25⟩ := own_stJ X24 hx hZ e24 F22_1 (k := 0) (by decide) (by decide) (g := (mkF m 69 #[.val (.long q0), .second, .val (.long q1), .second, .val (.int p2), .val (.int p3), .val (.ref b2), .val (.ref b5), .unset, .unset, .unset, .unset, .unset, .unset] [(.long (own_pick p2 (4 : Int32) q0 q1)), (.int (0 : Int32)), (.ref b5)])) rfl rfl (hb hby at_69)
  refine own_by st25 ?_
  have F26_0 := A21.other W25 ne_b2_b5
  have N25 := Fr.snoc X25 N24 g_b5
  have Z27 : n0 ≤ h25.size := Nat.le_trans Z23 (Nat.le_of_eq W25.size.symm)
  show own_G _ _ _ _ _ _ _ (T25.setTop (mkF m 70 #[.val (.long q0), .second, .val (.long q1), .second, .val (.int p2), .val (.int p3), .val (.ref b2), .val (.ref b5), .unset, .unset, .unset, .unset, .unset, .unset] []))
  refine own_by (fun _ k => XS.aload X25.here hx rfl (hb hby at_70) rfl rfl k) ?_
  show own_G _ _ _ _ _ _ _ (T25.setTop (mkF m 72 #[.val (.long q0), .second, .val (.long q1), .second, .val (.int p2), .val (.int p3), .val (.ref b2), .val (.ref b5), .unset, .unset, .unset, .unset, .unset, .unset] [(.ref b5)]))
  refine own_by (fun _ k => XS.iconst X25.here hx rfl (hb hby at_72) k) ?_
  show own_G _ _ _ _ _ _ _ (T25.setTop (mkF m 73 #[.val (.long q0), .second, .val (.long q1), .second, .val (.int p2), .val (.int p3), .val (.ref b2), .val (.ref b5), .unset, .unset, .unset, .unset, .unset, .unset] [(.int (1 : Int32)), (.ref b5)]))
  refine own_by (fun _ k => XS.iload X25.here hx rfl (hb hby at_73) rfl  k) ?_
  show own_G _ _ _ _ _ _ _ (T25.setTop (mkF m 75 #[.val (.long q0), .second, .val (.long q1), .second, .val (.int p2), .val (.int p3), .val (.ref b2), .val (.ref b5), .unset, .unset, .unset, .unset, .unset, .unset] [(.int p2), (.int (1 : Int32)), (.ref b5)]))
  refine own_by (fun _ k => XS.iconst X25.here hx rfl (hb hby at_75) k) ?_
  show own_G _ _ _ _ _ _ _ (T25.setTop (mkF m 76 #[.val (.long q0), .second, .val (.long q1), .second, .val (.int p2), .val (.int p3), .val (.ref b2), .val (.ref b5), .unset, .unset, .unset, .unset, .unset, .unset] [(.int (5 : Int32)), (.int p2), (.int (1 : Int32)), (.ref b5)]))
  refine own_by (fun _ k => XT.lloadN X25.here hx rfl (hb hby at_76) rfl  k) ?_
  show own_G _ _ _ _ _ _ _ (T25.setTop (mkF m 77 #[.val (.long q0), .second, .val (.long q1), .second, .val (.int p2), .val (.int p3), .val (.ref b2), .val (.ref b5), .unset, .unset, .unset, .unset, .unset, .unset] [(.long q0), (.int (5 : Int32)), (.int p2), (.int (1 : Int32)), (.ref b5)]))
  refine own_by (fun _ k => XT.lloadN X25.here hx rfl (hb hby at_77) rfl  k) ?_
  show own_G _ _ _ _ _ _ _ (T25.setTop (mkF m 78 #[.val (.long q0), .second, .val (.long q1), .second, .val (.int p2), .val (.int p3), .val (.ref b2), .val (.ref b5), .unset, .unset, .unset, .unset, .unset, .unset] [(.long q1), (.long q0), (.int (5 : Int32)), (.int p2), (.int (1 : Int32)), (.ref b5)]))
  obtain ⟨_, _, ⟨T28, L28, k28, n28⟩, -, X28, ⟨Lc28, hQ28, l28, y28, z28⟩, st28⟩ := Jvm.LawKit.callS X25 hx (y := (⟨"com/example/vote64/vote64/sketch/MinWiseSamplesEqualPlacesPinLaw", "pick", "(IIJJ)J"⟩ : MethodName)) hown (mvT hZ (hw _ (List.mem_of_getElem? (i := 1) rfl))) (mvT hZ (hw _ (List.mem_of_getElem? (i := 2) rfl))) (mvT hZ (hw _ (List.mem_of_getElem? (i := 3) rfl))) (mvT hZ (hw _ (List.mem_of_getElem? (i := 4) rfl))) (by decide) (backOf (W := 2) (rm1 l Z aw hw [] p2 (5 : Int32) q0 q1 h25 n0 Z27 ) hZ (hw _ (List.mem_of_getElem? (i := 4) rfl)) (hw _ (List.mem_of_getElem? (i := 3) rfl)) (by decide) (by decide)) (g := (mkF m 78 #[.val (.long q0), .second, .val (.long q1), .second, .val (.int p2), .val (.int p3), .val (.ref b2), .val (.ref b5), .unset, .unset, .unset, .unset, .unset, .unset] [(.long q1), (.long q0), (.int (5 : Int32)), (.int p2), (.int (1 : Int32)), (.ref b5)])) rfl (by rw [hml]; rfl) (argsL := [(.int p2), (.int (5 : Int32)), (.long q0), (.long q1)]) (rest := [(.int (1 : Int32)), (.ref b5)]) (lenOf own_pd0 rfl) rfl (by show 2 * 0 + _ ≤ _; exact Nat.le_of_eq rfl) (hb hby at_78) (fun _ _ => ⟨rfl, e25, (by decide : 2 + 0 ≤ _), (by decide : 8 + 0 ≤ _)⟩)
  dsimp only [Pt.U, Pt.locs, Pt.cells, Pt.slots] at X28 l28 y28 z28 st28 hQ28
  rw [l28, y28, z28] at X28
  obtain ⟨rfl, Nq28, e28⟩ := hQ28
  have N28 := Fr.app N25 Nq28
  refine own_by (fun _ k => st28 _ k) ?_
  show own_G _ _ _ _ _ _ _ (T28.setTop (mkF m 81 #[.val (.long q0), .second, .val (.long q1), .second, .val (.int p2), .val (.int p3), .val (.ref b2), .val (.ref b5), .unset, .unset, .unset, .unset, .unset, .unset] [(.long (own_pick p2 (5 : Int32) q0 q1)), (.int (1 : Int32)), (.ref b5)]))
  obtain ⟨T29, h29, X29, e29, W29, A29, st29⟩ := own_stJ X28 hx hZ e28 A25 (k := 1) (by decide) (by decide) (g := (mkF m 81 #[.val (.long q0), .second, .val (.long q1), .second, .val (.int p2), .val (.int p3), .val (.ref b2), .val (.ref b5), .unset, .unset, .unset, .unset, .unset, .unset] [(.long (own_pick p2 (5 : Int32) q0 q1)), (.int (1 : Int32)), (.ref b5)])) rfl rfl (hb hby at_81)
  refine own_by st29 ?_
  have F30_0 := F26_0.other W29 ne_b2_b5
  have N29 := Fr.snoc X29 N28 g_b5
  have Z31 : n0 ≤ h29.size := Nat.le_trans Z27 (Nat.le_of_eq W29.size.symm)
  show own_G _ _ _ _ _ _ _ (T29.setTop (mkF m 82 #[.val (.long q0), .second, .val (.long q1), .second, .val (.int p2), .val (.int p3), .val (.ref b2), .val (.ref b5), .unset, .unset, .unset, .unset, .unset, .unset] []))
  refine own_by (fun _ k => XS.aload X29.here hx rfl (hb hby at_82) rfl rfl k) ?_
  show own_G _ _ _ _ _ _ _ (T29.setTop (mkF m 84 #[.val (.long q0), .second, .val (.long q1), .second, .val (.int p2), .val (.int p3), .val (.ref b2), .val (.ref b5), .unset, .unset, .unset, .unset, .unset, .unset] [(.ref b5)]))
  refine own_by (fun _ k => XS.iconst X29.here hx rfl (hb hby at_84) k) ?_
  show own_G _ _ _ _ _ _ _ (T29.setTop (mkF m 85 #[.val (.long q0), .second, .val (.long q1), .second, .val (.int p2), .val (.int p3), .val (.ref b2), .val (.ref b5), .unset, .unset, .unset, .unset, .unset, .unset] [(.int (2 : Int32)), (.ref b5)]))
  refine own_by (fun _ k => XS.iload X29.here hx rfl (hb hby at_85) rfl  k) ?_
  show own_G _ _ _ _ _ _ _ (T29.setTop (mkF m 87 #[.val (.long q0), .second, .val (.long q1), .second, .val (.int p2), .val (.int p3), .val (.ref b2), .val (.ref b5), .unset, .unset, .unset, .unset, .unset, .unset] [(.int p2), (.int (2 : Int32)), (.ref b5)]))
  refine own_by (fun _ k => XS.bipush X29.here hx rfl (hb hby at_87) k) ?_
  show own_G _ _ _ _ _ _ _ (T29.setTop (mkF m 89 #[.val (.long q0), .second, .val (.long q1), .second, .val (.int p2), .val (.int p3), .val (.ref b2), .val (.ref b5), .unset, .unset, .unset, .unset, .unset, .unset] [(.int (6 : Int32)), (.int p2), (.int (2 : Int32)), (.ref b5)]))
  refine own_by (fun _ k => XT.lloadN X29.here hx rfl (hb hby at_89) rfl  k) ?_
  show own_G _ _ _ _ _ _ _ (T29.setTop (mkF m 90 #[.val (.long q0), .second, .val (.long q1), .second, .val (.int p2), .val (.int p3), .val (.ref b2), .val (.ref b5), .unset, .unset, .unset, .unset, .unset, .unset] [(.long q0), (.int (6 : Int32)), (.int p2), (.int (2 : Int32)), (.ref b5)]))
  refine own_by (fun _ k => XT.lloadN X29.here hx rfl (hb hby at_90) rfl  k) ?_
  show own_G _ _ _ _ _ _ _ (T29.setTop (mkF m 91 #[.val (.long q0), .second, .val (.long q1), .second, .val (.int p2), .val (.int p3), .val (.ref b2), .val (.ref b5), .unset, .unset, .unset, .unset, .unset, .unset] [(.long q1), (.long q0), (.int (6 : Int32)), (.int p2), (.int (2 : Int32)), (.ref b5)]))
  obtain ⟨_, _, ⟨T32, L32, k32, n32⟩, -, X32, ⟨Lc32, hQ32, l32, y32, z32⟩, st32⟩ := Jvm.LawKit.callS X29 hx (y := (⟨"com/example/vote64/vote64/sketch/MinWiseSamplesEqualPlacesPinLaw", "pick", "(IIJJ)J"⟩ : MethodName)) hown (mvT hZ (hw _ (List.mem_of_getElem? (i := 1) rfl))) (mvT hZ (hw _ (List.mem_of_getElem? (i := 2) rfl))) (mvT hZ (hw _ (List.mem_of_getElem? (i := 3) rfl))) (mvT hZ (hw _ (List.mem_of_getElem? (i := 4) rfl))) (by decide) (backOf (W := 2) (rm1 l Z aw hw [] p2 (6 : Int32) q0 q1 h29 n0 Z31 ) hZ (hw _ (List.mem_of_getElem? (i := 4) rfl)) (hw _ (List.mem_of_getElem? (i := 3) rfl)) (by decide) (by decide)) (g := (mkF m 91 #[.val (.long q0), .second, .val (.long q1), .second, .val (.int p2), .val (.int p3), .val (.ref b2), .val (.ref b5), .unset, .unset, .unset, .unset, .unset, .unset] [(.long q1), (.long q0), (.int (6 : Int32)), (.int p2), (.int (2 : Int32)), (.ref b5)])) rfl (by rw [hml]; rfl) (argsL := [(.int p2), (.int (6 : Int32)), (.long q0), (.long q1)]) (rest := [(.int (2 : Int32)), (.ref b5)]) (lenOf own_pd0 rfl) rfl (by show 2 * 0 + _ ≤ _; exact Nat.le_of_eq rfl) (hb hby at_91) (fun _ _ => ⟨rfl, e29, (by decide : 2 + 0 ≤ _), (by decide : 8 + 0 ≤ _)⟩)
  dsimp only [Pt.U, Pt.locs, Pt.cells, Pt.slots] at X32 l32 y32 z32 st32 hQ32
  rw [l32, y32, z32] at X32
  obtain ⟨rfl, Nq32, e32⟩ := hQ32
  have N32 := Fr.app N29 Nq32
  refine own_by (fun _ k => st32 _ k) ?_
  show own_G _ _ _ _ _ _ _ (T32.setTop (mkF m 94 #[.val (.long q0), .second, .val (.long q1), .second, .val (.int p2), .val (.int p3), .val (.ref b2), .val (.ref b5), .unset, .unset, .unset, .unset, .unset, .unset] [(.long (own_pick p2 (6 : Int32) q0 q1)), (.int (2 : Int32)), (.ref b5)]))
  obtain ⟨T33, h33, X33, e33, W33, A33, st33⟩ := own_stJ X32 hx hZ e32 A29 (k := 2) (by decide) (by decide) (g := (mkF m 94 #[.val (.long q0), .second, .val (.long q1), .second, .val (.int p2), .val (.int p3), .val (.ref b2), .val (.ref b5), .unset, .unset, .unset, .unset, .unset, .unset] [(.long (own_pick p2 (6 : Int32) q0 q1)), (.int (2 : Int32)), (.ref b5)])) rfl rfl (hb hby at_94)
  refine own_by st33 ?_
  have F34_0 := F30_0.other W33 ne_b2_b5
  have N33 := Fr.snoc X33 N32 g_b5
  have Z35 : n0 ≤ h33.size := Nat.le_trans Z31 (Nat.le_of_eq W33.size.symm)
  show own_G _ _ _ _ _ _ _ (T33.setTop (mkF m 95 #[.val (.long q0), .second, .val (.long q1), .second, .val (.int p2), .val (.int p3), .val (.ref b2), .val (.ref b5), .unset, .unset, .unset, .unset, .unset, .unset] []))
  refine own_by (fun _ k => XS.aload X33.here hx rfl (hb hby at_95) rfl rfl k) ?_
  show own_G _ _ _ _ _ _ _ (T33.setTop (mkF m 97 #[.val (.long q0), .second, .val (.long q1), .second, .val (.int p2), .val (.int p3), .val (.ref b2), .val (.ref b5), .unset, .unset, .unset, .unset, .unset, .unset] [(.ref b5)]))
  refine own_by (fun _ k => XS.iconst X33.here hx rfl (hb hby at_97) k) ?_
  show own_G _ _ _ _ _ _ _ (T33.setTop (mkF m 98 #[.val (.long q0), .second, .val (.long q1), .second, .val (.int p2), .val (.int p3), .val (.ref b2), .val (.ref b5), .unset, .unset, .unset, .unset, .unset, .unset] [(.int (3 : Int32)), (.ref b5)]))
  refine own_by (fun _ k => XS.iload X33.here hx rfl (hb hby at_98) rfl  k) ?_
  show own_G _ _ _ _ _ _ _ (T33.setTop (mkF m 100 #[.val (.long q0), .second, .val (.long q1), .second, .val (.int p2), .val (.int p3), .val (.ref b2), .val (.ref b5), .unset, .unset, .unset, .unset, .unset, .unset] [(.int p2), (.int (3 : Int32)), (.ref b5)]))
  refine own_by (fun _ k => XS.bipush X33.here hx rfl (hb hby at_100) k) ?_
  show own_G _ _ _ _ _ _ _ (T33.setTop (mkF m 102 #[.val (.long q0), .second, .val (.long q1), .second, .val (.int p2), .val (.int p3), .val (.ref b2), .val (.ref b5), .unset, .unset, .unset, .unset, .unset, .unset] [(.int (7 : Int32)), (.int p2), (.int (3 : Int32)), (.ref b5)]))
  refine own_by (fun _ k => XT.lloadN X33.here hx rfl (hb hby at_102) rfl  k) ?_
  show own_G _ _ _ _ _ _ _ (T33.setTop (mkF m 103 #[.val (.long q0), .second, .val (.long q1), .second, .val (.int p2), .val (.int p3), .val (.ref b2), .val (.ref b5), .unset, .unset, .unset, .unset, .unset, .unset] [(.long q0), (.int (7 : Int32)), (.int p2), (.int (3 : Int32)), (.ref b5)]))
  refine own_by (fun _ k => XT.lloadN X33.here hx rfl (hb hby at_103) rfl  k) ?_
  show own_G _ _ _ _ _ _ _ (T33.setTop (mkF m 104 #[.val (.long q0), .second, .val (.long q1), .second, .val (.int p2), .val (.int p3), .val (.ref b2), .val (.ref b5), .unset, .unset, .unset, .unset, .unset, .unset] [(.long q1), (.long q0), (.int (7 : Int32)), (.int p2), (.int (3 : Int32)), (.ref b5)]))
  obtain ⟨_, _, ⟨T36, L36, k36, n36⟩, -, X36, ⟨Lc36, hQ36, l36, y36, z36⟩, st36⟩ := Jvm.LawKit.callS X33 hx (y := (⟨"com/example/vote64/vote64/sketch/MinWiseSamplesEqualPlacesPinLaw", "pick", "(IIJJ)J"⟩ : MethodName)) hown (mvT hZ (hw _ (List.mem_of_getElem? (i := 1) rfl))) (mvT hZ (hw _ (List.mem_of_getElem? (i := 2) rfl))) (mvT hZ (hw _ (List.mem_of_getElem? (i := 3) rfl))) (mvT hZ (hw _ (List.mem_of_getElem? (i := 4) rfl))) (by decide) (backOf (W := 2) (rm1 l Z aw hw [] p2 (7 : Int32) q0 q1 h33 n0 Z35 ) hZ (hw _ (List.mem_of_getElem? (i := 4) rfl)) (hw _ (List.mem_of_getElem? (i := 3) rfl)) (by decide) (by decide)) (g := (mkF m 104 #[.val (.long q0), .second, .val (.long q1), .second, .val (.int p2), .val (.int p3), .val (.ref b2), .val (.ref b5), .unset, .unset, .unset, .unset, .unset, .unset] [(.long q1), (.long q0), (.int (7 : Int32)), (.int p2), (.int (3 : Int32)), (.ref b5)])) rfl (by rw [hml]; rfl) (argsL := [(.int p2), (.int (7 : Int32)), (.long q0), (.long q1)]) (rest := [(.int (3 : Int32)), (.ref b5)]) (lenOf own_pd0 rfl) rfl (by show 2 * 0 + _ ≤ _; exact Nat.le_of_eq rfl) (hb hby at_104) (fun _ _ => ⟨rfl, e33, (by decide : 2 + 0 ≤ _), (by decide : 8 + 0 ≤ _)⟩)
  dsimp only [Pt.U, Pt.locs, Pt.cells, Pt.slots] at X36 l36 y36 z36 st36 hQ36
  rw [l36, y36, z36] at X36
  obtain ⟨rfl, Nq36, e36⟩ := hQ36
  have N36 := Fr.app N33 Nq36
  refine own_by (fun _ k => st36 _ k) ?_
  show own_G _ _ _ _ _ _ _ (T36.setTop (mkF m 107 #[.val (.long q0), .second, .val (.long q1), .second, .val (.int p2), .val (.int p3), .val (.ref b2), .val (.ref b5), .unset, .unset, .unset, .unset, .unset, .unset] [(.long (own_pick p2 (7 : Int32) q0 q1)), (.int (3 : Int32)), (.ref b5)]))
  obtain ⟨T37, h37, X37, e37, W37, A37, st37⟩ := own_stJ X36 hx hZ e36 A33 (k := 3) (by decide) (by decide) (g := (mkF m 107 #[.val (.long q0), .second, .val (.long q1), .second, .val (.int p2), .val (.int p3), .val (.ref b2), .val (.ref b5), .unset, .unset, .unset, .unset, .unset, .unset] [(.long (own_pick p2 (7 : Int32) q0 q1)), (.int (3 : Int32)), (.ref b5)])) rfl rfl (hb hby at_107)
  refine own_by st37 ?_
  have F38_0 := F34_0.other W37 ne_b2_b5
  have N37 := Fr.snoc X37 N36 g_b5
  have Z39 : n0 ≤ h37.size := Nat.le_trans Z35 (Nat.le_of_eq W37.size.symm)
  show own_G _ _ _ _ _ _ _ (T37.setTop (mkF m 108 #[.val (.long q0), .second, .val (.long q1), .second, .val (.int p2), .val (.int p3), .val (.ref b2), .val (.ref b5), .unset, .unset, .unset, .unset, .unset, .unset] []))
  have V40 : own_AJ Z h37 b2 4 (own_FA p2 q0 q1) := F38_0.cast (fun k hk => by
    match k, hk with
    | 0, _ => rfl
    | 1, _ => rfl
    | 2, _ => rfl
    | 3, _ => rfl)
  have V41 : own_AJ Z h37 b5 4 (own_FB p2 q0 q1) := A37.cast (fun k hk => by
    match k, hk with
    | 0, _ => rfl
    | 1, _ => rfl
    | 2, _ => rfl
    | 3, _ => rfl)
  refine own_by (fun _ k => XS.iload X37.here hx rfl (hb hby at_108) rfl  k) ?_
  show own_G _ _ _ _ _ _ _ (T37.setTop (mkF m 110 #[.val (.long q0), .second, .val (.long q1), .second, .val (.int p2), .val (.int p3), .val (.ref b2), .val (.ref b5), .unset, .unset, .unset, .unset, .unset, .unset] [(.int p3)]))
  refine own_by (fun _ k => XS.iconst X37.here hx rfl (hb hby at_110) k) ?_
  show own_G _ _ _ _ _ _ _ (T37.setTop (mkF m 111 #[.val (.long q0), .second, .val (.long q1), .second, .val (.int p2), .val (.int p3), .val (.ref b2), .val (.ref b5), .unset, .unset, .unset, .unset, .unset, .unset] [(.int (3 : Int32)), (.int p3)]))
  refine own_by (fun _ k => XS.iand X37.here hx rfl (hb hby at_111) rfl k) ?_
  show own_G _ _ _ _ _ _ _ (T37.setTop (mkF m 112 #[.val (.long q0), .second, .val (.long q1), .second, .val (.int p2), .val (.int p3), .val (.ref b2), .val (.ref b5), .unset, .unset, .unset, .unset, .unset, .unset] [(.int (p3 &&& (3 : Int32)))]))
  refine own_by (fun _ k => XS.istore X37.here hx rfl (hb hby at_112) rfl (l' := #[.val (.long q0), .second, .val (.long q1), .second, .val (.int p2), .val (.int p3), .val (.ref b2), .val (.ref b5), .val (.int (p3 &&& (3 : Int32))), .unset, .unset, .unset, .unset, .unset]) rfl k) ?_
  show own_G _ _ _ _ _ _ _ (T37.setTop (mkF m 114 #[.val (.long q0), .second, .val (.long q1), .second, .val (.int p2), .val (.int p3), .val (.ref b2), .val (.ref b5), .val (.int (p3 &&& (3 : Int32))), .unset, .unset, .unset, .unset, .unset] []))
  generalize hnaF : (p3 &&& (3 : Int32)) = aF
  show own_G _ _ _ _ _ _ _ (T37.setTop (mkF m 114 #[.val (.long q0), .second, .val (.long q1), .second, .val (.int p2), .val (.int p3), .val (.ref b2), .val (.ref b5), .val (.int aF), .unset, .unset, .unset, .unset, .unset] []))
  refine own_by (fun _ k => XS.iload X37.here hx rfl (hb hby at_114) rfl  k) ?_
  show own_G _ _ _ _ _ _ _ (T37.setTop (mkF m 116 #[.val (.long q0), .second, .val (.long q1), .second, .val (.int p2), .val (.int p3), .val (.ref b2), .val (.ref b5), .val (.int aF), .unset, .unset, .unset, .unset, .unset] [(.int p3)]))
  refine own_by (fun _ k => XS.iconst X37.here hx rfl (hb hby at_116) k) ?_
  show own_G _ _ _ _ _ _ _ (T37.setTop (mkF m 117 #[.val (.long q0), .second, .val (.long q1), .second, .val (.int p2), .val (.int p3), .val (.ref b2), .val (.ref b5), .val (.int aF), .unset, .unset, .unset, .unset, .unset] [(.int (2 : Int32)), (.int p3)]))
  refine own_by (fun _ k => XT.iushr X37.here hx rfl (hb hby at_117) rfl k) ?_
  show own_G _ _ _ _ _ _ _ (T37.setTop (mkF m 118 #[.val (.long q0), .second, .val (.long q1), .second, .val (.int p2), .val (.int p3), .val (.ref b2), .val (.ref b5), .val (.int aF), .unset, .unset, .unset, .unset, .unset] [(.int (XT.ushr p3 (2 : Int32)))]))
  refine own_by (fun _ k => XS.iconst X37.here hx rfl (hb hby at_118) k) ?_
  show own_G _ _ _ _ _ _ _ (T37.setTop (mkF m 119 #[.val (.long q0), .second, .val (.long q1), .second, .val (.int p2), .val (.int p3), .val (.ref b2), .val (.ref b5), .val (.int aF), .unset, .unset, .unset, .unset, .unset] [(.int (3 : Int32)), (.int (XT.ushr p3 (2 : Int32)))]))
  refine own_by (fun _ k => XS.iand X37.here hx rfl (hb hby at_119) rfl k) ?_
  show own_G _ _ _ _ _ _ _ (T37.setTop (mkF m 120 #[.val (.long q0), .second, .val (.long q1), .second, .val (.int p2), .val (.int p3), .val (.ref b2), .val (.ref b5), .val (.int aF), .unset, .unset, .unset, .unset, .unset] [(.int ((XT.ushr p3 (2 : Int32)) &&& (3 : Int32)))]))
  refine own_by (fun _ k => XS.istore X37.here hx rfl (hb hby at_120) rfl (l' := #[.val (.long q0), .second, .val (.long q1), .second, .val (.int p2), .val (.int p3), .val (.ref b2), .val (.ref b5), .val (.int aF), .val (.int ((XT.ushr p3 (2 : Int32)) &&& (3 : Int32))), .unset, .unset, .unset, .unset]) rfl k) ?_
  show own_G _ _ _ _ _ _ _ (T37.setTop (mkF m 122 #[.val (.long q0), .second, .val (.long q1), .second, .val (.int p2), .val (.int p3), .val (.ref b2), .val (.ref b5), .val (.int aF), .val (.int ((XT.ushr p3 (2 : Int32)) &&& (3 : Int32))), .unset, .unset, .unset, .unset] []))
  generalize hnbF : ((XT.ushr p3 (2 : Int32)) &&& (3 : Int32)) = bF
  show own_G _ _ _ _ _ _ _ (T37.setTop (mkF m 122 #[.val (.long q0), .second, .val (.long q1), .second, .val (.int p2), .val (.int p3), .val (.ref b2), .val (.ref b5), .val (.int aF), .val (.int bF), .unset, .unset, .unset, .unset] []))
  obtain ⟨af, haf, haf4⟩ : ∃ af : Nat, aF.toInt = af ∧ af < 4 := by rw [← hnaF]; exact own_msk _ _ 2 (by decide) (by decide)
  obtain ⟨bf, hbf, hbf4⟩ : ∃ bf : Nat, bF.toInt = bf ∧ bf < 4 := by rw [← hnbF]; exact own_msk _ _ 2 (by decide) (by decide)
  refine own_by (fun _ k => XS.iconst X37.here hx rfl (hb hby at_122) k) ?_
  show own_G _ _ _ _ _ _ _ (T37.setTop (mkF m 123 #[.val (.long q0), .second, .val (.long q1), .second, .val (.int p2), .val (.int p3), .val (.ref b2), .val (.ref b5), .val (.int aF), .val (.int bF), .unset, .unset, .unset, .unset] [(.int (4 : Int32))]))
  refine own_by (fun _ k => XS.iload X37.here hx rfl (hb hby at_123) rfl  k) ?_
  show own_G _ _ _ _ _ _ _ (T37.setTop (mkF m 125 #[.val (.long q0), .second, .val (.long q1), .second, .val (.int p2), .val (.int p3), .val (.ref b2), .val (.ref b5), .val (.int aF), .val (.int bF), .unset, .unset, .unset, .unset] [(.int aF), (.int (4 : Int32))]))
  refine own_by (fun _ k => XS.iload X37.here hx rfl (hb hby at_125) rfl  k) ?_
  show own_G _ _ _ _ _ _ _ (T37.setTop (mkF m 127 #[.val (.long q0), .second, .val (.long q1), .second, .val (.int p2), .val (.int p3), .val (.ref b2), .val (.ref b5), .val (.int aF), .val (.int bF), .unset, .unset, .unset, .unset] [(.int bF), (.int aF), (.int (4 : Int32))]))
  obtain ⟨_, _, ⟨T42, L42, k42, n42⟩, -, X42, ⟨Lc42, hQ42, l42, y42, z42⟩, st42⟩ := Jvm.LawKit.callS X37 hx (y := (⟨"java/lang/Math", "max", "(II)I"⟩ : MethodName)) hown (mvT hZ (hw _ (List.mem_of_getElem? (i := 5) rfl))) (mvT hZ (hw _ (List.mem_of_getElem? (i := 6) rfl))) (mvT hZ (hw _ (List.mem_of_getElem? (i := 7) rfl))) (mvT hZ (hw _ (List.mem_of_getElem? (i := 8) rfl))) (by decide) (backOf (W := 1) (rm2 l Z aw hw [] aF bF h37 n0 Z39 ) hZ (hw _ (List.mem_of_getElem? (i := 8) rfl)) (hw _ (List.mem_of_getElem? (i := 7) rfl)) (by decide) (by decide)) (g := (mkF m 127 #[.val (.long q0), .second, .val (.long q1), .second, .val (.int p2), .val (.int p3), .val (.ref b2), .val (.ref b5), .val (.int aF), .val (.int bF), .unset, .unset, .unset, .unset] [(.int bF), (.int aF), (.int (4 : Int32))])) rfl (by rw [hml]; rfl) (argsL := [(.int aF), (.int bF)]) (rest := [(.int (4 : Int32))]) (lenOf own_pd1 rfl) rfl (by show 2 * 0 + _ ≤ _; exact Nat.le_of_eq rfl) (hb hby at_127) (fun _ _ => ⟨rfl, e37, (by decide : 2 + 0 ≤ _), (by decide : 8 + 0 ≤ _)⟩)
  dsimp only [Pt.U, Pt.locs, Pt.cells, Pt.slots] at X42 l42 y42 z42 st42 hQ42
  rw [l42, y42, z42] at X42
  obtain ⟨rfl, Nq42, e42⟩ := hQ42
  have N42 := Fr.app N37 Nq42
  refine own_by (fun _ k => st42 _ k) ?_
  show own_G _ _ _ _ _ _ _ (T42.setTop (mkF m 130 #[.val (.long q0), .second, .val (.long q1), .second, .val (.int p2), .val (.int p3), .val (.ref b2), .val (.ref b5), .val (.int aF), .val (.int bF), .unset, .unset, .unset, .unset] [(.int (own_max aF bF)), (.int (4 : Int32))]))
  refine own_by (fun _ k => XS.isub X42.here hx rfl (hb hby at_130) rfl k) ?_
  show own_G _ _ _ _ _ _ _ (T42.setTop (mkF m 131 #[.val (.long q0), .second, .val (.long q1), .second, .val (.int p2), .val (.int p3), .val (.ref b2), .val (.ref b5), .val (.int aF), .val (.int bF), .unset, .unset, .unset, .unset] [(.int ((4 : Int32) - (own_max aF bF)))]))
  refine own_by (fun _ k => XS.istore X42.here hx rfl (hb hby at_131) rfl (l' := #[.val (.long q0), .second, .val (.long q1), .second, .val (.int p2), .val (.int p3), .val (.ref b2), .val (.ref b5), .val (.int aF), .val (.int bF), .val (.int ((4 : Int32) - (own_max aF bF))), .unset, .unset, .unset]) rfl k) ?_
  show own_G _ _ _ _ _ _ _ (T42.setTop (mkF m 133 #[.val (.long q0), .second, .val (.long q1), .second, .val (.int p2), .val (.int p3), .val (.ref b2), .val (.ref b5), .val (.int aF), .val (.int bF), .val (.int ((4 : Int32) - (own_max aF bF))), .unset, .unset, .unset] []))
  refine own_by (fun _ k => XS.iload X42.here hx rfl (hb hby at_133) rfl  k) ?_
  show own_G _ _ _ _ _ _ _ (T42.setTop (mkF m 135 #[.val (.long q0), .second, .val (.long q1), .second, .val (.int p2), .val (.int p3), .val (.ref b2), .val (.ref b5), .val (.int aF), .val (.int bF), .val (.int ((4 : Int32) - (own_max aF bF))), .unset, .unset, .unset] [(.int p3)]))
  refine own_by (fun _ k => XS.iconst X42.here hx rfl (hb hby at_135) k) ?_
  show own_G _ _ _ _ _ _ _ (T42.setTop (mkF m 136 #[.val (.long q0), .second, .val (.long q1), .second, .val (.int p2), .val (.int p3), .val (.ref b2), .val (.ref b5), .val (.int aF), .val (.int bF), .val (.int ((4 : Int32) - (own_max aF bF))), .unset, .unset, .unset] [(.int (4 : Int32)), (.int p3)]))
  refine own_by (fun _ k => XT.iushr X42.here hx rfl (hb hby at_136) rfl k) ?_
  show own_G _ _ _ _ _ _ _ (T42.setTop (mkF m 137 #[.val (.long q0), .second, .val (.long q1), .second, .val (.int p2), .val (.int p3), .val (.ref b2), .val (.ref b5), .val (.int aF), .val (.int bF), .val (.int ((4 : Int32) - (own_max aF bF))), .unset, .unset, .unset] [(.int (XT.ushr p3 (4 : Int32)))]))
  refine own_by (fun _ k => XS.bipush X42.here hx rfl (hb hby at_137) k) ?_
  show own_G _ _ _ _ _ _ _ (T42.setTop (mkF m 139 #[.val (.long q0), .second, .val (.long q1), .second, .val (.int p2), .val (.int p3), .val (.ref b2), .val (.ref b5), .val (.int aF), .val (.int bF), .val (.int ((4 : Int32) - (own_max aF bF))), .unset, .unset, .unset] [(.int (7 : Int32)), (.int (XT.ushr p3 (4 : Int32)))]))
  refine own_by (fun _ k => XS.iand X42.here hx rfl (hb hby at_139) rfl k) ?_
  show own_G _ _ _ _ _ _ _ (T42.setTop (mkF m 140 #[.val (.long q0), .second, .val (.long q1), .second, .val (.int p2), .val (.int p3), .val (.ref b2), .val (.ref b5), .val (.int aF), .val (.int bF), .val (.int ((4 : Int32) - (own_max aF bF))), .unset, .unset, .unset] [(.int ((XT.ushr p3 (4 : Int32)) &&& (7 : Int32)))]))
  refine own_by (fun _ k => XS.iload X42.here hx rfl (hb hby at_140) rfl  k) ?_
  show own_G _ _ _ _ _ _ _ (T42.setTop (mkF m 142 #[.val (.long q0), .second, .val (.long q1), .second, .val (.int p2), .val (.int p3), .val (.ref b2), .val (.ref b5), .val (.int aF), .val (.int bF), .val (.int ((4 : Int32) - (own_max aF bF))), .unset, .unset, .unset] [(.int ((4 : Int32) - (own_max aF bF))), (.int ((XT.ushr p3 (4 : Int32)) &&& (7 : Int32)))]))
  refine own_by (fun _ k => XS.iconst X42.here hx rfl (hb hby at_142) k) ?_
  show own_G _ _ _ _ _ _ _ (T42.setTop (mkF m 143 #[.val (.long q0), .second, .val (.long q1), .second, .val (.int p2), .val (.int p3), .val (.ref b2), .val (.ref b5), .val (.int aF), .val (.int bF), .val (.int ((4 : Int32) - (own_max aF bF))), .unset, .unset, .unset] [(.int (1 : Int32)), (.int ((4 : Int32) - (own_max aF bF))), (.int ((XT.ushr p3 (4 : Int32)) &&& (7 : Int32)))]))
  refine own_by (fun _ k => XS.iadd X42.here hx rfl (hb hby at_143) rfl k) ?_
  show own_G _ _ _ _ _ _ _ (T42.setTop (mkF m 144 #[.val (.long q0), .second, .val (.long q1), .second, .val (.int p2), .val (.int p3), .val (.ref b2), .val (.ref b5), .val (.int aF), .val (.int bF), .val (.int ((4 : Int32) - (own_max aF bF))), .unset, .unset, .unset] [(.int (((4 : Int32) - (own_max aF bF)) + (1 : Int32))), (.int ((XT.ushr p3 (4 : Int32)) &&& (7 : Int32)))]))
  refine own_by (fun _ k => iremM (g := (mkF m 144 #[.val (.long q0), .second, .val (.long q1), .second, .val (.int p2), .val (.int p3), .val (.ref b2), .val (.ref b5), .val (.int aF), .val (.int bF), .val (.int ((4 : Int32) - (own_max aF bF))), .unset, .unset, .unset] [(.int (((4 : Int32) - (own_max aF bF)) + (1 : Int32))), (.int ((XT.ushr p3 (4 : Int32)) &&& (7 : Int32)))])) X42 hx rfl (hb hby at_144) rfl (own_rnz haf hbf haf4 hbf4) k) ?_
  show own_G _ _ _ _ _ _ _ (T42.setTop (mkF m 145 #[.val (.long q0), .second, .val (.long q1), .second, .val (.int p2), .val (.int p3), .val (.ref b2), .val (.ref b5), .val (.int aF), .val (.int bF), .val (.int ((4 : Int32) - (own_max aF bF))), .unset, .unset, .unset] [(.int (((XT.ushr p3 (4 : Int32)) &&& (7 : Int32)) % (((4 : Int32) - (own_max aF bF)) + (1 : Int32))))]))
  refine own_by (fun _ k => XS.istore X42.here hx rfl (hb hby at_145) rfl (l' := #[.val (.long q0), .second, .val (.long q1), .second, .val (.int p2), .val (.int p3), .val (.ref b2), .val (.ref b5), .val (.int aF), .val (.int bF), .val (.int ((4 : Int32) - (own_max aF bF))), .val (.int (((XT.ushr p3 (4 : Int32)) &&& (7 : Int32)) % (((4 : Int32) - (own_max aF bF)) + (1 : Int32)))), .unset, .unset]) rfl k) ?_
  show own_G _ _ _ _ _ _ _ (T42.setTop (mkF m 147 #[.val (.long q0), .second, .val (.long q1), .second, .val (.int p2), .val (.int p3), .val (.ref b2), .val (.ref b5), .val (.int aF), .val (.int bF), .val (.int ((4 : Int32) - (own_max aF bF))), .val (.int (((XT.ushr p3 (4 : Int32)) &&& (7 : Int32)) % (((4 : Int32) - (own_max aF bF)) + (1 : Int32)))), .unset, .unset] []))
  generalize hnle : (((XT.ushr p3 (4 : Int32)) &&& (7 : Int32)) % (((4 : Int32) - (own_max aF bF)) + (1 : Int32))) = le
  show own_G _ _ _ _ _ _ _ (T42.setTop (mkF m 147 #[.val (.long q0), .second, .val (.long q1), .second, .val (.int p2), .val (.int p3), .val (.ref b2), .val (.ref b5), .val (.int aF), .val (.int bF), .val (.int ((4 : Int32) - (own_max aF bF))), .val (.int le), .unset, .unset] []))
  obtain ⟨ln, hln, hA, hB⟩ : ∃ ln : Nat, le.toInt = ln ∧ af + ln ≤ 4 ∧ bf + ln ≤ 4 := by rw [← hnle]; exact own_len4 haf hbf haf4 hbf4
  refine own_by (fun _ k => XS.aload X42.here hx rfl (hb hby at_147) rfl rfl k) ?_
  show own_G _ _ _ _ _ _ _ (T42.setTop (mkF m 149 #[.val (.long q0), .second, .val (.long q1), .second, .val (.int p2), .val (.int p3), .val (.ref b2), .val (.ref b5), .val (.int aF), .val (.int bF), .val (.int ((4 : Int32) - (own_max aF bF))), .val (.int le), .unset, .unset] [(.ref b2)]))
  refine own_by (fun _ k => XS.iload X42.here hx rfl (hb hby at_149) rfl  k) ?_
  show own_G _ _ _ _ _ _ _ (T42.setTop (mkF m 151 #[.val (.long q0), .second, .val (.long q1), .second, .val (.int p2), .val (.int p3), .val (.ref b2), .val (.ref b5), .val (.int aF), .val (.int bF), .val (.int ((4 : Int32) - (own_max aF bF))), .val (.int le), .unset, .unset] [(.int aF), (.ref b2)]))
  refine own_by (fun _ k => XS.aload X42.here hx rfl (hb hby at_151) rfl rfl k) ?_
  show own_G _ _ _ _ _ _ _ (T42.setTop (mkF m 153 #[.val (.long q0), .second, .val (.long q1), .second, .val (.int p2), .val (.int p3), .val (.ref b2), .val (.ref b5), .val (.int aF), .val (.int bF), .val (.int ((4 : Int32) - (own_max aF bF))), .val (.int le), .unset, .unset] [(.ref b5), (.int aF), (.ref b2)]))
  refine own_by (fun _ k => XS.iload X42.here hx rfl (hb hby at_153) rfl  k) ?_
  show own_G _ _ _ _ _ _ _ (T42.setTop (mkF m 155 #[.val (.long q0), .second, .val (.long q1), .second, .val (.int p2), .val (.int p3), .val (.ref b2), .val (.ref b5), .val (.int aF), .val (.int bF), .val (.int ((4 : Int32) - (own_max aF bF))), .val (.int le), .unset, .unset] [(.int bF), (.ref b5), (.int aF), (.ref b2)]))
  refine own_by (fun _ k => XS.iload X42.here hx rfl (hb hby at_155) rfl  k) ?_
  show own_G _ _ _ _ _ _ _ (T42.setTop (mkF m 157 #[.val (.long q0), .second, .val (.long q1), .second, .val (.int p2), .val (.int p3), .val (.ref b2), .val (.ref b5), .val (.int aF), .val (.int bF), .val (.int ((4 : Int32) - (own_max aF bF))), .val (.int le), .unset, .unset] [(.int le), (.int bF), (.ref b5), (.int aF), (.ref b2)]))
  obtain ⟨_, _, ⟨T43, L43, k43, n43⟩, -, X43, ⟨Lc43, hQ43, l43, y43, z43⟩, st43⟩ := Jvm.LawKit.callS X42 hx (y := (⟨"com/example/vote64/vote64/sketch/MinWiseSamples", "equalPlaces", "([JI[JII)I"⟩ : MethodName)) hown (mvT hZ (hw _ (List.mem_of_getElem? (i := 9) rfl))) (mvT hZ (hw _ (List.mem_of_getElem? (i := 10) rfl))) (mvT hZ (hw _ (List.mem_of_getElem? (i := 11) rfl))) (mvT hZ (hw _ (List.mem_of_getElem? (i := 12) rfl))) (by decide) (backOf (W := 0) (rm4 l Z aw hw [] b2 aF b5 bF le (own_FA p2 q0 q1) (own_FB p2 q0 q1) af bf ln h37 n0 Z39 V40 V41 haf hbf hln hA hB) hZ (hw _ (List.mem_of_getElem? (i := 12) rfl)) (hw _ (List.mem_of_getElem? (i := 11) rfl)) (by decide) (by decide)) (g := (mkF m 157 #[.val (.long q0), .second, .val (.long q1), .second, .val (.int p2), .val (.int p3), .val (.ref b2), .val (.ref b5), .val (.int aF), .val (.int bF), .val (.int ((4 : Int32) - (own_max aF bF))), .val (.int le), .unset, .unset] [(.int le), (.int bF), (.ref b5), (.int aF), (.ref b2)])) rfl (by rw [hml]; rfl) (argsL := [(.ref b2), (.int aF), (.ref b5), (.int bF), (.int le)]) (rest := []) (lenOf own_pd2 rfl) rfl (by show 2 * 0 + _ ≤ _; exact Nat.le_of_eq rfl) (hb hby at_157) (fun _ _ => ⟨rfl, e42, (by decide : 2 + 0 ≤ _), (by decide : 8 + 0 ≤ _)⟩)
  dsimp only [Pt.U, Pt.locs, Pt.cells, Pt.slots] at X43 l43 y43 z43 st43 hQ43
  rw [l43, y43, z43] at X43
  obtain ⟨rfl, Nq43, e43⟩ := hQ43
  have N43 := Fr.app N42 Nq43
  refine own_by (fun _ k => st43 _ k) ?_
  show own_G _ _ _ _ _ _ _ (T43.setTop (mkF m 160 #[.val (.long q0), .second, .val (.long q1), .second, .val (.int p2), .val (.int p3), .val (.ref b2), .val (.ref b5), .val (.int aF), .val (.int bF), .val (.int ((4 : Int32) - (own_max aF bF))), .val (.int le), .unset, .unset] [(.int (own_cnt (own_FA p2 q0 q1) (own_FB p2 q0 q1) af bf ln))]))
  refine own_by (fun _ k => XS.istore X43.here hx rfl (hb hby at_160) rfl (l' := #[.val (.long q0), .second, .val (.long q1), .second, .val (.int p2), .val (.int p3), .val (.ref b2), .val (.ref b5), .val (.int aF), .val (.int bF), .val (.int ((4 : Int32) - (own_max aF bF))), .val (.int le), .val (.int (own_cnt (own_FA p2 q0 q1) (own_FB p2 q0 q1) af bf ln)), .unset]) rfl k) ?_
  show own_G _ _ _ _ _ _ _ (T43.setTop (mkF m 162 #[.val (.long q0), .second, .val (.long q1), .second, .val (.int p2), .val (.int p3), .val (.ref b2), .val (.ref b5), .val (.int aF), .val (.int bF), .val (.int ((4 : Int32) - (own_max aF bF))), .val (.int le), .val (.int (own_cnt (own_FA p2 q0 q1) (own_FB p2 q0 q1) af bf ln)), .unset] []))
  refine own_by (fun _ k => XS.iload X43.here hx rfl (hb hby at_162) rfl  k) ?_
  show own_G _ _ _ _ _ _ _ (T43.setTop (mkF m 164 #[.val (.long q0), .second, .val (.long q1), .second, .val (.int p2), .val (.int p3), .val (.ref b2), .val (.ref b5), .val (.int aF), .val (.int bF), .val (.int ((4 : Int32) - (own_max aF bF))), .val (.int le), .val (.int (own_cnt (own_FA p2 q0 q1) (own_FB p2 q0 q1) af bf ln)), .unset] [(.int p2)]))
  refine own_by (fun _ k => XT.lloadN X43.here hx rfl (hb hby at_164) rfl  k) ?_
  show own_G _ _ _ _ _ _ _ (T43.setTop (mkF m 165 #[.val (.long q0), .second, .val (.long q1), .second, .val (.int p2), .val (.int p3), .val (.ref b2), .val (.ref b5), .val (.int aF), .val (.int bF), .val (.int ((4 : Int32) - (own_max aF bF))), .val (.int le), .val (.int (own_cnt (own_FA p2 q0 q1) (own_FB p2 q0 q1) af bf ln)), .unset] [(.long q0), (.int p2)]))
  refine own_by (fun _ k => XT.lloadN X43.here hx rfl (hb hby at_165) rfl  k) ?_
  show own_G _ _ _ _ _ _ _ (T43.setTop (mkF m 166 #[.val (.long q0), .second, .val (.long q1), .second, .val (.int p2), .val (.int p3), .val (.ref b2), .val (.ref b5), .val (.int aF), .val (.int bF), .val (.int ((4 : Int32) - (own_max aF bF))), .val (.int le), .val (.int (own_cnt (own_FA p2 q0 q1) (own_FB p2 q0 q1) af bf ln)), .unset] [(.long q1), (.long q0), (.int p2)]))
  refine own_by (fun _ k => XS.iload X43.here hx rfl (hb hby at_166) rfl  k) ?_
  show own_G _ _ _ _ _ _ _ (T43.setTop (mkF m 168 #[.val (.long q0), .second, .val (.long q1), .second, .val (.int p2), .val (.int p3), .val (.ref b2), .val (.ref b5), .val (.int aF), .val (.int bF), .val (.int ((4 : Int32) - (own_max aF bF))), .val (.int le), .val (.int (own_cnt (own_FA p2 q0 q1) (own_FB p2 q0 q1) af bf ln)), .unset] [(.int aF), (.long q1), (.long q0), (.int p2)]))
  refine own_by (fun _ k => XS.iload X43.here hx rfl (hb hby at_168) rfl  k) ?_
  show own_G _ _ _ _ _ _ _ (T43.setTop (mkF m 170 #[.val (.long q0), .second, .val (.long q1), .second, .val (.int p2), .val (.int p3), .val (.ref b2), .val (.ref b5), .val (.int aF), .val (.int bF), .val (.int ((4 : Int32) - (own_max aF bF))), .val (.int le), .val (.int (own_cnt (own_FA p2 q0 q1) (own_FB p2 q0 q1) af bf ln)), .unset] [(.int bF), (.int aF), (.long q1), (.long q0), (.int p2)]))
  refine own_by (fun _ k => XS.iconst X43.here hx rfl (hb hby at_170) k) ?_
  show own_G _ _ _ _ _ _ _ (T43.setTop (mkF m 171 #[.val (.long q0), .second, .val (.long q1), .second, .val (.int p2), .val (.int p3), .val (.ref b2), .val (.ref b5), .val (.int aF), .val (.int bF), .val (.int ((4 : Int32) - (own_max aF bF))), .val (.int le), .val (.int (own_cnt (own_FA p2 q0 q1) (own_FB p2 q0 q1) af bf ln)), .unset] [(.int (0 : Int32)), (.int bF), (.int aF), (.long q1), (.long q0), (.int p2)]))
  refine own_by (fun _ k => XS.iload X43.here hx rfl (hb hby at_171) rfl  k) ?_
  show own_G _ _ _ _ _ _ _ (T43.setTop (mkF m 173 #[.val (.long q0), .second, .val (.long q1), .second, .val (.int p2), .val (.int p3), .val (.ref b2), .val (.ref b5), .val (.int aF), .val (.int bF), .val (.int ((4 : Int32) - (own_max aF bF))), .val (.int le), .val (.int (own_cnt (own_FA p2 q0 q1) (own_FB p2 q0 q1) af bf ln)), .unset] [(.int le), (.int (0 : Int32)), (.int bF), (.int aF), (.long q1), (.long q0), (.int p2)]))
  obtain ⟨_, _, ⟨T44, L44, k44, n44⟩, -, X44, ⟨Lc44, hQ44, l44, y44, z44⟩, st44⟩ := Jvm.LawKit.callS X43 hx (y := (⟨"com/example/vote64/vote64/sketch/MinWiseSamplesEqualPlacesPinLaw", "place", "(IJJIIII)I"⟩ : MethodName)) hown (mvT hZ (hw _ (List.mem_of_getElem? (i := 13) rfl))) (mvT hZ (hw _ (List.mem_of_getElem? (i := 14) rfl))) (mvT hZ (hw _ (List.mem_of_getElem? (i := 3) rfl))) (mvT hZ (hw _ (List.mem_of_getElem? (i := 15) rfl))) (by decide) (backOf (W := 0) (rm3 l Z aw hw [] p2 q0 q1 aF bF (0 : Int32) le h37 n0 Z39 ) hZ (hw _ (List.mem_of_getElem? (i := 15) rfl)) (hw _ (List.mem_of_getElem? (i := 3) rfl)) (by decide) (by decide)) (g := (mkF m 173 #[.val (.long q0), .second, .val (.long q1), .second, .val (.int p2), .val (.int p3), .val (.ref b2), .val (.ref b5), .val (.int aF), .val (.int bF), .val (.int ((4 : Int32) - (own_max aF bF))), .val (.int le), .val (.int (own_cnt (own_FA p2 q0 q1) (own_FB p2 q0 q1) af bf ln)), .unset] [(.int le), (.int (0 : Int32)), (.int bF), (.int aF), (.long q1), (.long q0), (.int p2)])) rfl (by rw [hml]; rfl) (argsL := [(.int p2), (.long q0), (.long q1), (.int aF), (.int bF), (.int (0 : Int32)), (.int le)]) (rest := []) (lenOf own_pd3 rfl) rfl (by show 2 * 0 + _ ≤ _; exact Nat.le_of_eq rfl) (hb hby at_173) (fun _ _ => ⟨rfl, e43, (by decide : 2 + 0 ≤ _), (by decide : 8 + 0 ≤ _)⟩)
  dsimp only [Pt.U, Pt.locs, Pt.cells, Pt.slots] at X44 l44 y44 z44 st44 hQ44
  rw [l44, y44, z44] at X44
  obtain ⟨rfl, Nq44, e44⟩ := hQ44
  have N44 := Fr.app N43 Nq44
  refine own_by (fun _ k => st44 _ k) ?_
  show own_G _ _ _ _ _ _ _ (T44.setTop (mkF m 176 #[.val (.long q0), .second, .val (.long q1), .second, .val (.int p2), .val (.int p3), .val (.ref b2), .val (.ref b5), .val (.int aF), .val (.int bF), .val (.int ((4 : Int32) - (own_max aF bF))), .val (.int le), .val (.int (own_cnt (own_FA p2 q0 q1) (own_FB p2 q0 q1) af bf ln)), .unset] [(.int (own_place p2 q0 q1 aF bF (0 : Int32) le))]))
  refine own_by (fun _ k => XS.iload X44.here hx rfl (hb hby at_176) rfl  k) ?_
  show own_G _ _ _ _ _ _ _ (T44.setTop (mkF m 178 #[.val (.long q0), .second, .val (.long q1), .second, .val (.int p2), .val (.int p3), .val (.ref b2), .val (.ref b5), .val (.int aF), .val (.int bF), .val (.int ((4 : Int32) - (own_max aF bF))), .val (.int le), .val (.int (own_cnt (own_FA p2 q0 q1) (own_FB p2 q0 q1) af bf ln)), .unset] [(.int p2), (.int (own_place p2 q0 q1 aF bF (0 : Int32) le))]))
  refine own_by (fun _ k => XT.lloadN X44.here hx rfl (hb hby at_178) rfl  k) ?_
  show own_G _ _ _ _ _ _ _ (T44.setTop (mkF m 179 #[.val (.long q0), .second, .val (.long q1), .second, .val (.int p2), .val (.int p3), .val (.ref b2), .val (.ref b5), .val (.int aF), .val (.int bF), .val (.int ((4 : Int32) - (own_max aF bF))), .val (.int le), .val (.int (own_cnt (own_FA p2 q0 q1) (own_FB p2 q0 q1) af bf ln)), .unset] [(.long q0), (.int p2), (.int (own_place p2 q0 q1 aF bF (0 : Int32) le))]))
  refine own_by (fun _ k => XT.lloadN X44.here hx rfl (hb hby at_179) rfl  k) ?_
  show own_G _ _ _ _ _ _ _ (T44.setTop (mkF m 180 #[.val (.long q0), .second, .val (.long q1), .second, .val (.int p2), .val (.int p3), .val (.ref b2), .val (.ref b5), .val (.int aF), .val (.int bF), .val (.int ((4 : Int32) - (own_max aF bF))), .val (.int le), .val (.int (own_cnt (own_FA p2 q0 q1) (own_FB p2 q0 q1) af bf ln)), .unset] [(.long q1), (.long q0), (.int p2), (.int (own_place p2 q0 q1 aF bF (0 : Int32) le))]))
  refine own_by (fun _ k => XS.iload X44.here hx rfl (hb hby at_180) rfl  k) ?_
  show own_G _ _ _ _ _ _ _ (T44.setTop (mkF m 182 #[.val (.long q0), .second, .val (.long q1), .second, .val (.int p2), .val (.int p3), .val (.ref b2), .val (.ref b5), .val (.int aF), .val (.int bF), .val (.int ((4 : Int32) - (own_max aF bF))), .val (.int le), .val (.int (own_cnt (own_FA p2 q0 q1) (own_FB p2 q0 q1) af bf ln)), .unset] [(.int aF), (.long q1), (.long q0), (.int p2), (.int (own_place p2 q0 q1 aF bF (0 : Int32) le))]))
  refine own_by (fun _ k => XS.iload X44.here hx rfl (hb hby at_182) rfl  k) ?_
  show own_G _ _ _ _ _ _ _ (T44.setTop (mkF m 184 #[.val (.long q0), .second, .val (.long q1), .second, .val (.int p2), .val (.int p3), .val (.ref b2), .val (.ref b5), .val (.int aF), .val (.int bF), .val (.int ((4 : Int32) - (own_max aF bF))), .val (.int le), .val (.int (own_cnt (own_FA p2 q0 q1) (own_FB p2 q0 q1) af bf ln)), .unset] [(.int bF), (.int aF), (.long q1), (.long q0), (.int p2), (.int (own_place p2 q0 q1 aF bF (0 : Int32) le))]))
  refine own_by (fun _ k => XS.iconst X44.here hx rfl (hb hby at_184) k) ?_
  show own_G _ _ _ _ _ _ _ (T44.setTop (mkF m 185 #[.val (.long q0), .second, .val (.long q1), .second, .val (.int p2), .val (.int p3), .val (.ref b2), .val (.ref b5), .val (.int aF), .val (.int bF), .val (.int ((4 : Int32) - (own_max aF bF))), .val (.int le), .val (.int (own_cnt (own_FA p2 q0 q1) (own_FB p2 q0 q1) af bf ln)), .unset] [(.int (1 : Int32)), (.int bF), (.int aF), (.long q1), (.long q0), (.int p2), (.int (own_place p2 q0 q1 aF bF (0 : Int32) le))]))
  refine own_by (fun _ k => XS.iload X44.here hx rfl (hb hby at_185) rfl  k) ?_
  show own_G _ _ _ _ _ _ _ (T44.setTop (mkF m 187 #[.val (.long q0), .second, .val (.long q1), .second, .val (.int p2), .val (.int p3), .val (.ref b2), .val (.ref b5), .val (.int aF), .val (.int bF), .val (.int ((4 : Int32) - (own_max aF bF))), .val (.int le), .val (.int (own_cnt (own_FA p2 q0 q1) (own_FB p2 q0 q1) af bf ln)), .unset] [(.int le), (.int (1 : Int32)), (.int bF), (.int aF), (.long q1), (.long q0), (.int p2), (.int (own_place p2 q0 q1 aF bF (0 : Int32) le))]))
  obtain ⟨_, _, ⟨T45, L45, k45, n45⟩, -, X45, ⟨Lc45, hQ45, l45, y45, z45⟩, st45⟩ := Jvm.LawKit.callS X44 hx (y := (⟨"com/example/vote64/vote64/sketch/MinWiseSamplesEqualPlacesPinLaw", "place", "(IJJIIII)I"⟩ : MethodName)) hown (mvT hZ (hw _ (List.mem_of_getElem? (i := 13) rfl))) (mvT hZ (hw _ (List.mem_of_getElem? (i := 14) rfl))) (mvT hZ (hw _ (List.mem_of_getElem? (i := 3) rfl))) (mvT hZ (hw _ (List.mem_of_getElem? (i := 15) rfl))) (by decide) (backOf (W := 1) (rm3 l Z aw hw [] p2 q0 q1 aF bF (1 : Int32) le h37 n0 Z39 ) hZ (hw _ (List.mem_of_getElem? (i := 15) rfl)) (hw _ (List.mem_of_getElem? (i := 3) rfl)) (by decide) (by decide)) (g := (mkF m 187 #[.val (.long q0), .second, .val (.long q1), .second, .val (.int p2), .val (.int p3), .val (.ref b2), .val (.ref b5), .val (.int aF), .val (.int bF), .val (.int ((4 : Int32) - (own_max aF bF))), .val (.int le), .val (.int (own_cnt (own_FA p2 q0 q1) (own_FB p2 q0 q1) af bf ln)), .unset] [(.int le), (.int (1 : Int32)), (.int bF), (.int aF), (.long q1), (.long q0), (.int p2), (.int (own_place p2 q0 q1 aF bF (0 : Int32) le))])) rfl (by rw [hml]; rfl) (argsL := [(.int p2), (.long q0), (.long q1), (.int aF), (.int bF), (.int (1 : Int32)), (.int le)]) (rest := [(.int (own_place p2 q0 q1 aF bF (0 : Int32) le))]) (lenOf own_pd3 rfl) rfl (by show 2 * 0 + _ ≤ _; exact Nat.le_of_eq rfl) (hb hby at_187) (fun _ _ => ⟨rfl, e44, (by decide : 2 + 0 ≤ _), (by decide : 8 + 0 ≤ _)⟩)
  dsimp only [Pt.U, Pt.locs, Pt.cells, Pt.slots] at X45 l45 y45 z45 st45 hQ45
  rw [l45, y45, z45] at X45
  obtain ⟨rfl, Nq45, e45⟩ := hQ45
  have N45 := Fr.app N44 Nq45
  refine own_by (fun _ k => st45 _ k) ?_
  show own_G _ _ _ _ _ _ _ (T45.setTop (mkF m 190 #[.val (.long q0), .second, .val (.long q1), .second, .val (.int p2), .val (.int p3), .val (.ref b2), .val (.ref b5), .val (.int aF), .val (.int bF), .val (.int ((4 : Int32) - (own_max aF bF))), .val (.int le), .val (.int (own_cnt (own_FA p2 q0 q1) (own_FB p2 q0 q1) af bf ln)), .unset] [(.int (own_place p2 q0 q1 aF bF (1 : Int32) le)), (.int (own_place p2 q0 q1 aF bF (0 : Int32) le))]))
  refine own_by (fun _ k => XS.iadd X45.here hx rfl (hb hby at_190) rfl k) ?_
  show own_G _ _ _ _ _ _ _ (T45.setTop (mkF m 191 #[.val (.long q0), .second, .val (.long q1), .second, .val (.int p2), .val (.int p3), .val (.ref b2), .val (.ref b5), .val (.int aF), .val (.int bF), .val (.int ((4 : Int32) - (own_max aF bF))), .val (.int le), .val (.int (own_cnt (own_FA p2 q0 q1) (own_FB p2 q0 q1) af bf ln)), .unset] [(.int ((own_place p2 q0 q1 aF bF (0 : Int32) le) + (own_place p2 q0 q1 aF bF (1 : Int32) le)))]))
  refine own_by (fun _ k => XS.iload X45.here hx rfl (hb hby at_191) rfl  k) ?_
  show own_G _ _ _ _ _ _ _ (T45.setTop (mkF m 193 #[.val (.long q0), .second, .val (.long q1), .second, .val (.int p2), .val (.int p3), .val (.ref b2), .val (.ref b5), .val (.int aF), .val (.int bF), .val (.int ((4 : Int32) - (own_max aF bF))), .val (.int le), .val (.int (own_cnt (own_FA p2 q0 q1) (own_FB p2 q0 q1) af bf ln)), .unset] [(.int p2), (.int ((own_place p2 q0 q1 aF bF (0 : Int32) le) + (own_place p2 q0 q1 aF bF (1 : Int32) le)))]))
  refine own_by (fun _ k => XT.lloadN X45.here hx rfl (hb hby at_193) rfl  k) ?_
  show own_G _ _ _ _ _ _ _ (T45.setTop (mkF m 194 #[.val (.long q0), .second, .val (.long q1), .second, .val (.int p2), .val (.int p3), .val (.ref b2), .val (.ref b5), .val (.int aF), .val (.int bF), .val (.int ((4 : Int32) - (own_max aF bF))), .val (.int le), .val (.int (own_cnt (own_FA p2 q0 q1) (own_FB p2 q0 q1) af bf ln)), .unset] [(.long q0), (.int p2), (.int ((own_place p2 q0 q1 aF bF (0 : Int32) le) + (own_place p2 q0 q1 aF bF (1 : Int32) le)))]))
  refine own_by (fun _ k => XT.lloadN X45.here hx rfl (hb hby at_194) rfl  k) ?_
  show own_G _ _ _ _ _ _ _ (T45.setTop (mkF m 195 #[.val (.long q0), .second, .val (.long q1), .second, .val (.int p2), .val (.int p3), .val (.ref b2), .val (.ref b5), .val (.int aF), .val (.int bF), .val (.int ((4 : Int32) - (own_max aF bF))), .val (.int le), .val (.int (own_cnt (own_FA p2 q0 q1) (own_FB p2 q0 q1) af bf ln)), .unset] [(.long q1), (.long q0), (.int p2), (.int ((own_place p2 q0 q1 aF bF (0 : Int32) le) + (own_place p2 q0 q1 aF bF (1 : Int32) le)))]))
  refine own_by (fun _ k => XS.iload X45.here hx rfl (hb hby at_195) rfl  k) ?_
  show own_G _ _ _ _ _ _ _ (T45.setTop (mkF m 197 #[.val (.long q0), .second, .val (.long q1), .second, .val (.int p2), .val (.int p3), .val (.ref b2), .val (.ref b5), .val (.int aF), .val (.int bF), .val (.int ((4 : Int32) - (own_max aF bF))), .val (.int le), .val (.int (own_cnt (own_FA p2 q0 q1) (own_FB p2 q0 q1) af bf ln)), .unset] [(.int aF), (.long q1), (.long q0), (.int p2), (.int ((own_place p2 q0 q1 aF bF (0 : Int32) le) + (own_place p2 q0 q1 aF bF (1 : Int32) le)))]))
  refine own_by (fun _ k => XS.iload X45.here hx rfl (hb hby at_197) rfl  k) ?_
  show own_G _ _ _ _ _ _ _ (T45.setTop (mkF m 199 #[.val (.long q0), .second, .val (.long q1), .second, .val (.int p2), .val (.int p3), .val (.ref b2), .val (.ref b5), .val (.int aF), .val (.int bF), .val (.int ((4 : Int32) - (own_max aF bF))), .val (.int le), .val (.int (own_cnt (own_FA p2 q0 q1) (own_FB p2 q0 q1) af bf ln)), .unset] [(.int bF), (.int aF), (.long q1), (.long q0), (.int p2), (.int ((own_place p2 q0 q1 aF bF (0 : Int32) le) + (own_place p2 q0 q1 aF bF (1 : Int32) le)))]))
  refine own_by (fun _ k => XS.iconst X45.here hx rfl (hb hby at_199) k) ?_
  show own_G _ _ _ _ _ _ _ (T45.setTop (mkF m 200 #[.val (.long q0), .second, .val (.long q1), .second, .val (.int p2), .val (.int p3), .val (.ref b2), .val (.ref b5), .val (.int aF), .val (.int bF), .val (.int ((4 : Int32) - (own_max aF bF))), .val (.int le), .val (.int (own_cnt (own_FA p2 q0 q1) (own_FB p2 q0 q1) af bf ln)), .unset] [(.int (2 : Int32)), (.int bF), (.int aF), (.long q1), (.long q0), (.int p2), (.int ((own_place p2 q0 q1 aF bF (0 : Int32) le) + (own_place p2 q0 q1 aF bF (1 : Int32) le)))]))
  refine own_by (fun _ k => XS.iload X45.here hx rfl (hb hby at_200) rfl  k) ?_
  show own_G _ _ _ _ _ _ _ (T45.setTop (mkF m 202 #[.val (.long q0), .second, .val (.long q1), .second, .val (.int p2), .val (.int p3), .val (.ref b2), .val (.ref b5), .val (.int aF), .val (.int bF), .val (.int ((4 : Int32) - (own_max aF bF))), .val (.int le), .val (.int (own_cnt (own_FA p2 q0 q1) (own_FB p2 q0 q1) af bf ln)), .unset] [(.int le), (.int (2 : Int32)), (.int bF), (.int aF), (.long q1), (.long q0), (.int p2), (.int ((own_place p2 q0 q1 aF bF (0 : Int32) le) + (own_place p2 q0 q1 aF bF (1 : Int32) le)))]))
  obtain ⟨_, _, ⟨T46, L46, k46, n46⟩, -, X46, ⟨Lc46, hQ46, l46, y46, z46⟩, st46⟩ := Jvm.LawKit.callS X45 hx (y := (⟨"com/example/vote64/vote64/sketch/MinWiseSamplesEqualPlacesPinLaw", "place", "(IJJIIII)I"⟩ : MethodName)) hown (mvT hZ (hw _ (List.mem_of_getElem? (i := 13) rfl))) (mvT hZ (hw _ (List.mem_of_getElem? (i := 14) rfl))) (mvT hZ (hw _ (List.mem_of_getElem? (i := 3) rfl))) (mvT hZ (hw _ (List.mem_of_getElem? (i := 15) rfl))) (by decide) (backOf (W := 1) (rm3 l Z aw hw [] p2 q0 q1 aF bF (2 : Int32) le h37 n0 Z39 ) hZ (hw _ (List.mem_of_getElem? (i := 15) rfl)) (hw _ (List.mem_of_getElem? (i := 3) rfl)) (by decide) (by decide)) (g := (mkF m 202 #[.val (.long q0), .second, .val (.long q1), .second, .val (.int p2), .val (.int p3), .val (.ref b2), .val (.ref b5), .val (.int aF), .val (.int bF), .val (.int ((4 : Int32) - (own_max aF bF))), .val (.int le), .val (.int (own_cnt (own_FA p2 q0 q1) (own_FB p2 q0 q1) af bf ln)), .unset] [(.int le), (.int (2 : Int32)), (.int bF), (.int aF), (.long q1), (.long q0), (.int p2), (.int ((own_place p2 q0 q1 aF bF (0 : Int32) le) + (own_place p2 q0 q1 aF bF (1 : Int32) le)))])) rfl (by rw [hml]; rfl) (argsL := [(.int p2), (.long q0), (.long q1), (.int aF), (.int bF), (.int (2 : Int32)), (.int le)]) (rest := [(.int ((own_place p2 q0 q1 aF bF (0 : Int32) le) + (own_place p2 q0 q1 aF bF (1 : Int32) le)))]) (lenOf own_pd3 rfl) rfl (by show 2 * 0 + _ ≤ _; exact Nat.le_of_eq rfl) (hb hby at_202) (fun _ _ => ⟨rfl, e45, (by decide : 2 + 0 ≤ _), (by decide : 8 + 0 ≤ _)⟩)
  dsimp only [Pt.U, Pt.locs, Pt.cells, Pt.slots] at X46 l46 y46 z46 st46 hQ46
  rw [l46, y46, z46] at X46
  obtain ⟨rfl, Nq46, e46⟩ := hQ46
  have N46 := Fr.app N45 Nq46
  refine own_by (fun _ k => st46 _ k) ?_
  show own_G _ _ _ _ _ _ _ (T46.setTop (mkF m 205 #[.val (.long q0), .second, .val (.long q1), .second, .val (.int p2), .val (.int p3), .val (.ref b2), .val (.ref b5), .val (.int aF), .val (.int bF), .val (.int ((4 : Int32) - (own_max aF bF))), .val (.int le), .val (.int (own_cnt (own_FA p2 q0 q1) (own_FB p2 q0 q1) af bf ln)), .unset] [(.int (own_place p2 q0 q1 aF bF (2 : Int32) le)), (.int ((own_place p2 q0 q1 aF bF (0 : Int32) le) + (own_place p2 q0 q1 aF bF (1 : Int32) le)))]))
  refine own_by (fun _ k => XS.iadd X46.here hx rfl (hb hby at_205) rfl k) ?_
  show own_G _ _ _ _ _ _ _ (T46.setTop (mkF m 206 #[.val (.long q0), .second, .val (.long q1), .second, .val (.int p2), .val (.int p3), .val (.ref b2), .val (.ref b5), .val (.int aF), .val (.int bF), .val (.int ((4 : Int32) - (own_max aF bF))), .val (.int le), .val (.int (own_cnt (own_FA p2 q0 q1) (own_FB p2 q0 q1) af bf ln)), .unset] [(.int (((own_place p2 q0 q1 aF bF (0 : Int32) le) + (own_place p2 q0 q1 aF bF (1 : Int32) le)) + (own_place p2 q0 q1 aF bF (2 : Int32) le)))]))
  refine own_by (fun _ k => XS.iload X46.here hx rfl (hb hby at_206) rfl  k) ?_
  show own_G _ _ _ _ _ _ _ (T46.setTop (mkF m 208 #[.val (.long q0), .second, .val (.long q1), .second, .val (.int p2), .val (.int p3), .val (.ref b2), .val (.ref b5), .val (.int aF), .val (.int bF), .val (.int ((4 : Int32) - (own_max aF bF))), .val (.int le), .val (.int (own_cnt (own_FA p2 q0 q1) (own_FB p2 q0 q1) af bf ln)), .unset] [(.int p2), (.int (((own_place p2 q0 q1 aF bF (0 : Int32) le) + (own_place p2 q0 q1 aF bF (1 : Int32) le)) + (own_place p2 q0 q1 aF bF (2 : Int32) le)))]))
  refine own_by (fun _ k => XT.lloadN X46.here hx rfl (hb hby at_208) rfl  k) ?_
  show own_G _ _ _ _ _ _ _ (T46.setTop (mkF m 209 #[.val (.long q0), .second, .val (.long q1), .second, .val (.int p2), .val (.int p3), .val (.ref b2), .val (.ref b5), .val (.int aF), .val (.int bF), .val (.int ((4 : Int32) - (own_max aF bF))), .val (.int le), .val (.int (own_cnt (own_FA p2 q0 q1) (own_FB p2 q0 q1) af bf ln)), .unset] [(.long q0), (.int p2), (.int (((own_place p2 q0 q1 aF bF (0 : Int32) le) + (own_place p2 q0 q1 aF bF (1 : Int32) le)) + (own_place p2 q0 q1 aF bF (2 : Int32) le)))]))
  refine own_by (fun _ k => XT.lloadN X46.here hx rfl (hb hby at_209) rfl  k) ?_
  show own_G _ _ _ _ _ _ _ (T46.setTop (mkF m 210 #[.val (.long q0), .second, .val (.long q1), .second, .val (.int p2), .val (.int p3), .val (.ref b2), .val (.ref b5), .val (.int aF), .val (.int bF), .val (.int ((4 : Int32) - (own_max aF bF))), .val (.int le), .val (.int (own_cnt (own_FA p2 q0 q1) (own_FB p2 q0 q1) af bf ln)), .unset] [(.long q1), (.long q0), (.int p2), (.int (((own_place p2 q0 q1 aF bF (0 : Int32) le) + (own_place p2 q0 q1 aF bF (1 : Int32) le)) + (own_place p2 q0 q1 aF bF (2 : Int32) le)))]))
  refine own_by (fun _ k => XS.iload X46.here hx rfl (hb hby at_210) rfl  k) ?_
  show own_G _ _ _ _ _ _ _ (T46.setTop (mkF m 212 #[.val (.long q0), .second, .val (.long q1), .second, .val (.int p2), .val (.int p3), .val (.ref b2), .val (.ref b5), .val (.int aF), .val (.int bF), .val (.int ((4 : Int32) - (own_max aF bF))), .val (.int le), .val (.int (own_cnt (own_FA p2 q0 q1) (own_FB p2 q0 q1) af bf ln)), .unset] [(.int aF), (.long q1), (.long q0), (.int p2), (.int (((own_place p2 q0 q1 aF bF (0 : Int32) le) + (own_place p2 q0 q1 aF bF (1 : Int32) le)) + (own_place p2 q0 q1 aF bF (2 : Int32) le)))]))
  refine own_by (fun _ k => XS.iload X46.here hx rfl (hb hby at_212) rfl  k) ?_
  show own_G _ _ _ _ _ _ _ (T46.setTop (mkF m 214 #[.val (.long q0), .second, .val (.long q1), .second, .val (.int p2), .val (.int p3), .val (.ref b2), .val (.ref b5), .val (.int aF), .val (.int bF), .val (.int ((4 : Int32) - (own_max aF bF))), .val (.int le), .val (.int (own_cnt (own_FA p2 q0 q1) (own_FB p2 q0 q1) af bf ln)), .unset] [(.int bF), (.int aF), (.long q1), (.long q0), (.int p2), (.int (((own_place p2 q0 q1 aF bF (0 : Int32) le) + (own_place p2 q0 q1 aF bF (1 : Int32) le)) + (own_place p2 q0 q1 aF bF (2 : Int32) le)))]))
  refine own_by (fun _ k => XS.iconst X46.here hx rfl (hb hby at_214) k) ?_
  show own_G _ _ _ _ _ _ _ (T46.setTop (mkF m 215 #[.val (.long q0), .second, .val (.long q1), .second, .val (.int p2), .val (.int p3), .val (.ref b2), .val (.ref b5), .val (.int aF), .val (.int bF), .val (.int ((4 : Int32) - (own_max aF bF))), .val (.int le), .val (.int (own_cnt (own_FA p2 q0 q1) (own_FB p2 q0 q1) af bf ln)), .unset] [(.int (3 : Int32)), (.int bF), (.int aF), (.long q1), (.long q0), (.int p2), (.int (((own_place p2 q0 q1 aF bF (0 : Int32) le) + (own_place p2 q0 q1 aF bF (1 : Int32) le)) + (own_place p2 q0 q1 aF bF (2 : Int32) le)))]))
  refine own_by (fun _ k => XS.iload X46.here hx rfl (hb hby at_215) rfl  k) ?_
  show own_G _ _ _ _ _ _ _ (T46.setTop (mkF m 217 #[.val (.long q0), .second, .val (.long q1), .second, .val (.int p2), .val (.int p3), .val (.ref b2), .val (.ref b5), .val (.int aF), .val (.int bF), .val (.int ((4 : Int32) - (own_max aF bF))), .val (.int le), .val (.int (own_cnt (own_FA p2 q0 q1) (own_FB p2 q0 q1) af bf ln)), .unset] [(.int le), (.int (3 : Int32)), (.int bF), (.int aF), (.long q1), (.long q0), (.int p2), (.int (((own_place p2 q0 q1 aF bF (0 : Int32) le) + (own_place p2 q0 q1 aF bF (1 : Int32) le)) + (own_place p2 q0 q1 aF bF (2 : Int32) le)))]))
  obtain ⟨_, _, ⟨T47, L47, k47, n47⟩, -, X47, ⟨Lc47, hQ47, l47, y47, z47⟩, st47⟩ := Jvm.LawKit.callS X46 hx (y := (⟨"com/example/vote64/vote64/sketch/MinWiseSamplesEqualPlacesPinLaw", "place", "(IJJIIII)I"⟩ : MethodName)) hown (mvT hZ (hw _ (List.mem_of_getElem? (i := 13) rfl))) (mvT hZ (hw _ (List.mem_of_getElem? (i := 14) rfl))) (mvT hZ (hw _ (List.mem_of_getElem? (i := 3) rfl))) (mvT hZ (hw _ (List.mem_of_getElem? (i := 15) rfl))) (by decide) (backOf (W := 1) (rm3 l Z aw hw [] p2 q0 q1 aF bF (3 : Int32) le h37 n0 Z39 ) hZ (hw _ (List.mem_of_getElem? (i := 15) rfl)) (hw _ (List.mem_of_getElem? (i := 3) rfl)) (by decide) (by decide)) (g := (mkF m 217 #[.val (.long q0), .second, .val (.long q1), .second, .val (.int p2), .val (.int p3), .val (.ref b2), .val (.ref b5), .val (.int aF), .val (.int bF), .val (.int ((4 : Int32) - (own_max aF bF))), .val (.int le), .val (.int (own_cnt (own_FA p2 q0 q1) (own_FB p2 q0 q1) af bf ln)), .unset] [(.int le), (.int (3 : Int32)), (.int bF), (.int aF), (.long q1), (.long q0), (.int p2), (.int (((own_place p2 q0 q1 aF bF (0 : Int32) le) + (own_place p2 q0 q1 aF bF (1 : Int32) le)) + (own_place p2 q0 q1 aF bF (2 : Int32) le)))])) rfl (by rw [hml]; rfl) (argsL := [(.int p2), (.long q0), (.long q1), (.int aF), (.int bF), (.int (3 : Int32)), (.int le)]) (rest := [(.int (((own_place p2 q0 q1 aF bF (0 : Int32) le) + (own_place p2 q0 q1 aF bF (1 : Int32) le)) + (own_place p2 q0 q1 aF bF (2 : Int32) le)))]) (lenOf own_pd3 rfl) rfl (by show 2 * 0 + _ ≤ _; exact Nat.le_of_eq rfl) (hb hby at_217) (fun _ _ => ⟨rfl, e46, (by decide : 2 + 0 ≤ _), (by decide : 8 + 0 ≤ _)⟩)
  dsimp only [Pt.U, Pt.locs, Pt.cells, Pt.slots] at X47 l47 y47 z47 st47 hQ47
  rw [l47, y47, z47] at X47
  obtain ⟨rfl, Nq47, e47⟩ := hQ47
  have N47 := Fr.app N46 Nq47
  refine own_by (fun _ k => st47 _ k) ?_
  show own_G _ _ _ _ _ _ _ (T47.setTop (mkF m 220 #[.val (.long q0), .second, .val (.long q1), .second, .val (.int p2), .val (.int p3), .val (.ref b2), .val (.ref b5), .val (.int aF), .val (.int bF), .val (.int ((4 : Int32) - (own_max aF bF))), .val (.int le), .val (.int (own_cnt (own_FA p2 q0 q1) (own_FB p2 q0 q1) af bf ln)), .unset] [(.int (own_place p2 q0 q1 aF bF (3 : Int32) le)), (.int (((own_place p2 q0 q1 aF bF (0 : Int32) le) + (own_place p2 q0 q1 aF bF (1 : Int32) le)) + (own_place p2 q0 q1 aF bF (2 : Int32) le)))]))
  refine own_by (fun _ k => XS.iadd X47.here hx rfl (hb hby at_220) rfl k) ?_
  show own_G _ _ _ _ _ _ _ (T47.setTop (mkF m 221 #[.val (.long q0), .second, .val (.long q1), .second, .val (.int p2), .val (.int p3), .val (.ref b2), .val (.ref b5), .val (.int aF), .val (.int bF), .val (.int ((4 : Int32) - (own_max aF bF))), .val (.int le), .val (.int (own_cnt (own_FA p2 q0 q1) (own_FB p2 q0 q1) af bf ln)), .unset] [(.int ((((own_place p2 q0 q1 aF bF (0 : Int32) le) + (own_place p2 q0 q1 aF bF (1 : Int32) le)) + (own_place p2 q0 q1 aF bF (2 : Int32) le)) + (own_place p2 q0 q1 aF bF (3 : Int32) le)))]))
  refine own_by (fun _ k => XS.istore X47.here hx rfl (hb hby at_221) rfl (l' := #[.val (.long q0), .second, .val (.long q1), .second, .val (.int p2), .val (.int p3), .val (.ref b2), .val (.ref b5), .val (.int aF), .val (.int bF), .val (.int ((4 : Int32) - (own_max aF bF))), .val (.int le), .val (.int (own_cnt (own_FA p2 q0 q1) (own_FB p2 q0 q1) af bf ln)), .val (.int ((((own_place p2 q0 q1 aF bF (0 : Int32) le) + (own_place p2 q0 q1 aF bF (1 : Int32) le)) + (own_place p2 q0 q1 aF bF (2 : Int32) le)) + (own_place p2 q0 q1 aF bF (3 : Int32) le)))]) rfl k) ?_
  show own_G _ _ _ _ _ _ _ (T47.setTop (mkF m 223 #[.val (.long q0), .second, .val (.long q1), .second, .val (.int p2), .val (.int p3), .val (.ref b2), .val (.ref b5), .val (.int aF), .val (.int bF), .val (.int ((4 : Int32) - (own_max aF bF))), .val (.int le), .val (.int (own_cnt (own_FA p2 q0 q1) (own_FB p2 q0 q1) af bf ln)), .val (.int ((((own_place p2 q0 q1 aF bF (0 : Int32) le) + (own_place p2 q0 q1 aF bF (1 : Int32) le)) + (own_place p2 q0 q1 aF bF (2 : Int32) le)) + (own_place p2 q0 q1 aF bF (3 : Int32) le)))] []))
  refine own_by (fun _ k => XS.iload X47.here hx rfl (hb hby at_223) rfl  k) ?_
  show own_G _ _ _ _ _ _ _ (T47.setTop (mkF m 225 #[.val (.long q0), .second, .val (.long q1), .second, .val (.int p2), .val (.int p3), .val (.ref b2), .val (.ref b5), .val (.int aF), .val (.int bF), .val (.int ((4 : Int32) - (own_max aF bF))), .val (.int le), .val (.int (own_cnt (own_FA p2 q0 q1) (own_FB p2 q0 q1) af bf ln)), .val (.int ((((own_place p2 q0 q1 aF bF (0 : Int32) le) + (own_place p2 q0 q1 aF bF (1 : Int32) le)) + (own_place p2 q0 q1 aF bF (2 : Int32) le)) + (own_place p2 q0 q1 aF bF (3 : Int32) le)))] [(.int (own_cnt (own_FA p2 q0 q1) (own_FB p2 q0 q1) af bf ln))]))
  refine own_by (fun _ k => XS.iload X47.here hx rfl (hb hby at_225) rfl  k) ?_
  show own_G _ _ _ _ _ _ _ (T47.setTop (mkF m 227 #[.val (.long q0), .second, .val (.long q1), .second, .val (.int p2), .val (.int p3), .val (.ref b2), .val (.ref b5), .val (.int aF), .val (.int bF), .val (.int ((4 : Int32) - (own_max aF bF))), .val (.int le), .val (.int (own_cnt (own_FA p2 q0 q1) (own_FB p2 q0 q1) af bf ln)), .val (.int ((((own_place p2 q0 q1 aF bF (0 : Int32) le) + (own_place p2 q0 q1 aF bF (1 : Int32) le)) + (own_place p2 q0 q1 aF bF (2 : Int32) le)) + (own_place p2 q0 q1 aF bF (3 : Int32) le)))] [(.int ((((own_place p2 q0 q1 aF bF (0 : Int32) le) + (own_place p2 q0 q1 aF bF (1 : Int32) le)) + (own_place p2 q0 q1 aF bF (2 : Int32) le)) + (own_place p2 q0 q1 aF bF (3 : Int32) le))), (.int (own_cnt (own_FA p2 q0 q1) (own_FB p2 q0 q1) af bf ln))]))
  have hc227 : (own_cnt (own_FA p2 q0 q1) (own_FB p2 q0 q1) af bf ln) = ((((own_place p2 q0 q1 aF bF (0 : Int32) le) + (own_place p2 q0 q1 aF bF (1 : Int32) le)) + (own_place p2 q0 q1 aF bF (2 : Int32) le)) + (own_place p2 q0 q1 aF bF (3 : Int32) le)) := (by rw [own_pl haf hbf (show (0 : Int32).toInt = (0 : Nat) by decide) hln (by omega) (by omega) (by omega), own_pl haf hbf (show (1 : Int32).toInt = (1 : Nat) by decide) hln (by omega) (by omega) (by omega), own_pl haf hbf (show (2 : Int32).toInt = (2 : Nat) by decide) hln (by omega) (by omega) (by omega), own_pl haf hbf (show (3 : Int32).toInt = (3 : Nat) by decide) hln (by omega) (by omega) (by omega)]; exact own_sum _ _ _ _ _ (by omega))
  refine own_by (fun _ k => XS.icmpNo X47.here hx rfl (hb hby at_227) rfl (XT.ii_ne_f hc227) k) ?_
  show own_G _ _ _ _ _ _ _ (T47.setTop (mkF m 230 #[.val (.long q0), .second, .val (.long q1), .second, .val (.int p2), .val (.int p3), .val (.ref b2), .val (.ref b5), .val (.int aF), .val (.int bF), .val (.int ((4 : Int32) - (own_max aF bF))), .val (.int le), .val (.int (own_cnt (own_FA p2 q0 q1) (own_FB p2 q0 q1) af bf ln)), .val (.int ((((own_place p2 q0 q1 aF bF (0 : Int32) le) + (own_place p2 q0 q1 aF bF (1 : Int32) le)) + (own_place p2 q0 q1 aF bF (2 : Int32) le)) + (own_place p2 q0 q1 aF bF (3 : Int32) le)))] []))
  refine own_by (fun _ k => XS.iconst X47.here hx rfl (hb hby at_230) k) ?_
  show own_G _ _ _ _ _ _ _ (T47.setTop (mkF m 231 #[.val (.long q0), .second, .val (.long q1), .second, .val (.int p2), .val (.int p3), .val (.ref b2), .val (.ref b5), .val (.int aF), .val (.int bF), .val (.int ((4 : Int32) - (own_max aF bF))), .val (.int le), .val (.int (own_cnt (own_FA p2 q0 q1) (own_FB p2 q0 q1) af bf ln)), .val (.int ((((own_place p2 q0 q1 aF bF (0 : Int32) le) + (own_place p2 q0 q1 aF bF (1 : Int32) le)) + (own_place p2 q0 q1 aF bF (2 : Int32) le)) + (own_place p2 q0 q1 aF bF (3 : Int32) le)))] [(.int (1 : Int32))]))
  refine own_by (fun _ k => XS.goto X47.here hx rfl (pc0 := 231) (pc' := 235) rfl (hb hby at_231) (by decide) (by decide) k) ?_
  show own_G _ _ _ _ _ _ _ (T47.setTop (mkF m 235 #[.val (.long q0), .second, .val (.long q1), .second, .val (.int p2), .val (.int p3), .val (.ref b2), .val (.ref b5), .val (.int aF), .val (.int bF), .val (.int ((4 : Int32) - (own_max aF bF))), .val (.int le), .val (.int (own_cnt (own_FA p2 q0 q1) (own_FB p2 q0 q1) af bf ln)), .val (.int ((((own_place p2 q0 q1 aF bF (0 : Int32) le) + (own_place p2 q0 q1 aF bF (1 : Int32) le)) + (own_place p2 q0 q1 aF bF (2 : Int32) le)) + (own_place p2 q0 q1 aF bF (3 : Int32) le)))] [(.int (1 : Int32))]))
  exact own_end X47 (v := some (.int (nar .boolean (1 : Int32)))) (fun h => by rw [Bd.returns] at h; cases h) (BodyLoose.notSynchronized Bd) (fun fs hr => retN X47 hx (t := .boolean) Bd.returns (by simp) (hb hby at_235) hr) (by rw [e47]; exact ⟨rfl, N47⟩) (by decide) (by decide)
set_option maxRecDepth 65536 in
set_option maxHeartbeats 40000000 in
theorem comes_1 {Post : Tables → Env → Array Value → State → Outcome → State → Prop} (hpost : ∀ tb e args s v u, (limb_1_1.after args s (.returned v) u = true ∧ limb_1_2.after args s (.returned v) u = true ∧ True) → FrameEnd s (.returned v) u (Jvm.fieldLocs frame_1_writes args s ++ Jvm.arrayLocs frame_1_arrays args s ++ Jvm.staticLocs frame_1_statics s) 16 128 → Post tb e args s (.returned v) u) :
    ArmFor flags0 classFile x code maxLocals ret World_1 tables_1 room_1 Calls_1 rest_1 Pre_1 Post := by
  intro l hfl _ _ p e ha hc hk s m args below hf hA hF happ hP
  obtain ⟨hcalls, hrest, hpre⟩ := hP
  obtain ⟨-, -, -, hnamed, -, -, -, hat⟩ := (Spec.applies_iff hf).mp happ
  obtain ⟨hg, hn⟩ := and_e (Cond.before_iff.mp (show (Jvm.Cond.and given_1 narrow_1).before args s = true from hpre))
  obtain ⟨gc, hg⟩ := and_e hg
  obtain ⟨g0, hg⟩ := and_e hg
  obtain ⟨g1, hg⟩ := and_e hg
  obtain ⟨g2, hg⟩ := and_e hg
  have g3 := hg
  obtain ⟨w0, w1, w2, w3, rfl⟩ : ∃ w0 w1 w2 w3 : Value, args = #[w0, w1, w2, w3] := by
    have hs : args.size = 4 := by simpa [Cond.value, given_1] using gc
    obtain ⟨L⟩ := args
    match L, hs with
    | [w0, w1, w2, w3], _ => exact ⟨w0, w1, w2, w3, rfl⟩
  have hw := fun d (hd : d ∈ tables_1) => atoms_spec (ws := Jvm.Cond.code x code maxLocals ret :: tables_1) hat d (List.mem_cons_of_mem _ hd)
  obtain ⟨i0, ei0⟩ := isL_v g0
  obtain rfl : w0 = (.long i0) := Option.some.inj ei0
  obtain ⟨i1, ei1⟩ := isL_v g1
  obtain rfl : w1 = (.long i1) := Option.some.inj ei1
  obtain ⟨i2, ei2⟩ := is_v g2
  obtain rfl : w2 = (.int i2) := Option.some.inj ei2
  obtain ⟨i3, ei3⟩ := is_v g3
  obtain rfl : w3 = (.int i3) := Option.some.inj ei3
  obtain ⟨n, o, h1, h2, h3, _, L, rfl, ⟨rfl, N⟩, hq⟩ := rm0 l s _ hw tables_1 i0 i1 i2 i3  s.heap s.heap.size (Nat.le_refl _)  p e ha hc hk s m _ below hf ((Spec.applies_iff_loose hf).mp happ).1 ⟨rfl, State.Warmed39.refl s, rfl⟩ trivial
  refine ⟨n, _, h1, h2, h3, hpost _ _ _ _ _ _ ⟨Cond.after_iff.mpr rfl, Cond.after_iff.mpr (eq_i res_at (Term.int_eval (1)) rfl), trivial⟩ ⟨hq.1, hq.2.1, (hq.2.2.sift fun y hy => Or.inr (N y hy)).mono (by decide) (by decide)⟩⟩
theorem main_1_1 : Claimed_1_1 := comes_1 fun _ _ _ _ _ _ h hF => ⟨h.1, hF⟩
theorem main_1_2 : Claimed_1_2 := comes_1 fun _ _ _ _ _ _ h hF => ⟨h.2.1, hF⟩
end Jvm.Pilot.@@N@@
namespace Jvm.Pilot.@@N@@
open Jvm Jvm.ClassFile Sem Op Lib Jvm.Free Jvm.Stand Jvm.Pilot.@@N@@.Jvm.D
/-! MADE BY PROGRAM (witnessworld.py) out of the Statement's table words and the real class files: 12 classes; the members and pool entries that the words name. The judged class is class 1, her method 1. -/
namespace start1
open Jvm.ClassFile
def u (s : String) : CpInfo := .utf8 (stringToUtf16 s)
/-- a pool by its gaps: so many unusable entries, then the entry; so many at the end -/
def gap : Nat → List CpInfo → List CpInfo
  | 0, r => r
  | n + 1, r => .unusable :: gap n r
def poolList (es : List (Nat × CpInfo)) (last : Nat) : List CpInfo := es.foldr (fun e r => gap e.1 (e.2 :: r)) (gap last [])
def pool (es : List (Nat × CpInfo)) (last : Nat) : Array CpInfo := ⟨poolList es last⟩
def fileOf (pool : Array CpInfo) (this : Nat) (attrs : Array Attribute := #[]) (ms : Array MethodInfo := #[]) (fl : Nat := 33) (sup : Nat := 0) (ifs : Array Nat := #[]) (fds : Array FieldInfo := #[]) : ClassFile where
  minorVersion := 0
  majorVersion := 65
  constantPool := pool
  accessFlags := fl
  thisClass := this
  superClass := sup
  interfaces := ifs
  fields := fds
  methods := ms
  attributes := attrs
def plain (name : String) (sup : Option ClassId) : Class where
  name := name
  kind := .ordinary
  loader := none
  accessFlags := 33
  super := sup
  interfaces := #[]
  cf := none
  fields := #[]
  methods := #[]
  instanceTypes := #[]
  staticTypes := #[]
  resolved := #[]
  callSites := []
  init := .initialized
  statics := none
  mirror := none

def pool0 : Array CpInfo := pool [(5, u "<init>"), (0, u "()V"), (1, .class_ 10), (1, u "java/lang/Object")] 113

def k0m0 : Method := { name := "<init>", desc := "()V", sig := { parameters := [], returnType := none }, accessFlags := 1, code := none }
/-- java/lang/Object -/
def k0 : Class := { plain "java/lang/Object" none with
  accessFlags := 33
  interfaces := #[]
  cf := some (fileOf pool0 8 #[] #[{ accessFlags := 1, nameIndex := 5, descriptorIndex := 6, attributes := #[] }] 33 0 #[] #[])
  fields := #[]
  methods := #[k0m0]
  instanceTypes := #[]
  staticTypes := #[]
  resolved := Array.replicate 124 none
  statics := none }

def pool1 : Array CpInfo := pool [(2, .class_ 4), (1, u "java/lang/Object"), (0, u "<init>"), (0, u "()V"), (0, .methodref 8 9), (0, .class_ 10), (0, .nameAndType 11 12), (0, u "com/example/vote64/vote64/sketch/MinWiseSamplesEqualPlacesPinLaw"), (0, u "pick"), (0, u "(IIJJ)J"), (0, .methodref 14 15), (0, .class_ 16), (0, .nameAndType 17 18), (0, u "java/lang/Math"), (0, u "max"), (0, u "(II)I"), (0, .methodref 20 21), (0, .class_ 22), (0, .nameAndType 23 24), (0, u "com/example/vote64/vote64/sketch/MinWiseSamples"), (0, u "equalPlaces"), (0, u "([JI[JII)I"), (0, .methodref 8 26), (0, .nameAndType 27 28), (0, u "place"), (0, u "(IJJIIII)I"), (2, u "law"), (0, u "(JJII)Z")] 5

def k1m0 : Method := { name := "<init>", desc := "()V", sig := { parameters := [], returnType := none }, accessFlags := 1, code := none }
def k1c1 : Code := { maxStack := 10, maxLocals := 14, code := code, exceptionTable := #[], attributes := #[] }
def k1m1 : Method := { name := "law", desc := "(JJII)Z", sig := { parameters := [.long, .long, .int, .int], returnType := some .boolean }, accessFlags := 9, code := some k1c1 }
def k1c2 : Code := { maxStack := 2, maxLocals := 6, code := method_3_code, exceptionTable := #[], attributes := #[] }
def k1m2 : Method := { name := "pick", desc := "(IIJJ)J", sig := { parameters := [.int, .int, .long, .long], returnType := some .long }, accessFlags := 10, code := some k1c2 }
def k1c3 : Code := { maxStack := 4, maxLocals := 11, code := method_4_code, exceptionTable := #[], attributes := #[] }
def k1m3 : Method := { name := "place", desc := "(IJJIIII)I", sig := { parameters := [.int, .long, .long, .int, .int, .int, .int], returnType := some .int }, accessFlags := 10, code := some k1c3 }
/-- com/example/vote64/vote64/sketch/MinWiseSamplesEqualPlacesPinLaw -/
def k1 : Class := { plain "com/example/vote64/vote64/sketch/MinWiseSamplesEqualPlacesPinLaw" (some 0) with
  accessFlags := 49
  interfaces := #[]
  cf := some (fileOf pool1 8 #[] #[{ accessFlags := 1, nameIndex := 5, descriptorIndex := 6, attributes := #[] }, { accessFlags := 9, nameIndex := 31, descriptorIndex := 32, attributes := #[] }, { accessFlags := 10, nameIndex := 11, descriptorIndex := 12, attributes := #[] }, { accessFlags := 10, nameIndex := 27, descriptorIndex := 28, attributes := #[] }] 49 2 #[] #[])
  fields := #[]
  methods := #[k1m0, k1m1, k1m2, k1m3]
  instanceTypes := #[]
  staticTypes := #[]
  resolved := Array.replicate 38 none
  statics := none }

def pool2 : Array CpInfo := pool [(1, .class_ 2), (0, u "java/lang/Math"), (1, .class_ 6), (1, u "java/lang/Object"), (0, u "<init>"), (0, u "()V"), (89, .class_ 100), (1, u "java/lang/Math$RandomNumberGeneratorHolder"), (71, u "negativeZeroFloatBits"), (0, u "J"), (2, u "negativeZeroDoubleBits"), (21, u "max"), (46, u "$assertionsDisabled"), (0, u "Z"), (88, u "(II)I"), (2, u "twoToTheDoubleScaleDown"), (0, u "D"), (4, u "twoToTheDoubleScaleUp"), (9, u "E"), (3, u "PI"), (2, u "TAU"), (2, u "DEGREES_TO_RADIANS"), (0, u "RADIANS_TO_DEGREES")] 94

def k2m0 : Method := { name := "<init>", desc := "()V", sig := { parameters := [], returnType := none }, accessFlags := 2, code := none }
def k2c1 : Code := { maxStack := 2, maxLocals := 2, code := jdk_29_method_65_code, exceptionTable := #[], attributes := #[] }
def k2m1 : Method := { name := "max", desc := "(II)I", sig := { parameters := [.int, .int], returnType := some .int }, accessFlags := 9, code := some k2c1 }
/-- java/lang/Math -/
def k2 : Class := { plain "java/lang/Math" (some 0) with
  accessFlags := 49
  interfaces := #[]
  cf := some (fileOf pool2 1 #[.nestMembers #[98]] #[{ accessFlags := 2, nameIndex := 7, descriptorIndex := 8, attributes := #[] }, { accessFlags := 9, nameIndex := 198, descriptorIndex := 335, attributes := #[] }] 49 4 #[] #[{ accessFlags := 25, nameIndex := 354, descriptorIndex := 339, attributes := #[] }, { accessFlags := 25, nameIndex := 358, descriptorIndex := 339, attributes := #[] }, { accessFlags := 25, nameIndex := 361, descriptorIndex := 339, attributes := #[] }, { accessFlags := 26, nameIndex := 364, descriptorIndex := 339, attributes := #[] }, { accessFlags := 26, nameIndex := 365, descriptorIndex := 339, attributes := #[] }, { accessFlags := 26, nameIndex := 172, descriptorIndex := 173, attributes := #[] }, { accessFlags := 26, nameIndex := 176, descriptorIndex := 173, attributes := #[] }, { accessFlags := 8, nameIndex := 344, descriptorIndex := 339, attributes := #[] }, { accessFlags := 8, nameIndex := 338, descriptorIndex := 339, attributes := #[] }, { accessFlags := 4120, nameIndex := 245, descriptorIndex := 246, attributes := #[] }])
  fields := #[{ name := "E", type := .double, accessFlags := 25, slot := 0, constantValue := 0 }, { name := "PI", type := .double, accessFlags := 25, slot := 1, constantValue := 0 }, { name := "TAU", type := .double, accessFlags := 25, slot := 2, constantValue := 0 }, { name := "DEGREES_TO_RADIANS", type := .double, accessFlags := 26, slot := 3, constantValue := 0 }, { name := "RADIANS_TO_DEGREES", type := .double, accessFlags := 26, slot := 4, constantValue := 0 }, { name := "negativeZeroFloatBits", type := .long, accessFlags := 26, slot := 5, constantValue := 0 }, { name := "negativeZeroDoubleBits", type := .long, accessFlags := 26, slot := 6, constantValue := 0 }, { name := "twoToTheDoubleScaleUp", type := .double, accessFlags := 8, slot := 7, constantValue := 0 }, { name := "twoToTheDoubleScaleDown", type := .double, accessFlags := 8, slot := 8, constantValue := 0 }, { name := "$assertionsDisabled", type := .boolean, accessFlags := 4120, slot := 9, constantValue := 0 }]
  methods := #[k2m0, k2m1]
  instanceTypes := #[]
  staticTypes := #[.double, .double, .double, .double, .double, .long, .long, .double, .double, .boolean]
  resolved := Array.replicate 460 none
  statics := none }

def pool3 : Array CpInfo := pool [(2, .class_ 4), (1, u "java/lang/Object"), (3, .class_ 10), (1, u "com/example/vote64/vote64/sketch/MinWiseSamples"), (0, u "samples"), (0, u "[J"), (0, .class_ 14), (0, u "com/example/vote64/vote64/sketch/MinWiseSamples$Builder"), (35, u "equalPlaces"), (0, u "([JI[JII)I"), (8, u "KEYS"), (0, u "COUNT"), (0, u "I"), (2, u "SHINGLE_SEED"), (0, u "J"), (2, u "KEY_SEED")] 18

def k3c0 : Code := { maxStack := 5, maxLocals := 7, code := prog_7_method_5_code, exceptionTable := #[], attributes := #[] }
def k3m0 : Method := { name := "equalPlaces", desc := "([JI[JII)I", sig := { parameters := [(.array .long), .int, (.array .long), .int, .int], returnType := some .int }, accessFlags := 8, code := some k3c0 }
/-- com/example/vote64/vote64/sketch/MinWiseSamples -/
def k3 : Class := { plain "com/example/vote64/vote64/sketch/MinWiseSamples" (some 0) with
  accessFlags := 49
  interfaces := #[]
  cf := some (fileOf pool3 8 #[.nestMembers #[13]] #[{ accessFlags := 8, nameIndex := 50, descriptorIndex := 51, attributes := #[] }] 49 2 #[] #[{ accessFlags := 25, nameIndex := 61, descriptorIndex := 62, attributes := #[] }, { accessFlags := 26, nameIndex := 65, descriptorIndex := 66, attributes := #[] }, { accessFlags := 26, nameIndex := 69, descriptorIndex := 66, attributes := #[] }, { accessFlags := 26, nameIndex := 60, descriptorIndex := 12, attributes := #[] }, { accessFlags := 18, nameIndex := 11, descriptorIndex := 12, attributes := #[] }])
  fields := #[{ name := "COUNT", type := .int, accessFlags := 25, slot := 0, constantValue := 0 }, { name := "SHINGLE_SEED", type := .long, accessFlags := 26, slot := 1, constantValue := 0 }, { name := "KEY_SEED", type := .long, accessFlags := 26, slot := 2, constantValue := 0 }, { name := "KEYS", type := (.array .long), accessFlags := 26, slot := 3, constantValue := 0 }, { name := "samples", type := (.array .long), accessFlags := 18, slot := 0, constantValue := 0 }]
  methods := #[k3m0]
  instanceTypes := #[(.array .long)]
  staticTypes := #[.int, .long, .long, (.array .long)]
  resolved := Array.replicate 88 none
  statics := none }

def pool4 : Array CpInfo := pool [(1, u "java/lang/Cloneable"), (0, .class_ 1), (0, u "java/lang/Object"), (0, .class_ 3)] 3

/-- java/lang/Cloneable -/
def k4 : Class := { plain "java/lang/Cloneable" (some 0) with
  accessFlags := 1537
  interfaces := #[]
  cf := some (fileOf pool4 2 #[] #[] 1537 4 #[] #[])
  fields := #[]
  methods := #[]
  instanceTypes := #[]
  staticTypes := #[]
  resolved := Array.replicate 8 none
  statics := none }

def pool5 : Array CpInfo := pool [(1, u "java/io/Serializable"), (0, .class_ 1), (0, u "java/lang/Object"), (0, .class_ 3)] 3

/-- java/io/Serializable -/
def k5 : Class := { plain "java/io/Serializable" (some 0) with
  accessFlags := 1537
  interfaces := #[]
  cf := some (fileOf pool5 2 #[] #[] 1537 4 #[] #[])
  fields := #[]
  methods := #[]
  instanceTypes := #[]
  staticTypes := #[]
  resolved := Array.replicate 8 none
  statics := none }

/-- the primitive byte -/
def k6 : Class := { plain "byte" none with kind := .primitive 'B', accessFlags := 0x411 }
/-- [B -/
def k7 : Class := { plain "[B" (some 0) with kind := .array 6 .byte, interfaces := #[4, 5], accessFlags := 1041 }

/-- the primitive int -/
def k8 : Class := { plain "int" none with kind := .primitive 'I', accessFlags := 0x411 }
/-- [I -/
def k9 : Class := { plain "[I" (some 0) with kind := .array 8 .int, interfaces := #[4, 5], accessFlags := 1041 }

/-- the primitive long -/
def k10 : Class := { plain "long" none with kind := .primitive 'J', accessFlags := 0x411 }
/-- [J -/
def k11 : Class := { plain "[J" (some 0) with kind := .array 10 .long, interfaces := #[4, 5], accessFlags := 1041 }

def heap : Heap := #[]
def classes : Array Class := #[k0, k1, k2, k3, k4, k5, k6, k7, k8, k9, k10, k11]
def interned : List (Array UInt16 × Addr) := []
def slotsUsed : Nat := 0
def theMethod : MethodId := ⟨1, 1⟩
def args0 : Array Value := #[.long 5, .long 5, .int 5, .int 5]
def aboutOver (below : List Frame) : State where
  vm := { classes := classes, interned := interned.toArray }
  heap := heap
  slotsUsed := slotsUsed
  threads := #[{ frames := .invoking theMethod args0 :: below }]
def below0 : List Frame := [.native { method := ⟨0, 0⟩, args := #[] }]
def about1 : State := aboutOver below0
def p0 : Program := .bare "" "" ""
def e0 : Env := launch0.env 0 0 0
theorem w_frames : about1.frames = Frame.invoking theMethod args0 :: below0 := rfl
set_option maxRecDepth 65536 in
theorem w_args : argsFit about1.vm theMethod args0 = true := by decide +kernel
set_option maxRecDepth 65536 in
theorem w_heap : heapFits about1 = true := by decide +kernel
set_option maxRecDepth 65536 in
theorem w_runnable : about1.curStatus? = some .runnable := by decide +kernel
set_option maxRecDepth 65536 in
theorem w_alone : about1.alone = true := by decide +kernel
set_option maxRecDepth 65536 in
theorem w_named : about1.methodNamed? x = some theMethod := by decide +kernel
set_option maxRecDepth 65536 in
theorem w_hears : about1.hears theMethod below0 = true := by decide +kernel
set_option maxRecDepth 65536 in
theorem w_ripe : about1.ripe theMethod args0 below0 = true := by decide +kernel
theorem w_running : about1.status = .running := rfl
set_option maxRecDepth 65536 in
theorem w_room : about1.hasRoom e0.platform room_1 = true :=
  launch0.hasRoom_least _ room_1 (by decide +kernel) (by decide +kernel) (by decide +kernel) (by decide +kernel) (by decide +kernel) (by decide +kernel)
theorem allAtoms_all (ts : List Jvm.Cond) (a : Array Jvm.Value) (st : Jvm.State) : (allAtoms ts).before a st = ts.all (fun c => c.before a st) := by
  induction ts with
  | nil => rfl
  | cons c t ih =>
    show (Jvm.Cond.and c (allAtoms t)).before a st = _
    rw [Jvm.Cond.before_and, ih, List.all_cons]
def words1 : List Jvm.Cond := Jvm.Cond.code x code maxLocals ret :: tables_1
/-- a 'code' word, met by the world's own term for the bytes: nothing is compared byte by byte -/
theorem code_word {y : MethodName} {bytes : ByteArray} {mx : Nat} {rt : Option FieldType} {a : Array Value} {s : State} {m : MethodId} {meth : Method} {c : Code} (h1 : s.methodNamed? y = some m) (h2 : s.vm.method? m = some meth) (h3 : meth.code = some c) (h4 : c.code = bytes)
    (h5 : (c.maxLocals == mx && c.exceptionTable.isEmpty && decide (c.maxStack ≤ mostOperands) && decide (meth.sig.returnType = rt) && !meth.locks && decide (parseMethodDescriptor y.desc = some meth.sig)) = true) : (Jvm.Cond.code y bytes mx rt).before a s = true := by
  simp only [Bool.and_eq_true, beq_iff_eq, Bool.not_eq_true', decide_eq_true_eq] at h5
  obtain ⟨⟨⟨⟨⟨g1, g2⟩, g3⟩, g4⟩, g5⟩, g6⟩ := h5
  simp [Cond.before, Cond.holds, Cond.value, h1, h2, h3, h4, g1, g2, g3, g4, g5, g6]
def isCode : Jvm.Cond → Bool
  | .code _ _ _ _ => true
  | _ => false
theorem all_split {L : List Jvm.Cond} {P : Jvm.Cond → Bool} (h1 : L.all (fun c => isCode c || P c) = true) (h2 : ∀ c ∈ L.filter isCode, P c = true) : L.all P = true := by
  refine List.all_eq_true.mpr fun c hc => ?_
  have h := List.all_eq_true.mp h1 c hc
  rcases Bool.eq_false_or_eq_true (isCode c) with hi | hi
  · exact h2 c (List.mem_filter.mpr ⟨hc, hi⟩)
  · simpa [hi] using h
set_option maxRecDepth 65536 in
theorem w_c0 : (Jvm.Cond.code x code maxLocals ret).before args0 about1 = true := code_word (m := ⟨1, 1⟩) (meth := k1m1) (c := k1c1) (by decide +kernel) rfl rfl rfl (by decide +kernel)
set_option maxRecDepth 65536 in
theorem w_c1 : (Jvm.Cond.code ({ cls := "com/example/vote64/vote64/sketch/MinWiseSamplesEqualPlacesPinLaw", name := "pick", desc := "(IIJJ)J" } : Jvm.MethodName) method_3_code (6 : Nat) (Option.some Jvm.ClassFile.FieldType.long)).before args0 about1 = true := code_word (m := ⟨1, 2⟩) (meth := k1m2) (c := k1c2) (by decide +kernel) rfl rfl rfl (by decide +kernel)
set_option maxRecDepth 65536 in
theorem w_c2 : (Jvm.Cond.code ({ cls := "java/lang/Math", name := "max", desc := "(II)I" } : Jvm.MethodName) jdk_29_method_65_code (2 : Nat) (Option.some Jvm.ClassFile.FieldType.int)).before args0 about1 = true := code_word (m := ⟨2, 1⟩) (meth := k2m1) (c := k2c1) (by decide +kernel) rfl rfl rfl (by decide +kernel)
set_option maxRecDepth 65536 in
theorem w_c3 : (Jvm.Cond.code ({ cls := "com/example/vote64/vote64/sketch/MinWiseSamples", name := "equalPlaces", desc := "([JI[JII)I" } : Jvm.MethodName) prog_7_method_5_code (7 : Nat) (Option.some Jvm.ClassFile.FieldType.int)).before args0 about1 = true := code_word (m := ⟨3, 0⟩) (meth := k3m0) (c := k3c0) (by decide +kernel) rfl rfl rfl (by decide +kernel)
set_option maxRecDepth 65536 in
theorem w_c4 : (Jvm.Cond.code ({ cls := "com/example/vote64/vote64/sketch/MinWiseSamplesEqualPlacesPinLaw", name := "place", desc := "(IJJIIII)I" } : Jvm.MethodName) method_4_code (11 : Nat) (Option.some Jvm.ClassFile.FieldType.int)).before args0 about1 = true := code_word (m := ⟨1, 3⟩) (meth := k1m3) (c := k1c3) (by decide +kernel) rfl rfl rfl (by decide +kernel)
def codes1 : List Jvm.Cond := [Jvm.Cond.code x code maxLocals ret, Jvm.Cond.code ({ cls := "com/example/vote64/vote64/sketch/MinWiseSamplesEqualPlacesPinLaw", name := "pick", desc := "(IIJJ)J" } : Jvm.MethodName) method_3_code (6 : Nat) (Option.some Jvm.ClassFile.FieldType.long), Jvm.Cond.code ({ cls := "java/lang/Math", name := "max", desc := "(II)I" } : Jvm.MethodName) jdk_29_method_65_code (2 : Nat) (Option.some Jvm.ClassFile.FieldType.int), Jvm.Cond.code ({ cls := "com/example/vote64/vote64/sketch/MinWiseSamples", name := "equalPlaces", desc := "([JI[JII)I" } : Jvm.MethodName) prog_7_method_5_code (7 : Nat) (Option.some Jvm.ClassFile.FieldType.int), Jvm.Cond.code ({ cls := "com/example/vote64/vote64/sketch/MinWiseSamplesEqualPlacesPinLaw", name := "place", desc := "(IJJIIII)I" } : Jvm.MethodName) method_4_code (11 : Nat) (Option.some Jvm.ClassFile.FieldType.int)]
set_option maxRecDepth 65536 in
theorem codes_eq : words1.filter isCode = codes1 := rfl
theorem w_codes : ∀ c ∈ words1.filter isCode, c.before args0 about1 = true := by
  rw [codes_eq]
  intro c hc
  simp only [codes1, List.mem_cons, List.not_mem_nil, or_false] at hc
  rcases hc with rfl | rfl | rfl | rfl | rfl
  · exact w_c0
  · exact w_c1
  · exact w_c2
  · exact w_c3
  · exact w_c4
set_option maxRecDepth 65536 in
theorem w_t1 : words1.all (fun c => isCode c || c.before args0 about1) = true := by decide +kernel
theorem w_tables : (allAtoms (Jvm.Cond.code x code maxLocals ret :: tables_1)).before args0 about1 = true := by
  rw [allAtoms_all]
  show words1.all (fun c => c.before args0 about1) = true
  refine all_split ?_ w_codes
  rw [w_t1]
set_option maxRecDepth 65536 in
theorem w_case : (Jvm.Cond.and given_1 narrow_1).before args0 about1 = true := by decide +kernel
theorem w_applies : (headSpec (Jvm.Cond.code x code maxLocals ret :: tables_1) room_1).applies x e0.platform about1 = true :=
  (Spec.applies_iff w_frames).mpr ⟨w_running, w_runnable, w_alone, w_named, w_hears, w_ripe, w_room, w_tables⟩
theorem atStart : AtStart classFile x code maxLocals ret World_1 tables_1 room_1 Calls_1 rest_1 Pre_1 launch0 p0 e0 about1 theMethod args0 below0 :=
  ⟨lists_1, trivial, launch0.admits_env _ _ _, launch0.least_env, fairChoices_fair.cas, fairChoices_fair.clock, w_frames, w_args, w_heap, w_applies, trivial, trivial, w_case⟩
end start1
theorem witness_1 : WitnessClaimed_1 := ⟨start1.p0, start1.e0, start1.about1, start1.theMethod, start1.args0, start1.below0, start1.atStart⟩
end Jvm.Pilot.@@N@@
