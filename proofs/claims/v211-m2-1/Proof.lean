import JvmDerived
import JvmDerived.Pilot.@@N@@Statement
import JvmDerived.Pilot.@@N@@Code
set_option linter.unusedVariables false
set_option linter.unusedSimpArgs false
namespace Jvm.RoadKit
open Sem ClassFile Op Lib Jvm.Stand Jvm.Free Jvm.LawKit
section New
variable {p : Program} {l : Launch} {e : Env} {R : Room} {s : State} {m : MethodId} {args : Array Value} {below : List Frame} {meth : Method} {c : Code} {T : State} {locs : List Loc} {cells slots : Nat}
theorem retI (X : Stand p l e R s m args below meth c T locs cells slots) (hx : p.tables.exec = Jvm.exec) {pc : Nat} {Ls : Array Slot} {z : Int32} {rest : List Value} (hret : meth.sig.returnType = some .int) (hd : decode c.code pc = .ok (.ireturn, 1)) {fs : List Frame}
    (hl : ∀ (f : JFrame) (acts : List Action), f.method = m → f.locked = none → f.entered = [] → (doReturn e (T.setTop f) acts (some (.int z))).1 = T.setFrames fs) : Steps p.tables e below (T.setTop (mkF m pc Ls (.int z :: rest))) (T.setFrames fs) := by
  have hm' : T.vm.method? m = some meth := X.method'
  have hn : narrow .int (.int z) = .int z := rfl
  show Steps p.tables e below (T.setTop { method := m, pc := pc, locals := Ls, stack := _ :: rest, locked := none }) _
  jvm_step X.here [X.here.top, hx, hd, hm', hret, hn]
  first | (intro acts; rw [hl _ acts rfl rfl rfl]) | rw [hl _ _ rfl rfl rfl]
  exact Steps.refl _
/-- the run from A comes to its end, and there Q holds -/
def own_G (tb : Tables) (e : Env) (below : List Frame) (s : State) (Q : Option Value → Heap → List Loc → Prop) (C S : Nat) (A : State) : Prop :=
  ∃ s₂ o, Steps tb e below A s₂ ∧ s₂.status = .running ∧ Ended s₂ below o ∧ ∃ v L, o = .returned v ∧ Q v s₂.heap L ∧ FrameEnd s o s₂ L C S
theorem own_by {tb : Tables} {Q : Option Value → Heap → List Loc → Prop} {C S : Nat} {A B : State} (st : ∀ t, Steps tb e below B t → Steps tb e below A t) (k : own_G tb e below s Q C S B) : own_G tb e below s Q C S A := by
  obtain ⟨s₂, o, h, r⟩ := k
  exact ⟨s₂, o, st _ h, r⟩
theorem own_end (X : Stand p l e R s m args below meth c T locs cells slots) {v : Option Value} (hv : meth.sig.returnType = none → v = none) (hlk : meth.locks = false) {Q : Option Value → Heap → List Loc → Prop} {C S : Nat} {A : State}
    (st : ∀ fs, (∀ (f : JFrame) (acts : List Action), f.method = m → f.locked = none → f.entered = [] → (doReturn e (T.setTop f) acts v).1 = T.setFrames fs) → Steps p.tables e below A (T.setFrames fs))
    (hQ : Q v T.heap locs) (hc : cells ≤ C) (hs : slots ≤ S) : own_G p.tables e below s Q C S A := by
  obtain ⟨fs, hr, hrun, hended, hW, hsame⟩ := X.leave hv hlk
  exact ⟨_, _, st fs hr, hrun, hended, _, _, rfl, hQ, ⟨_, rfl⟩, hW, hsame.mono hc hs⟩
theorem own_lremM {tb : Tables} [Ours tb] {target : State} {g : JFrame} (h : At T m c below) (hx : tb.exec = Jvm.exec) (hg : g.method = m) {x y : Int64} {rest : List Value} (hd : decode c.code g.pc = .ok (.lrem, 1)) (hs : g.stack = .long y :: .long x :: rest) (hy : y ≠ 0)
    (hr : Steps tb e below (T.setTop { g with pc := g.pc + 1, stack := .long (x % y) :: rest }) target) : Steps tb e below (T.setTop g) target := by
  have q : x - x / y * y = x % y := lrem_mod x y
  exact XT.lrem h hx hg hd hs hy (by rw [q]; exact hr)
variable {Z : State} {a0 : Array Value} {h h' : Heap} {a b : Addr} {ty : FieldType} {n : Nat} {f : Nat → Value} {sl : Nat} {v : Value} {ws : List Addr}
/-- the array at a has n places, place k holds f k -/
def own_A (Z : State) (h : Heap) (a : Addr) (ty : FieldType) (n : Nat) (f : Nat → Value) : Prop := ∃ c : Cell, Arr Z h a c ty ∧ c.slots.size = n ∧ ∀ k, k < n → c.slots[k]? = some (f k)
abbrev own_AJ (Z : State) (h : Heap) (a : Addr) (n : Nat) (F : Nat → Int64) : Prop := own_A Z h a .long n (fun k => .long (F k))
abbrev own_AI (Z : State) (h : Heap) (a : Addr) (n : Nat) (F : Nat → Int32) : Prop := own_A Z h a .int n (fun k => .int (F k))
abbrev own_AB (Z : State) (h : Heap) (a : Addr) (n : Nat) (F : Nat → Int32) : Prop := own_A Z h a .byte n (fun k => .int (F k))
def own_upd {α : Type} (f : Nat → α) (k : Nat) (x : α) : Nat → α := fun i => if i = k then x else f i
theorem own_A.lt (F : own_A Z h a ty n f) : a < h.size := by obtain ⟨c, A, -⟩ := F; exact A.lt
theorem own_A.ext (F : own_A Z h a ty n f) (E : Ext h h') : own_A Z h' a ty n f := by obtain ⟨c, A, r⟩ := F; exact ⟨c, A.ext E, r⟩
theorem own_A.other (F : own_A Z h b ty n f) (W : Wr h h' a sl v) (q : b ≠ a) : own_A Z h' b ty n f := by obtain ⟨c, A, r⟩ := F; exact ⟨c, A.other W q, r⟩
theorem own_A.keep (F : own_A Z h a ty n f) (K : Keep h h' ws) (q : a ∉ ws) : own_A Z h' a ty n f := by obtain ⟨c, A, r⟩ := F; exact ⟨c, ⟨K.2.1 a c A.1 q, A.2⟩, r⟩
theorem own_A.cast {f' : Nat → Value} (F : own_A Z h a ty n f) (q : ∀ k, k < n → f k = f' k) : own_A Z h a ty n f' := by obtain ⟨c, A, S, H⟩ := F; exact ⟨c, A, S, fun k hk => by rw [H k hk, q k hk]⟩
theorem own_idx {j : Int32} {k n : Nat} (hk : j.toInt = k) (hn : k < n) {c : Cell} (S : c.slots.size = n) : ¬ (j < 0 ∨ c.slots.size ≤ j.toNatClampNeg) ∧ j.toNatClampNeg = k := by
  have e : j.toNatClampNeg = k := by show j.toInt.toNat = k; rw [hk]; rfl
  refine ⟨?_, e⟩
  rw [e, S]
  rintro (q | q)
  · rw [Int32.lt_iff_toInt_lt] at q; have : (0 : Int32).toInt = 0 := by decide
    omega
  · omega
theorem own_A.set {c : Cell} (A : Arr Z h a c ty) (S : c.slots.size = n) (H : ∀ k, k < n → c.slots[k]? = some (f k)) {j : Nat} (W : Wr h h' a j v) (hj : j < n) {f' : Nat → Value} (q : ∀ k, k < n → f' k = if k = j then v else f k) : own_A Z h' a ty n f' := by
  refine ⟨c.setSlot j v, A.same W, by rw [sz_set]; exact S, fun i hi => ?_⟩
  rw [q i hi]
  by_cases e : i = j
  · subst e; simp [Cell.setSlot, S, hi]
  · rw [if_neg e, ← H i hi]; show (c.slots.setIfInBounds j v)[i]? = _; exact Array.getElem?_setIfInBounds_ne (Ne.symm e)
theorem own_ldJ (X : Stand p l e R s m args below meth c T locs cells slots) (hx : p.tables.exec = Jvm.exec) (hZ : Z.Warmed39 s.vm) (eT : T.heap = h) {F : Nat → Int64} (V : own_AJ Z h a n F) {j : Int32} {k : Nat} (hk : j.toInt = k) (hn : k < n) {g : JFrame} (hg : g.method = m) {rest : List Value} (hs : g.stack = .int j :: .ref a :: rest) (hd : decode c.code g.pc = .ok (.laload, 1)) :
    ∀ target, Steps p.tables e below (T.setTop { g with pc := g.pc + 1, stack := .long (F k) :: rest }) target → Steps p.tables e below (T.setTop g) target := by
  obtain ⟨c, A, S, H⟩ := V
  obtain ⟨q, e'⟩ := own_idx hk hn S
  intro target hr
  exact X.laload hx (by rw [eT]; exact A.1) (State.isArrayOf_alike hZ.alike A.2.1) A.2.2 q (v := .long (F k)) (by rw [e']; exact H k hn) hg hs hd target hr
theorem own_ldI (X : Stand p l e R s m args below meth c T locs cells slots) (hx : p.tables.exec = Jvm.exec) (hZ : Z.Warmed39 s.vm) (eT : T.heap = h) {F : Nat → Int32} (V : own_AI Z h a n F) {j : Int32} {k : Nat} (hk : j.toInt = k) (hn : k < n) {g : JFrame} (hg : g.method = m) {rest : List Value} (hs : g.stack = .int j :: .ref a :: rest) (hd : decode c.code g.pc = .ok (.iaload, 1)) :
    ∀ target, Steps p.tables e below (T.setTop { g with pc := g.pc + 1, stack := .int (F k) :: rest }) target → Steps p.tables e below (T.setTop g) target := by
  obtain ⟨c, A, S, H⟩ := V
  obtain ⟨q, e'⟩ := own_idx hk hn S
  intro target hr
  exact X.iaload hx (by rw [eT]; exact A.1) (State.isArrayOf_alike hZ.alike A.2.1) A.2.2 q (v := .int (F k)) (by rw [e']; exact H k hn) hg hs hd target hr
theorem own_ldB (X : Stand p l e R s m args below meth c T locs cells slots) (hx : p.tables.exec = Jvm.exec) (hZ : Z.Warmed39 s.vm) (eT : T.heap = h) {F : Nat → Int32} (V : own_AB Z h a n F) {j : Int32} {k : Nat} (hk : j.toInt = k) (hn : k < n) {g : JFrame} (hg : g.method = m) {rest : List Value} (hs : g.stack = .int j :: .ref a :: rest) (hd : decode c.code g.pc = .ok (.baload, 1)) :
    ∀ target, Steps p.tables e below (T.setTop { g with pc := g.pc + 1, stack := .int (F k) :: rest }) target → Steps p.tables e below (T.setTop g) target := by
  obtain ⟨c, A, S, H⟩ := V
  obtain ⟨q, e'⟩ := own_idx hk hn S
  intro target hr
  exact X.baloadBytes hx (by rw [eT]; exact A.1) (State.isArrayOf_alike hZ.alike A.2.1) A.2.2 q (v := .int (F k)) (by rw [e']; exact H k hn) hg hs hd target hr
theorem own_stJ (X : Stand p l e R s m args below meth c T locs cells slots) (hx : p.tables.exec = Jvm.exec) (hZ : Z.Warmed39 s.vm) (eT : T.heap = h) {F : Nat → Int64} (V : own_AJ Z h a n F) {j : Int32} {x : Int64} {k : Nat} (hk : j.toInt = k) (hn : k < n) {g : JFrame} (hg : g.method = m) {rest : List Value} (hs : g.stack = .long x :: .int j :: .ref a :: rest) (hd : decode c.code g.pc = .ok (.lastore, 1)) :
    ∃ T' h', Stand p l e R s m args below meth c T' (locs ++ [⟨a, j.toNatClampNeg⟩]) cells slots ∧ T'.heap = h' ∧ Wr h h' a j.toNatClampNeg (.long x) ∧ own_AJ Z h' a n (own_upd F k x) ∧ ∀ target, Steps p.tables e below (T'.setTop { g with pc := g.pc + 1, stack := rest }) target → Steps p.tables e below (T.setTop g) target := by
  obtain ⟨c, A, S, H⟩ := V
  obtain ⟨q, e'⟩ := own_idx hk hn S
  obtain ⟨T', h', X', e1, W, st⟩ := stJ X hx hZ eT A q hg hs hd
  exact ⟨T', h', X', e1, W, own_A.set A S H W (by rw [e']; exact hn) (fun i _ => by rw [e']; show Value.long (if i = k then x else F i) = _; by_cases z : i = k <;> simp [z]), st⟩
theorem own_stI (X : Stand p l e R s m args below meth c T locs cells slots) (hx : p.tables.exec = Jvm.exec) (hZ : Z.Warmed39 s.vm) (eT : T.heap = h) {F : Nat → Int32} (V : own_AI Z h a n F) {j : Int32} {x : Int32} {k : Nat} (hk : j.toInt = k) (hn : k < n) {g : JFrame} (hg : g.method = m) {rest : List Value} (hs : g.stack = .int x :: .int j :: .ref a :: rest) (hd : decode c.code g.pc = .ok (.iastore, 1)) :
    ∃ T' h', Stand p l e R s m args below meth c T' (locs ++ [⟨a, j.toNatClampNeg⟩]) cells slots ∧ T'.heap = h' ∧ Wr h h' a j.toNatClampNeg (.int x) ∧ own_AI Z h' a n (own_upd F k x) ∧ ∀ target, Steps p.tables e below (T'.setTop { g with pc := g.pc + 1, stack := rest }) target → Steps p.tables e below (T.setTop g) target := by
  obtain ⟨c, A, S, H⟩ := V
  obtain ⟨q, e'⟩ := own_idx hk hn S
  obtain ⟨T', h', X', e1, W, st⟩ := stI X hx hZ eT A q hg hs hd
  exact ⟨T', h', X', e1, W, own_A.set A S H W (by rw [e']; exact hn) (fun i _ => by rw [e']; show Value.int (if i = k then x else F i) = _; by_cases z : i = k <;> simp [z]), st⟩
theorem own_stB (X : Stand p l e R s m args below meth c T locs cells slots) (hx : p.tables.exec = Jvm.exec) (hZ : Z.Warmed39 s.vm) (eT : T.heap = h) {F : Nat → Int32} (V : own_AB Z h a n F) {j : Int32} {x : Int32} {k : Nat} (hk : j.toInt = k) (hn : k < n) {g : JFrame} (hg : g.method = m) {rest : List Value} (hs : g.stack = .int x :: .int j :: .ref a :: rest) (hd : decode c.code g.pc = .ok (.bastore, 1)) :
    ∃ T' h', Stand p l e R s m args below meth c T' (locs ++ [⟨a, j.toNatClampNeg⟩]) cells slots ∧ T'.heap = h' ∧ Wr h h' a j.toNatClampNeg (.int (nar .byte x)) ∧ own_AB Z h' a n (own_upd F k (nar .byte x)) ∧ ∀ target, Steps p.tables e below (T'.setTop { g with pc := g.pc + 1, stack := rest }) target → Steps p.tables e below (T.setTop g) target := by
  obtain ⟨c, A, S, H⟩ := V
  obtain ⟨q, e'⟩ := own_idx hk hn S
  obtain ⟨T', h', X', e1, W, st⟩ := stB X hx hZ eT A q hg hs hd
  exact ⟨T', h', X', e1, W, own_A.set A S H W (by rw [e']; exact hn) (fun i _ => by rw [e']; show Value.int (if i = k then nar .byte x else F i) = _; by_cases z : i = k <;> simp [z]), st⟩
theorem own_newA {cA : ClassId} {z : Int32} {N : Nat} (A : Arr Z h a (newA cA ty z) ty) (hz : z.toInt = N) : own_A Z h a ty N (fun _ => defaultValue ty) := by
  have e : z.toNatClampNeg = N := by show z.toInt.toNat = N; rw [hz]; rfl
  refine ⟨_, A, by rw [sz_new]; exact e, fun k hk => ?_⟩
  show (Array.replicate z.toNatClampNeg (defaultValue ty))[k]? = _
  rw [e]; simp [hk]
theorem own_neg {z : Int32} {N : Nat} (hz : z.toInt = N) : ¬ z < 0 ∧ z.toNatClampNeg = N := by
  refine ⟨fun q => ?_, by show z.toInt.toNat = N; rw [hz]; rfl⟩
  rw [Int32.lt_iff_toInt_lt] at q; have : (0 : Int32).toInt = 0 := by decide
  omega
theorem own_newJ (X : Stand p l e R s m args below meth c T locs cells slots) (hx : p.tables.exec = Jvm.exec) (hZ : Z.Warmed39 s.vm) (w : (Cond.arrayClass .long).before a0 Z = true) (eT : T.heap = h) {g : JFrame} (hg : g.method = m) (hd : decode c.code g.pc = .ok (.newarray .long, 2)) {z : Int32} {rest : List Value} (hs : g.stack = .int z :: rest)
    {N : Nat} (hz : z.toInt = N) {cap : Nat} (hcap : N ≤ cap) (hb : cap * 8 ≤ 536870912) (hc : cells + 1 ≤ R.cells) (hl : slots + cap ≤ R.slots) :
    ∃ T' h', Stand p l e R s m args below meth c T' locs (cells + 1) (slots + cap) ∧ T'.heap = h' ∧ Ext h h' ∧ own_AJ Z h' h.size N (fun _ => 0) ∧ ∀ target, Steps p.tables e below (T'.setTop { g with pc := g.pc + 2, stack := .ref h.size :: rest }) target → Steps p.tables e below (T.setTop g) target := by
  obtain ⟨q1, q2⟩ := own_neg hz
  obtain ⟨T', h', cA, X', e1, E, A, st⟩ := newP X hx hZ (aty := .long) w eT hg hd hs q1 (cap := cap) (by rw [q2]; exact hcap) hb hc hl
  exact ⟨T', h', X', e1, E, own_newA A hz, st⟩
theorem own_newI (X : Stand p l e R s m args below meth c T locs cells slots) (hx : p.tables.exec = Jvm.exec) (hZ : Z.Warmed39 s.vm) (w : (Cond.arrayClass .int).before a0 Z = true) (eT : T.heap = h) {g : JFrame} (hg : g.method = m) (hd : decode c.code g.pc = .ok (.newarray .int, 2)) {z : Int32} {rest : List Value} (hs : g.stack = .int z :: rest)
    {N : Nat} (hz : z.toInt = N) {cap : Nat} (hcap : N ≤ cap) (hb : cap * 8 ≤ 536870912) (hc : cells + 1 ≤ R.cells) (hl : slots + cap ≤ R.slots) :
    ∃ T' h', Stand p l e R s m args below meth c T' locs (cells + 1) (slots + cap) ∧ T'.heap = h' ∧ Ext h h' ∧ own_AI Z h' h.size N (fun _ => 0) ∧ ∀ target, Steps p.tables e below (T'.setTop { g with pc := g.pc + 2, stack := .ref h.size :: rest }) target → Steps p.tables e below (T.setTop g) target := by
  obtain ⟨q1, q2⟩ := own_neg hz
  obtain ⟨T', h', cA, X', e1, E, A, st⟩ := newP X hx hZ (aty := .int) w eT hg hd hs q1 (cap := cap) (by rw [q2]; exact hcap) hb hc hl
  exact ⟨T', h', X', e1, E, own_newA A hz, st⟩
theorem own_newB (X : Stand p l e R s m args below meth c T locs cells slots) (hx : p.tables.exec = Jvm.exec) (hZ : Z.Warmed39 s.vm) (w : (Cond.arrayClass .byte).before a0 Z = true) (eT : T.heap = h) {g : JFrame} (hg : g.method = m) (hd : decode c.code g.pc = .ok (.newarray .byte, 2)) {z : Int32} {rest : List Value} (hs : g.stack = .int z :: rest)
    {N : Nat} (hz : z.toInt = N) {cap : Nat} (hcap : N ≤ cap) (hb : cap * 8 ≤ 536870912) (hc : cells + 1 ≤ R.cells) (hl : slots + cap ≤ R.slots) :
    ∃ T' h', Stand p l e R s m args below meth c T' locs (cells + 1) (slots + cap) ∧ T'.heap = h' ∧ Ext h h' ∧ own_AB Z h' h.size N (fun _ => 0) ∧ ∀ target, Steps p.tables e below (T'.setTop { g with pc := g.pc + 2, stack := .ref h.size :: rest }) target → Steps p.tables e below (T.setTop g) target := by
  obtain ⟨q1, q2⟩ := own_neg hz
  obtain ⟨T', h', cA, X', e1, E, A, st⟩ := newP X hx hZ (aty := .byte) w eT hg hd hs q1 (cap := cap) (by rw [q2]; exact hcap) hb hc hl
  exact ⟨T', h', X', e1, E, own_newA A hz, st⟩
theorem own_len (X : Stand p l e R s m args below meth c T locs cells slots) (hx : p.tables.exec = Jvm.exec) (hZ : Z.Warmed39 s.vm) (eT : T.heap = h) (V : own_A Z h a ty n f) {z : Int32} (hz : z.toInt = n) {g : JFrame} (hg : g.method = m) {rest : List Value} (hs : g.stack = .ref a :: rest) (hd : decode c.code g.pc = .ok (.arraylength, 1)) :
    ∀ target, Steps p.tables e below (T.setTop { g with pc := g.pc + 1, stack := .int z :: rest }) target → Steps p.tables e below (T.setTop g) target := by
  obtain ⟨c, A, S, H⟩ := V
  obtain ⟨q1, q2⟩ := own_neg hz
  intro target hr
  exact X.arraylength hx (by rw [eT]; exact A.1) (State.isArrayOf_alike hZ.alike A.2.1) hg hs hd target (by rw [len_of (S.trans q2.symm) q1]; exact hr)
theorem own_kext {h h' : Heap} (K : Keep h h' []) : Ext h h' := ⟨K.1, fun a c q => K.2.1 a c q nin0⟩
end New
end Jvm.RoadKit
namespace Jvm.Pilot.@@N@@
open Jvm Jvm.ClassFile Sem Op Lib Jvm.Free Jvm.Stand Jvm.LawKit Jvm.RoadKit Bundle Jvm.Pilot.@@N@@.Jvm.D
def own_key (d r : Int32) : Int64 := ((d.toInt64 <<< ((32 : Int32).toInt64 &&& 63)) + ((4294967295 : Int64) - ((r ^^^ (-2147483648 : Int32)).toInt64 &&& (4294967295 : Int64))))
def own_beats (d1 r1 d2 r2 : Int32) : Int32 := if d2 < d1 then 1 else if d1 = d2 then (if r1 < r2 then 1 else 0) else 0
theorem own_mb : ∀ i : Fin 32, ((-2147483648 : Int32).toBitVec.getLsbD i.val && (2147483647 : Int32).toBitVec.getLsbD i.val) = false := by decide +kernel
theorem own_low31 (r : Int32) : (r ^^^ (-2147483648 : Int32)) &&& (2147483647 : Int32) = r &&& (2147483647 : Int32) := by
  rw [← Int32.toBitVec_inj, Int32.toBitVec_and, Int32.toBitVec_xor, Int32.toBitVec_and]
  apply BitVec.eq_of_getLsbD_eq
  intro i hi
  have q := own_mb ⟨i, hi⟩
  rw [BitVec.getLsbD_and, BitVec.getLsbD_xor, BitVec.getLsbD_and]
  revert q
  generalize (-2147483648 : Int32).toBitVec.getLsbD i = x
  generalize (2147483647 : Int32).toBitVec.getLsbD i = y
  generalize r.toBitVec.getLsbD i = z
  cases x <;> cases y <;> cases z <;> decide
theorem own_xor (r : Int32) : (r ^^^ (-2147483648 : Int32)).toInt % 4294967296 = r.toInt + 2147483648 := by
  have a := c_mask (r ^^^ (-2147483648 : Int32)) (2147483647 : Int32) 31 (by decide) (by decide)
  have b := c_mask r (2147483647 : Int32) 31 (by decide) (by decide)
  rw [own_low31] at a
  have s := c_xorS r (-2147483648 : Int32)
  have k : (-2147483648 : Int32).toInt = -2147483648 := by decide
  have r1 := rng32 r
  have r2 := rng32 (r ^^^ (-2147483648 : Int32))
  omega
theorem own_shl32 : (1 : Int64) <<< ((32 : Int32).toInt64 &&& 63) = (4294967296 : Int64) := by decide +kernel
theorem own_m32 : (4294967295 : Int64).toBitVec.toNat = 2 ^ 32 - 1 := by decide +kernel
theorem own_keym (r : Int32) : ((r ^^^ (-2147483648 : Int32)).toInt64 &&& (4294967295 : Int64)).toInt = r.toInt + 2147483648 := by
  have x := own_xor r
  have q := c_maskL (r ^^^ (-2147483648 : Int32)).toInt64 (4294967295 : Int64) 32 (by decide) own_m32
  rw [c_i2l] at q
  omega
theorem own_keyv (d r : Int32) : (own_key d r).toInt = d.toInt * 4294967296 + (4294967295 - (r.toInt + 2147483648)) := by
  have k5 : (4294967295 : Int64).toInt = 4294967295 := by decide +kernel
  have k6 : (4294967296 : Int64).toInt = 4294967296 := by decide +kernel
  have r1 := rng32 r
  have r2 := rng32 d
  have m := own_keym r
  have e : d.toInt64 <<< ((32 : Int32).toInt64 &&& 63) = d.toInt64 * (4294967296 : Int64) := shlmL own_shl32
  have p : (d.toInt64 * (4294967296 : Int64)).toInt = d.toInt * 4294967296 := by rw [XT.mul64 (by rw [c_i2l, k6]; exact ⟨by omega, by omega⟩), c_i2l, k6]
  have q : ((4294967295 : Int64) - ((r ^^^ (-2147483648 : Int32)).toInt64 &&& (4294967295 : Int64))).toInt = 4294967295 - (r.toInt + 2147483648) := by rw [XT.sub64 (by rw [k5, m]; exact ⟨by omega, by omega⟩), k5, m]
  unfold own_key
  rw [e, XT.add64 (by rw [p, q]; exact ⟨by omega, by omega⟩), p, q]
theorem own_cmp (d1 r1 d2 r2 : Int32) : own_beats d1 r1 d2 r2 = if own_key d2 r2 < own_key d1 r1 then 1 else 0 := by
  have a := rng32 r1
  have b := rng32 r2
  unfold own_beats
  simp only [Int64.lt_iff_toInt_lt, own_keyv, Int32.lt_iff_toInt_lt, ← Int32.toInt_inj]
  by_cases x : d2.toInt < d1.toInt
  · rw [if_pos x, if_pos (by omega)]
  · rw [if_neg x]
    by_cases y : d1.toInt = d2.toInt
    · rw [if_pos y]
      by_cases z : r1.toInt < r2.toInt
      · rw [if_pos z, if_pos (by omega)]
      · rw [if_neg z, if_neg (by omega)]
    · rw [if_neg y, if_neg (by omega)]
theorem own_ch (x : Int32) : ¬ ((255 : Int32) < (x &&& (255 : Int32)).toUInt32.toUInt16.toUInt32.toInt32) := by
  have m := c_mask x (255 : Int32) 8 (by decide) (by decide)
  have c := c_i2c (x &&& (255 : Int32))
  rw [Int32.lt_iff_toInt_lt, show (255 : Int32).toInt = 255 by decide]
  omega
theorem own_d2_0 : decode jdk_43_method_3_code 0 = .ok (.iload_n 0, 1) := by decide +kernel
theorem own_d2_1 : decode jdk_43_method_3_code 1 = .ok (.sipush 255, 3) := by decide +kernel
theorem own_d2_4 : decode jdk_43_method_3_code 4 = .ok (.if_icmp .gt 7, 3) := by decide +kernel
theorem own_d2_7 : decode jdk_43_method_3_code 7 = .ok (.iconst 1, 1) := by decide +kernel
theorem own_d2_8 : decode jdk_43_method_3_code 8 = .ok (.goto 4, 3) := by decide +kernel
theorem own_d2_12 : decode jdk_43_method_3_code 12 = .ok (.ireturn, 1) := by decide +kernel
theorem own_pn0 : plainName "java/lang/StringLatin1" = true := by first | (simp [plainName, overriddenIn]; done) | decide +kernel
theorem own_ef1 (m : MethodId) (x0 : Int32) : entryFrame m #[(.int x0)] 1 = mkF m 0 #[.val (.int x0)] [] := by first | (simp [entryFrame, mkF, argsToLocals, Value.category]; done) | rfl
def own_Q1 (Z : State) (p0 : Int32) (h0 : Heap) (n0 : Nat) (v : Option Value) (h : Heap) (L : List Loc) : Prop := v = some (.int ((1 : Int32))) ∧ Fr n0 L ∧ h = h0
set_option maxRecDepth 65536 in
set_option maxHeartbeats 40000000 in
theorem rm1 (l : Launch) (Z : State) (aw : Array Value) (hw : ∀ d ∈ tables_1, d.before aw Z = true) (ws : List Jvm.Cond) (p0 : Int32) (h0 : Heap) (n0 : Nat) (Z0 : n0 ≤ h0.size) (hp : ¬ ((255 : Int32) < p0)) :
    MetFree l (⟨"java/lang/StringLatin1", "canEncode", "(C)Z"⟩ : MethodName) (head1 (Jvm.Cond.code (⟨"java/lang/StringLatin1", "canEncode", "(C)Z"⟩ : MethodName) jdk_43_method_3_code 1 (some .boolean) :: ws) ({ frames := 0, cells := 0, slots := 0, locals := 0 } : Room)) (fun a U => a = #[(.int p0)] ∧ Z.Warmed39 U.vm ∧ U.heap = h0) (fun _ _ _ _ _ => True) (fun _ U o U' => ∃ v L, o = .returned v ∧ own_Q1 Z p0 h0 n0 v U'.heap L ∧ FrameEnd U o U' L ({ frames := 0, cells := 0, slots := 0, locals := 0 } : Room).cells ({ frames := 0, cells := 0, slots := 0, locals := 0 } : Room).slots) := by
  refine MetFree.of_bodySF (plainFor_of_name own_pn0) hisR ?_
  intro p e s m args below meth c s₁ Bd hml0 hP hK
  obtain ⟨rfl, hZ, hh⟩ := hP
  have hx := Bd.exec
  have hby := Bd.bytes
  have hml : c.maxLocals = 1 := hml0
  have hown : s.vm.findClass "java/lang/StringLatin1" = some m.cls := findClass_of_methodNamed Bd.named
  have hnm := (name_of_methodNamed Bd.named Bd.method).1
  have X0 : Stand p l e ({ frames := 0, cells := 0, slots := 0, locals := 0 } : Room) s m #[(.int p0)] below meth c s₁ [] 0 0 := Stand.of_body Bd
  have e0 : s₁.heap = h0 := by rw [← hh, Bd.state]; rfl
  have N0 := Fr.nil n0
  show own_G p.tables e below s (own_Q1 Z p0 h0 n0) ({ frames := 0, cells := 0, slots := 0, locals := 0 } : Room).cells ({ frames := 0, cells := 0, slots := 0, locals := 0 } : Room).slots (s₁.setTop (entryFrame m #[(.int p0)] 1))
  refine own_by (fun _ k => castTop (own_ef1 m p0) k) ?_
  show own_G _ _ _ _ _ _ _ (s₁.setTop (mkF m 0 #[.val (.int p0)] []))
  refine own_by (fun _ k => XS.iloadN X0.here hx rfl (hb hby own_d2_0) rfl  k) ?_
  show own_G _ _ _ _ _ _ _ (s₁.setTop (mkF m 1 #[.val (.int p0)] [(.int p0)]))
  refine own_by (fun _ k => XS.sipush X0.here hx rfl (hb hby own_d2_1) k) ?_
  show own_G _ _ _ _ _ _ _ (s₁.setTop (mkF m 4 #[.val (.int p0)] [(.int (255 : Int32)), (.int p0)]))
  have hc4 : ¬ ((255 : Int32) < p0) := hp
  refine own_by (fun _ k => XS.icmpNo X0.here hx rfl (hb hby own_d2_4) rfl (XT.ii_gt_f hc4) k) ?_
  show own_G _ _ _ _ _ _ _ (s₁.setTop (mkF m 7 #[.val (.int p0)] []))
  refine own_by (fun _ k => XS.iconst X0.here hx rfl (hb hby own_d2_7) k) ?_
  show own_G _ _ _ _ _ _ _ (s₁.setTop (mkF m 8 #[.val (.int p0)] [(.int (1 : Int32))]))
  refine own_by (fun _ k => XS.goto X0.here hx rfl (pc0 := 8) (pc' := 12) rfl (hb hby own_d2_8) (by decide) (by decide) k) ?_
  show own_G _ _ _ _ _ _ _ (s₁.setTop (mkF m 12 #[.val (.int p0)] [(.int (1 : Int32))]))
  exact own_end X0 (v := some (.int (nar .boolean (1 : Int32)))) (fun h => by rw [Bd.returns] at h; cases h) (BodyLoose.notSynchronized Bd) (fun fs hr => retN X0 hx (t := .boolean) Bd.returns (by simp) (hb hby own_d2_12) hr) (by rw [e0]; exact ⟨rfl, N0, rfl⟩) (by decide) (by decide)
theorem own_d3_0 : decode jdk_43_method_46_code 0 = .ok (.iconst 1, 1) := by decide +kernel
theorem own_d3_1 : decode jdk_43_method_46_code 1 = .ok (.newarray .byte, 2) := by decide +kernel
theorem own_d3_3 : decode jdk_43_method_46_code 3 = .ok (.dup, 1) := by decide +kernel
theorem own_d3_4 : decode jdk_43_method_46_code 4 = .ok (.iconst 0, 1) := by decide +kernel
theorem own_d3_5 : decode jdk_43_method_46_code 5 = .ok (.iload_n 0, 1) := by decide +kernel
theorem own_d3_6 : decode jdk_43_method_46_code 6 = .ok (.i2b, 1) := by decide +kernel
theorem own_d3_7 : decode jdk_43_method_46_code 7 = .ok (.bastore, 1) := by decide +kernel
theorem own_d3_8 : decode jdk_43_method_46_code 8 = .ok (.areturn, 1) := by decide +kernel
theorem own_ef2 (m : MethodId) (x0 : Int32) : entryFrame m #[(.int x0)] 1 = mkF m 0 #[.val (.int x0)] [] := by first | (simp [entryFrame, mkF, argsToLocals, Value.category]; done) | rfl
def own_Q2 (Z : State) (p0 : Int32) (h0 : Heap) (n0 : Nat) (v : Option Value) (h : Heap) (L : List Loc) : Prop := ∃ bR : Addr, v = some (.ref bR) ∧ Fr n0 L ∧ Keep h0 h []
set_option maxRecDepth 65536 in
set_option maxHeartbeats 40000000 in
theorem rm2 (l : Launch) (Z : State) (aw : Array Value) (hw : ∀ d ∈ tables_1, d.before aw Z = true) (ws : List Jvm.Cond) (p0 : Int32) (h0 : Heap) (n0 : Nat) (Z0 : n0 ≤ h0.size) :
    MetFree l (⟨"java/lang/StringLatin1", "toBytes", "(C)[B"⟩ : MethodName) (head1 (Jvm.Cond.code (⟨"java/lang/StringLatin1", "toBytes", "(C)[B"⟩ : MethodName) jdk_43_method_46_code 1 (some (.array .byte)) :: ws) ({ frames := 0, cells := 1, slots := 1, locals := 0 } : Room)) (fun a U => a = #[(.int p0)] ∧ Z.Warmed39 U.vm ∧ U.heap = h0) (fun _ _ _ _ _ => True) (fun _ U o U' => ∃ v L, o = .returned v ∧ own_Q2 Z p0 h0 n0 v U'.heap L ∧ FrameEnd U o U' L ({ frames := 0, cells := 1, slots := 1, locals := 0 } : Room).cells ({ frames := 0, cells := 1, slots := 1, locals := 0 } : Room).slots) := by
  refine MetFree.of_bodySF (plainFor_of_name own_pn0) hisR ?_
  intro p e s m args below meth c s₁ Bd hml0 hP hK
  obtain ⟨rfl, hZ, hh⟩ := hP
  have hx := Bd.exec
  have hby := Bd.bytes
  have hml : c.maxLocals = 1 := hml0
  have hown : s.vm.findClass "java/lang/StringLatin1" = some m.cls := findClass_of_methodNamed Bd.named
  have hnm := (name_of_methodNamed Bd.named Bd.method).1
  have X0 : Stand p l e ({ frames := 0, cells := 1, slots := 1, locals := 0 } : Room) s m #[(.int p0)] below meth c s₁ [] 0 0 := Stand.of_body Bd
  have e0 : s₁.heap = h0 := by rw [← hh, Bd.state]; rfl
  have N0 := Fr.nil n0
  show own_G p.tables e below s (own_Q2 Z p0 h0 n0) ({ frames := 0, cells := 1, slots := 1, locals := 0 } : Room).cells ({ frames := 0, cells := 1, slots := 1, locals := 0 } : Room).slots (s₁.setTop (entryFrame m #[(.int p0)] 1))
  refine own_by (fun _ k => castTop (own_ef2 m p0) k) ?_
  show own_G _ _ _ _ _ _ _ (s₁.setTop (mkF m 0 #[.val (.int p0)] []))
  refine own_by (fun _ k => XS.iconst X0.here hx rfl (hb hby own_d3_0) k) ?_
  show own_G _ _ _ _ _ _ _ (s₁.setTop (mkF m 1 #[.val (.int p0)] [(.int (1 : Int32))]))
  obtain ⟨T1, h1, X1, e1, E1, A1, st1⟩ := own_newB X0 hx hZ (hw _ (List.mem_of_getElem? (i := 14) rfl)) e0 (g := (mkF m 1 #[.val (.int p0)] [(.int (1 : Int32))])) rfl (hb hby own_d3_1) rfl (N := 1) (by decide) (cap := 1) (Nat.le_refl _) (by decide) (by decide) (by decide)
  obtain ⟨b1, g1⟩ : ∃ z, z = h0.size := ⟨_, rfl⟩
  rw [← g1] at A1 st1
  have g_b1 : n0 ≤ b1 := Nat.le_trans Z0 (Nat.le_of_eq g1.symm)
  have sz_b1 : h0.size ≤ b1 := Nat.le_trans (Keep.refl h0 []).1 (Nat.le_of_eq g1.symm)
  refine own_by st1 ?_
  have Z3 : n0 ≤ h1.size := Nat.le_trans Z0 E1.1
  have K1 := (Keep.refl h0 []).ext E1
  show own_G _ _ _ _ _ _ _ (T1.setTop (mkF m 3 #[.val (.int p0)] [(.ref b1)]))
  refine own_by (fun _ k => XS.dup X1.here hx rfl (hb hby own_d3_3) rfl rfl k) ?_
  show own_G _ _ _ _ _ _ _ (T1.setTop (mkF m 4 #[.val (.int p0)] [(.ref b1), (.ref b1)]))
  refine own_by (fun _ k => XS.iconst X1.here hx rfl (hb hby own_d3_4) k) ?_
  show own_G _ _ _ _ _ _ _ (T1.setTop (mkF m 5 #[.val (.int p0)] [(.int (0 : Int32)), (.ref b1), (.ref b1)]))
  refine own_by (fun _ k => XS.iloadN X1.here hx rfl (hb hby own_d3_5) rfl  k) ?_
  show own_G _ _ _ _ _ _ _ (T1.setTop (mkF m 6 #[.val (.int p0)] [(.int p0), (.int (0 : Int32)), (.ref b1), (.ref b1)]))
  refine own_by (fun _ k => XT.i2b X1.here hx rfl (hb hby own_d3_6) rfl k) ?_
  show own_G _ _ _ _ _ _ _ (T1.setTop (mkF m 7 #[.val (.int p0)] [(.int p0.toInt8.toInt32), (.int (0 : Int32)), (.ref b1), (.ref b1)]))
  obtain ⟨T4, h4, X4, e4, W4, A4, st4⟩ := own_stB X1 hx hZ e1 A1 (k := 0) (by decide) (by decide) (g := (mkF m 7 #[.val (.int p0)] [(.int p0.toInt8.toInt32), (.int (0 : Int32)), (.ref b1), (.ref b1)])) rfl rfl (hb hby own_d3_7)
  refine own_by st4 ?_
  have N4 := Fr.snoc X4 N0 g_b1
  have Z6 : n0 ≤ h4.size := Nat.le_trans Z3 (Nat.le_of_eq W4.size.symm)
  have K4 := K1.wr W4 (Or.inr sz_b1)
  show own_G _ _ _ _ _ _ _ (T4.setTop (mkF m 8 #[.val (.int p0)] [(.ref b1)]))
  exact own_end X4 (v := some (.ref b1)) (fun h => by rw [Bd.returns] at h; cases h) (BodyLoose.notSynchronized Bd) (fun fs hr => X4.areturnOut hx (w := (.ref b1)) rfl Bd.returns rfl (hb hby own_d3_8) hr) (by rw [e4]; exact ⟨b1, rfl, N4, K4⟩) (by decide) (by decide)
theorem own_d4_0 : decode jdk_42_method_151_code 0 = .ok (.aload_n 0, 1) := by decide +kernel
theorem own_d4_1 : decode jdk_42_method_151_code 1 = .ok (.invokespecial 1, 3) := by decide +kernel
theorem own_d4_4 : decode jdk_42_method_151_code 4 = .ok (.aload_n 0, 1) := by decide +kernel
theorem own_d4_5 : decode jdk_42_method_151_code 5 = .ok (.aload_n 1, 1) := by decide +kernel
theorem own_d4_6 : decode jdk_42_method_151_code 6 = .ok (.putfield 9, 3) := by decide +kernel
theorem own_d4_9 : decode jdk_42_method_151_code 9 = .ok (.aload_n 0, 1) := by decide +kernel
theorem own_d4_10 : decode jdk_42_method_151_code 10 = .ok (.iload_n 2, 1) := by decide +kernel
theorem own_d4_11 : decode jdk_42_method_151_code 11 = .ok (.putfield 15, 3) := by decide +kernel
theorem own_d4_14 : decode jdk_42_method_151_code 14 = .ok (.return_, 1) := by decide +kernel
theorem own_pn1 : plainName "java/lang/String" = true := by first | (simp [plainName, overriddenIn]; done) | decide +kernel
theorem own_ef3 (m : MethodId) (x0 : Addr) (x1 : Addr) (x2 : Int32) : entryFrame m #[(.ref x0), (.ref x1), (.int x2)] 3 = mkF m 0 #[.val (.ref x0), .val (.ref x1), .val (.int x2)] [] := by first | (simp [entryFrame, mkF, argsToLocals, Value.category]; done) | rfl
def own_Q3 (Z : State) (a0 : Addr) (a1 : Addr) (p2 : Int32) (h0 : Heap) (n0 : Nat) (v : Option Value) (h : Heap) (L : List Loc) : Prop := v = none ∧ Fr n0 L ∧ Keep h0 h [a0] ∧ Exa Z h a0 "java/lang/String" ∧ Fld Z h a0 "java/lang/String" "value" "[B" (.ref a1) ∧ Fld Z h a0 "java/lang/String" "coder" "B" (.int (nar .byte p2))
set_option maxRecDepth 65536 in
set_option maxHeartbeats 40000000 in
theorem rm3 (l : Launch) (Z : State) (aw : Array Value) (hw : ∀ d ∈ tables_1, d.before aw Z = true) (ws : List Jvm.Cond) (a0 : Addr) (a1 : Addr) (p2 : Int32) (h0 : Heap) (n0 : Nat) (Z0 : n0 ≤ h0.size) (E_a : Exa Z h0 a0 "java/lang/String") (F_value : Fld Z h0 a0 "java/lang/String" "value" "[B" .null) (F_coder : Fld Z h0 a0 "java/lang/String" "coder" "B" (.int (0 : Int32))) (g_a : n0 ≤ a0) :
    MetFree l (⟨"java/lang/String", "<init>", "([BB)V"⟩ : MethodName) (head1 (Jvm.Cond.code (⟨"java/lang/String", "<init>", "([BB)V"⟩ : MethodName) jdk_42_method_151_code 3 none :: ws) ({ frames := 1, cells := 0, slots := 0, locals := 12 } : Room)) (fun a U => a = #[(.ref a0), (.ref a1), (.int p2)] ∧ Z.Warmed39 U.vm ∧ U.heap = h0) (fun _ _ _ _ _ => True) (fun _ U o U' => ∃ v L, o = .returned v ∧ own_Q3 Z a0 a1 p2 h0 n0 v U'.heap L ∧ FrameEnd U o U' L ({ frames := 1, cells := 0, slots := 0, locals := 12 } : Room).cells ({ frames := 1, cells := 0, slots := 0, locals := 12 } : Room).slots) := by
  refine MetFree.of_bodySF (plainFor_of_name own_pn1) hisR ?_
  intro p e s m args below meth c s₁ Bd hml0 hP hK
  obtain ⟨rfl, hZ, hh⟩ := hP
  have hx := Bd.exec
  have hby := Bd.bytes
  have hml : c.maxLocals = 3 := hml0
  have hown : s.vm.findClass "java/lang/String" = some m.cls := findClass_of_methodNamed Bd.named
  have hnm := (name_of_methodNamed Bd.named Bd.method).1
  have X0 : Stand p l e ({ frames := 1, cells := 0, slots := 0, locals := 12 } : Room) s m #[(.ref a0), (.ref a1), (.int p2)] below meth c s₁ [] 0 0 := Stand.of_body Bd
  have e0 : s₁.heap = h0 := by rw [← hh, Bd.state]; rfl
  have N0 := Fr.nil n0
  show own_G p.tables e below s (own_Q3 Z a0 a1 p2 h0 n0) ({ frames := 1, cells := 0, slots := 0, locals := 12 } : Room).cells ({ frames := 1, cells := 0, slots := 0, locals := 12 } : Room).slots (s₁.setTop (entryFrame m #[(.ref a0), (.ref a1), (.int p2)] 3))
  refine own_by (fun _ k => castTop (own_ef3 m a0 a1 p2) k) ?_
  show own_G _ _ _ _ _ _ _ (s₁.setTop (mkF m 0 #[.val (.ref a0), .val (.ref a1), .val (.int p2)] []))
  refine own_by (fun _ k => XS.aloadN X0.here hx rfl (hb hby own_d4_0) rfl rfl k) ?_
  show own_G _ _ _ _ _ _ _ (s₁.setTop (mkF m 1 #[.val (.ref a0), .val (.ref a1), .val (.int p2)] [(.ref a0)]))
  obtain ⟨T7, X7, e7, st7⟩ := initO X0 hx hZ hown (hw _ (List.mem_of_getElem? (i := 19) rfl)) (hw _ (List.mem_of_getElem? (i := 20) rfl)) (hw _ (List.mem_of_getElem? (i := 21) rfl)) e0 (g := (mkF m 1 #[.val (.ref a0), .val (.ref a1), .val (.int p2)] [(.ref a0)])) rfl (by rw [hml]; rfl) rfl (hb hby own_d4_1) (by decide) (W := 0) (by show 2 * 0 + _ ≤ _; exact Nat.le_of_eq rfl) (by decide)
  refine own_by st7 ?_
  show own_G _ _ _ _ _ _ _ (T7.setTop (mkF m 4 #[.val (.ref a0), .val (.ref a1), .val (.int p2)] []))
  refine own_by (fun _ k => XS.aloadN X7.here hx rfl (hb hby own_d4_4) rfl rfl k) ?_
  show own_G _ _ _ _ _ _ _ (T7.setTop (mkF m 5 #[.val (.ref a0), .val (.ref a1), .val (.int p2)] [(.ref a0)]))
  refine own_by (fun _ k => XS.aloadN X7.here hx rfl (hb hby own_d4_5) rfl rfl k) ?_
  show own_G _ _ _ _ _ _ _ (T7.setTop (mkF m 6 #[.val (.ref a0), .val (.ref a1), .val (.int p2)] [(.ref a1), (.ref a0)]))
  obtain ⟨T8, h8, X8, e8, W8, st8⟩ := putF X7 hx hZ hown (host := "") (Or.inl (hw _ (List.mem_of_getElem? (i := 22) rfl))) Via.refl e7 F_value E_a (Or.inr ⟨(hw _ (List.mem_of_getElem? (i := 23) rfl)), rfl, hnm⟩) (hw _ (List.mem_of_getElem? (i := 10) rfl)) (ty := (.array .byte)) (by decide) rfl rfl (g := (mkF m 6 #[.val (.ref a0), .val (.ref a1), .val (.int p2)] [(.ref a1), (.ref a0)])) rfl rfl (hb hby own_d4_6)
  refine own_by st8 ?_
  have F9_0 := E_a.wr W8
  have F9_1 := F_value.same W8
  have F9_2 := F_coder.other W8 (Or.inr (slot_ne (Or.inr (hw _ (List.mem_of_getElem? (i := 25) rfl))) (Or.inr (hw _ (List.mem_of_getElem? (i := 23) rfl))) (by decide) (t := .byte) (t' := (.array .byte)) (by decide) (by decide)))
  have N8 := Fr.snoc X8 N0 g_a
  have Z10 : n0 ≤ h8.size := Nat.le_trans Z0 (Nat.le_of_eq W8.size.symm)
  have K8 := (Keep.refl h0 [a0]).wr W8 (Or.inl (List.mem_of_getElem? (i := 0) rfl))
  show own_G _ _ _ _ _ _ _ (T8.setTop (mkF m 9 #[.val (.ref a0), .val (.ref a1), .val (.int p2)] []))
  refine own_by (fun _ k => XS.aloadN X8.here hx rfl (hb hby own_d4_9) rfl rfl k) ?_
  show own_G _ _ _ _ _ _ _ (T8.setTop (mkF m 10 #[.val (.ref a0), .val (.ref a1), .val (.int p2)] [(.ref a0)]))
  refine own_by (fun _ k => XS.iloadN X8.here hx rfl (hb hby own_d4_10) rfl  k) ?_
  show own_G _ _ _ _ _ _ _ (T8.setTop (mkF m 11 #[.val (.ref a0), .val (.ref a1), .val (.int p2)] [(.int p2), (.ref a0)]))
  obtain ⟨T11, h11, X11, e11, W11, st11⟩ := putFN X8 hx hZ hown (hw _ (List.mem_of_getElem? (i := 24) rfl)) Via.refl e8 F9_2 F9_0 (Or.inr ⟨(hw _ (List.mem_of_getElem? (i := 25) rfl)), rfl, hnm⟩) (hw _ (List.mem_of_getElem? (i := 10) rfl)) (ty := .byte) (v' := (.int (nar .byte p2))) (by decide) rfl (fits_nar_byte _) (g := (mkF m 11 #[.val (.ref a0), .val (.ref a1), .val (.int p2)] [(.int p2), (.ref a0)])) rfl rfl (hb hby own_d4_11)
  refine own_by st11 ?_
  have F12_0 := F9_0.wr W11
  have F12_1 := F9_1.other W11 (Or.inr (slot_ne (Or.inr (hw _ (List.mem_of_getElem? (i := 23) rfl))) (Or.inr (hw _ (List.mem_of_getElem? (i := 25) rfl))) (by decide) (t := (.array .byte)) (t' := .byte) (by decide) (by decide)))
  have F12_2 := F9_2.same W11
  have N11 := Fr.snoc X11 N8 g_a
  have Z13 : n0 ≤ h11.size := Nat.le_trans Z10 (Nat.le_of_eq W11.size.symm)
  have K11 := K8.wr W11 (Or.inl (List.mem_of_getElem? (i := 0) rfl))
  show own_G _ _ _ _ _ _ _ (T11.setTop (mkF m 14 #[.val (.ref a0), .val (.ref a1), .val (.int p2)] []))
  exact own_end X11 (v := none) (fun _ => rfl) (BodyLoose.notSynchronized Bd) (fun fs hr => X11.returnOut hx Bd.returns (hb hby own_d4_14) hr) (by rw [e11]; exact ⟨rfl, N11, K11, F12_0, F12_1, F12_2⟩) (by decide) (by decide)
theorem own_d1_0 : decode jdk_42_method_139_code 0 = .ok (.getstatic 38, 3) := by decide +kernel
theorem own_d1_3 : decode jdk_42_method_139_code 3 = .ok (.ifCond .eq 23, 3) := by decide +kernel
theorem own_d1_6 : decode jdk_42_method_139_code 6 = .ok (.iload_n 0, 1) := by decide +kernel
theorem own_d1_7 : decode jdk_42_method_139_code 7 = .ok (.invokestatic 1015, 3) := by decide +kernel
theorem own_pd0 : parseMethodDescriptor "(C)Z" = some ⟨[.char], some .boolean⟩ := by decide +kernel
theorem own_d1_10 : decode jdk_42_method_139_code 10 = .ok (.ifCond .eq 16, 3) := by decide +kernel
theorem own_d1_13 : decode jdk_42_method_139_code 13 = .ok (.new 10, 3) := by decide +kernel
theorem own_d1_16 : decode jdk_42_method_139_code 16 = .ok (.dup, 1) := by decide +kernel
theorem own_d1_17 : decode jdk_42_method_139_code 17 = .ok (.iload_n 0, 1) := by decide +kernel
theorem own_d1_18 : decode jdk_42_method_139_code 18 = .ok (.invokestatic 1018, 3) := by decide +kernel
theorem own_pd1 : parseMethodDescriptor "(C)[B" = some ⟨[.char], some (.array .byte)⟩ := by decide +kernel
theorem own_d1_21 : decode jdk_42_method_139_code 21 = .ok (.iconst 0, 1) := by decide +kernel
theorem own_d1_22 : decode jdk_42_method_139_code 22 = .ok (.invokespecial 209, 3) := by decide +kernel
theorem own_pd2 : parseMethodDescriptor "([BB)V" = some ⟨[(.array .byte), .byte], none⟩ := by decide +kernel
theorem own_d1_25 : decode jdk_42_method_139_code 25 = .ok (.areturn, 1) := by decide +kernel
theorem own_ef4 (m : MethodId) (x0 : Int32) : entryFrame m #[(.int x0)] 1 = mkF m 0 #[.val (.int x0)] [] := by first | (simp [entryFrame, mkF, argsToLocals, Value.category]; done) | rfl
def own_Q4 (Z : State) (p0 : Int32) (cs : Int32) (h0 : Heap) (n0 : Nat) (v : Option Value) (h : Heap) (L : List Loc) : Prop := ∃ bR : Addr, v = some (.ref bR) ∧ Fr n0 L ∧ Keep h0 h []
set_option maxRecDepth 65536 in
set_option maxHeartbeats 40000000 in
theorem rm4 (l : Launch) (Z : State) (aw : Array Value) (hw : ∀ d ∈ tables_1, d.before aw Z = true) (ws : List Jvm.Cond) (p0 : Int32) (cs : Int32) (h0 : Heap) (n0 : Nat) (Z0 : n0 ≤ h0.size) (H0_ : Sta Z h0 "java/lang/String" "COMPACT_STRINGS" "Z" (.int cs)) (hcs : ¬ (cs = (0 : Int32))) (hp : ¬ ((255 : Int32) < p0)) :
    MetFree l (⟨"java/lang/String", "valueOf", "(C)Ljava/lang/String;"⟩ : MethodName) (head1 (Jvm.Cond.code (⟨"java/lang/String", "valueOf", "(C)Ljava/lang/String;"⟩ : MethodName) jdk_42_method_139_code 1 (some (.object "java/lang/String")) :: ws) ({ frames := 2, cells := 2, slots := 5, locals := 27 } : Room)) (fun a U => a = #[(.int p0)] ∧ Z.Warmed39 U.vm ∧ U.heap = h0) (fun _ _ _ _ _ => True) (fun _ U o U' => ∃ v L, o = .returned v ∧ own_Q4 Z p0 cs h0 n0 v U'.heap L ∧ FrameEnd U o U' L ({ frames := 2, cells := 2, slots := 5, locals := 27 } : Room).cells ({ frames := 2, cells := 2, slots := 5, locals := 27 } : Room).slots) := by
  refine MetFree.of_bodySF (plainFor_of_name own_pn1) hisR ?_
  intro p e s m args below meth c s₁ Bd hml0 hP hK
  obtain ⟨rfl, hZ, hh⟩ := hP
  have hx := Bd.exec
  have hby := Bd.bytes
  have hml : c.maxLocals = 1 := hml0
  have hown : s.vm.findClass "java/lang/String" = some m.cls := findClass_of_methodNamed Bd.named
  have hnm := (name_of_methodNamed Bd.named Bd.method).1
  have X0 : Stand p l e ({ frames := 2, cells := 2, slots := 5, locals := 27 } : Room) s m #[(.int p0)] below meth c s₁ [] 0 0 := Stand.of_body Bd
  have e0 : s₁.heap = h0 := by rw [← hh, Bd.state]; rfl
  have N0 := Fr.nil n0
  show own_G p.tables e below s (own_Q4 Z p0 cs h0 n0) ({ frames := 2, cells := 2, slots := 5, locals := 27 } : Room).cells ({ frames := 2, cells := 2, slots := 5, locals := 27 } : Room).slots (s₁.setTop (entryFrame m #[(.int p0)] 1))
  refine own_by (fun _ k => castTop (own_ef4 m p0) k) ?_
  show own_G _ _ _ _ _ _ _ (s₁.setTop (mkF m 0 #[.val (.int p0)] []))
  obtain ⟨T14, X14, e14, st14⟩ := getS2 X0 hx hZ hown (host := "") (Or.inl (hw _ (List.mem_of_getElem? (i := 4) rfl))) Via.refl e0 H0_ (g := (mkF m 0 #[.val (.int p0)] [])) rfl (hb hby own_d1_0)
  refine own_by st14 ?_
  show own_G _ _ _ _ _ _ _ (T14.setTop (mkF m 3 #[.val (.int p0)] [(.int cs)]))
  have hc3 : ¬ (cs = (0 : Int32)) := hcs
  refine own_by (fun _ k => XS.ifNo X14.here hx rfl (hb hby own_d1_3) rfl (XT.i0_eq_f hc3) k) ?_
  show own_G _ _ _ _ _ _ _ (T14.setTop (mkF m 6 #[.val (.int p0)] []))
  refine own_by (fun _ k => XS.iloadN X14.here hx rfl (hb hby own_d1_6) rfl  k) ?_
  show own_G _ _ _ _ _ _ _ (T14.setTop (mkF m 7 #[.val (.int p0)] [(.int p0)]))
  obtain ⟨_, _, ⟨T15, L15, k15, n15⟩, -, X15, ⟨Lc15, hQ15, l15, y15, z15⟩, st15⟩ := Jvm.LawKit.callS X14 hx (y := (⟨"java/lang/StringLatin1", "canEncode", "(C)Z"⟩ : MethodName)) hown (mvT hZ (hw _ (List.mem_of_getElem? (i := 5) rfl))) (mvT hZ (hw _ (List.mem_of_getElem? (i := 6) rfl))) (mvT hZ (hw _ (List.mem_of_getElem? (i := 7) rfl))) (mvT hZ (hw _ (List.mem_of_getElem? (i := 8) rfl))) (by decide) (backOf (W := 0) (rm1 l Z aw hw [] p0 h0 n0 Z0 hp) hZ (hw _ (List.mem_of_getElem? (i := 8) rfl)) (hw _ (List.mem_of_getElem? (i := 7) rfl)) (by decide) (by decide)) (g := (mkF m 7 #[.val (.int p0)] [(.int p0)])) rfl (by rw [hml]; rfl) (argsL := [(.int p0)]) (rest := []) (lenOf own_pd0 rfl) rfl (by show 2 * 0 + _ ≤ _; exact Nat.le_of_eq rfl) (hb hby own_d1_7) (fun _ _ => ⟨rfl, e14, (by decide : 0 + 0 ≤ _), (by decide : 0 + 0 ≤ _)⟩)
  dsimp only [Pt.U, Pt.locs, Pt.cells, Pt.slots] at X15 l15 y15 z15 st15 hQ15
  subst l15 y15 z15
  obtain ⟨rfl, Nq15, e15⟩ := hQ15
  have N15 := Fr.app N0 Nq15
  refine own_by (fun _ k => st15 _ k) ?_
  show own_G _ _ _ _ _ _ _ (T15.setTop (mkF m 10 #[.val (.int p0)] [(.int ((1 : Int32)))]))
  have hc10 : ¬ (((1 : Int32)) = (0 : Int32)) := (by decide)
  refine own_by (fun _ k => XS.ifNo X15.here hx rfl (hb hby own_d1_10) rfl (XT.i0_eq_f hc10) k) ?_
  show own_G _ _ _ _ _ _ _ (T15.setTop (mkF m 13 #[.val (.int p0)] []))
  obtain ⟨T16, h16, X16, e16, E16, A16, D16, -, st16⟩ := newO X15 hx hZ hown (hw _ (List.mem_of_getElem? (i := 9) rfl)) (hw _ (List.mem_of_getElem? (i := 10) rfl)) (hw _ (List.mem_of_getElem? (i := 2) rfl)) e15 (g := (mkF m 13 #[.val (.int p0)] [])) rfl (hb hby own_d1_13) (by decide) (by decide)
  obtain ⟨b16, g16⟩ : ∃ z, z = h0.size := ⟨_, rfl⟩
  rw [← g16] at A16 D16 st16
  have g_b16 : n0 ≤ b16 := Nat.le_trans Z0 (Nat.le_of_eq g16.symm)
  have sz_b16 : h0.size ≤ b16 := Nat.le_trans (Keep.refl h0 []).1 (Nat.le_of_eq g16.symm)
  refine own_by st16 ?_
  have F17_0 := H0_.ext E16
  have Z18 : n0 ≤ h16.size := Nat.le_trans Z0 E16.1
  have K16 := (Keep.refl h0 []).ext E16
  have F16_value : Fld Z h16 b16 "java/lang/String" "value" "[B" .null := D16 (Or.inr (hw _ (List.mem_of_getElem? (i := 23) rfl))) (ty := (.array .byte)) (by decide)
  have F16_coder : Fld Z h16 b16 "java/lang/String" "coder" "B" (.int (0 : Int32)) := D16 (Or.inr (hw _ (List.mem_of_getElem? (i := 25) rfl))) (ty := .byte) (by decide)
  show own_G _ _ _ _ _ _ _ (T16.setTop (mkF m 16 #[.val (.int p0)] [(.ref b16)]))
  refine own_by (fun _ k => XS.dup X16.here hx rfl (hb hby own_d1_16) rfl rfl k) ?_
  show own_G _ _ _ _ _ _ _ (T16.setTop (mkF m 17 #[.val (.int p0)] [(.ref b16), (.ref b16)]))
  refine own_by (fun _ k => XS.iloadN X16.here hx rfl (hb hby own_d1_17) rfl  k) ?_
  show own_G _ _ _ _ _ _ _ (T16.setTop (mkF m 18 #[.val (.int p0)] [(.int p0), (.ref b16), (.ref b16)]))
  obtain ⟨_, _, ⟨T19, L19, k19, n19⟩, -, X19, ⟨Lc19, hQ19, l19, y19, z19⟩, st19⟩ := Jvm.LawKit.callS X16 hx (y := (⟨"java/lang/StringLatin1", "toBytes", "(C)[B"⟩ : MethodName)) hown (mvT hZ (hw _ (List.mem_of_getElem? (i := 11) rfl))) (mvT hZ (hw _ (List.mem_of_getElem? (i := 12) rfl))) (mvT hZ (hw _ (List.mem_of_getElem? (i := 7) rfl))) (mvT hZ (hw _ (List.mem_of_getElem? (i := 13) rfl))) (by decide) (backOf (W := 2) (rm2 l Z aw hw [] p0 h16 n0 Z18 ) hZ (hw _ (List.mem_of_getElem? (i := 13) rfl)) (hw _ (List.mem_of_getElem? (i := 7) rfl)) (by decide) (by decide)) (g := (mkF m 18 #[.val (.int p0)] [(.int p0), (.ref b16), (.ref b16)])) rfl (by rw [hml]; rfl) (argsL := [(.int p0)]) (rest := [(.ref b16), (.ref b16)]) (lenOf own_pd1 rfl) rfl (by show 2 * 0 + _ ≤ _; exact Nat.le_of_eq rfl) (hb hby own_d1_18) (fun _ _ => ⟨rfl, e16, (by decide : 1 + 1 ≤ _), (by decide : 4 + 1 ≤ _)⟩)
  dsimp only [Pt.U, Pt.locs, Pt.cells, Pt.slots] at X19 l19 y19 z19 st19 hQ19
  subst l19 y19 z19
  obtain ⟨h19, e19⟩ : ∃ h, T19.heap = h := ⟨_, rfl⟩
  rw [e19] at hQ19
  obtain ⟨bR19, rfl, Nq19, K19⟩ := hQ19
  have N19 := Fr.app N15 Nq19
  have F20_0 := F17_0.ext (own_kext K19)
  have F20_1 := A16.keep K19
  have F20_2 := F16_value.keep K19 nin0
  have F20_3 := F16_coder.keep K19 nin0
  have Z21 : n0 ≤ h19.size := Nat.le_trans Z18 K19.1
  have Kt19 := K16.trans K19 all0
  refine own_by (fun _ k => st19 _ k) ?_
  show own_G _ _ _ _ _ _ _ (T19.setTop (mkF m 21 #[.val (.int p0)] [(.ref bR19), (.ref b16), (.ref b16)]))
  refine own_by (fun _ k => XS.iconst X19.here hx rfl (hb hby own_d1_21) k) ?_
  show own_G _ _ _ _ _ _ _ (T19.setTop (mkF m 22 #[.val (.int p0)] [(.int (0 : Int32)), (.ref bR19), (.ref b16), (.ref b16)]))
  obtain ⟨_, _, ⟨T22, L22, k22, n22⟩, -, X22, ⟨Lc22, hQ22, l22, y22, z22⟩, st22⟩ := X19.specialBack hx (y := (⟨"java/lang/String", "<init>", "([BB)V"⟩ : MethodName)) rfl hown (mvT hZ (hw _ (List.mem_of_getElem? (i := 15) rfl))) (mvT hZ (hw _ (List.mem_of_getElem? (i := 16) rfl))) (mvT hZ (hw _ (List.mem_of_getElem? (i := 18) rfl))) (by decide) (backOf (W := 1) (rm3 l Z aw hw [] b16 bR19 (0 : Int32) h19 n0 Z21 F20_1 F20_2 F20_3 g_b16) hZ (hw _ (List.mem_of_getElem? (i := 18) rfl)) (hw _ (List.mem_of_getElem? (i := 2) rfl)) (by decide) (by decide)) (g := (mkF m 22 #[.val (.int p0)] [(.int (0 : Int32)), (.ref bR19), (.ref b16), (.ref b16)])) rfl (by rw [hml]; rfl) (Steps.refl _) (a := b16) (argsL := [(.ref bR19), (.int (0 : Int32))]) (rest := [(.ref b16)]) (lenOf own_pd2 rfl) rfl (by show 2 * 0 + _ ≤ _; exact Nat.le_of_eq rfl) (hb hby own_d1_22) (fun _ _ => ⟨rfl, e19, (by decide : 2 + 0 ≤ _), (by decide : 5 + 0 ≤ _)⟩)
  dsimp only [Pt.U, Pt.locs, Pt.cells, Pt.slots] at X22 l22 y22 z22 st22 hQ22
  subst l22 y22 z22
  obtain ⟨h22, e22⟩ : ∃ h, T22.heap = h := ⟨_, rfl⟩
  rw [e22] at hQ22
  obtain ⟨rfl, Nq22, K22, E22, G22_0, G22_1⟩ := hQ22
  have N22 := Fr.app N19 Nq22
  have F23_1 := F20_1.keep K22
  have Z24 : n0 ≤ h22.size := Nat.le_trans Z21 K22.1
  have Kt22 := Kt19.trans K22 (allS (Or.inr sz_b16) all0)
  refine own_by (fun _ k => st22.trans k) ?_
  show own_G _ _ _ _ _ _ _ (T22.setTop (mkF m 25 #[.val (.int p0)] [(.ref b16)]))
  exact own_end X22 (v := some (.ref b16)) (fun h => by rw [Bd.returns] at h; cases h) (BodyLoose.notSynchronized Bd) (fun fs hr => X22.areturnOut hx (w := (.ref b16)) rfl Bd.returns rfl (hb hby own_d1_25) hr) (by rw [e22]; exact ⟨b16, rfl, N22, Kt22⟩) (by decide) (by decide)
theorem own_d7_0 : decode jdk_30_method_1_code 0 = .ok (.aload_n 0, 1) := by decide +kernel
theorem own_d7_1 : decode jdk_30_method_1_code 1 = .ok (.invokespecial 1, 3) := by decide +kernel
theorem own_d7_4 : decode jdk_30_method_1_code 4 = .ok (.return_, 1) := by decide +kernel
theorem own_pn2 : plainName "java/lang/Record" = true := by first | (simp [plainName, overriddenIn]; done) | decide +kernel
theorem own_ef5 (m : MethodId) (x0 : Addr) : entryFrame m #[(.ref x0)] 1 = mkF m 0 #[.val (.ref x0)] [] := by first | (simp [entryFrame, mkF, argsToLocals, Value.category]; done) | rfl
def own_Q5 (Z : State) (a0 : Addr) (h0 : Heap) (n0 : Nat) (v : Option Value) (h : Heap) (L : List Loc) : Prop := v = none ∧ Fr n0 L ∧ h = h0
set_option maxRecDepth 65536 in
set_option maxHeartbeats 40000000 in
theorem rm5 (l : Launch) (Z : State) (aw : Array Value) (hw : ∀ d ∈ tables_1, d.before aw Z = true) (ws : List Jvm.Cond) (a0 : Addr) (h0 : Heap) (n0 : Nat) (Z0 : n0 ≤ h0.size) :
    MetFree l (⟨"java/lang/Record", "<init>", "()V"⟩ : MethodName) (head1 (Jvm.Cond.code (⟨"java/lang/Record", "<init>", "()V"⟩ : MethodName) jdk_30_method_1_code 1 none :: ws) ({ frames := 1, cells := 0, slots := 0, locals := 12 } : Room)) (fun a U => a = #[(.ref a0)] ∧ Z.Warmed39 U.vm ∧ U.heap = h0) (fun _ _ _ _ _ => True) (fun _ U o U' => ∃ v L, o = .returned v ∧ own_Q5 Z a0 h0 n0 v U'.heap L ∧ FrameEnd U o U' L ({ frames := 1, cells := 0, slots := 0, locals := 12 } : Room).cells ({ frames := 1, cells := 0, slots := 0, locals := 12 } : Room).slots) := by
  refine MetFree.of_bodySF (plainFor_of_name own_pn2) hisR ?_
  intro p e s m args below meth c s₁ Bd hml0 hP hK
  obtain ⟨rfl, hZ, hh⟩ := hP
  have hx := Bd.exec
  have hby := Bd.bytes
  have hml : c.maxLocals = 1 := hml0
  have hown : s.vm.findClass "java/lang/Record" = some m.cls := findClass_of_methodNamed Bd.named
  have hnm := (name_of_methodNamed Bd.named Bd.method).1
  have X0 : Stand p l e ({ frames := 1, cells := 0, slots := 0, locals := 12 } : Room) s m #[(.ref a0)] below meth c s₁ [] 0 0 := Stand.of_body Bd
  have e0 : s₁.heap = h0 := by rw [← hh, Bd.state]; rfl
  have N0 := Fr.nil n0
  show own_G p.tables e below s (own_Q5 Z a0 h0 n0) ({ frames := 1, cells := 0, slots := 0, locals := 12 } : Room).cells ({ frames := 1, cells := 0, slots := 0, locals := 12 } : Room).slots (s₁.setTop (entryFrame m #[(.ref a0)] 1))
  refine own_by (fun _ k => castTop (own_ef5 m a0) k) ?_
  show own_G _ _ _ _ _ _ _ (s₁.setTop (mkF m 0 #[.val (.ref a0)] []))
  refine own_by (fun _ k => XS.aloadN X0.here hx rfl (hb hby own_d7_0) rfl rfl k) ?_
  show own_G _ _ _ _ _ _ _ (s₁.setTop (mkF m 1 #[.val (.ref a0)] [(.ref a0)]))
  obtain ⟨T25, X25, e25, st25⟩ := initO X0 hx hZ hown (hw _ (List.mem_of_getElem? (i := 37) rfl)) (hw _ (List.mem_of_getElem? (i := 20) rfl)) (hw _ (List.mem_of_getElem? (i := 21) rfl)) e0 (g := (mkF m 1 #[.val (.ref a0)] [(.ref a0)])) rfl (by rw [hml]; rfl) rfl (hb hby own_d7_1) (by decide) (W := 0) (by show 2 * 0 + _ ≤ _; exact Nat.le_of_eq rfl) (by decide)
  refine own_by st25 ?_
  show own_G _ _ _ _ _ _ _ (T25.setTop (mkF m 4 #[.val (.ref a0)] []))
  exact own_end X25 (v := none) (fun _ => rfl) (BodyLoose.notSynchronized Bd) (fun fs hr => X25.returnOut hx Bd.returns (hb hby own_d7_4) hr) (by rw [e25]; exact ⟨rfl, N0, rfl⟩) (by decide) (by decide)
theorem own_d6_0 : decode prog_21_method_1_code 0 = .ok (.aload_n 0, 1) := by decide +kernel
theorem own_d6_1 : decode prog_21_method_1_code 1 = .ok (.invokespecial 1, 3) := by decide +kernel
theorem own_pd3 : parseMethodDescriptor "()V" = some ⟨[], none⟩ := by decide +kernel
theorem own_d6_4 : decode prog_21_method_1_code 4 = .ok (.aload_n 0, 1) := by decide +kernel
theorem own_d6_5 : decode prog_21_method_1_code 5 = .ok (.aload_n 1, 1) := by decide +kernel
theorem own_d6_6 : decode prog_21_method_1_code 6 = .ok (.putfield 7, 3) := by decide +kernel
theorem own_d6_9 : decode prog_21_method_1_code 9 = .ok (.aload_n 0, 1) := by decide +kernel
theorem own_d6_10 : decode prog_21_method_1_code 10 = .ok (.iload_n 2, 1) := by decide +kernel
theorem own_d6_11 : decode prog_21_method_1_code 11 = .ok (.putfield 13, 3) := by decide +kernel
theorem own_d6_14 : decode prog_21_method_1_code 14 = .ok (.aload_n 0, 1) := by decide +kernel
theorem own_d6_15 : decode prog_21_method_1_code 15 = .ok (.iload_n 3, 1) := by decide +kernel
theorem own_d6_16 : decode prog_21_method_1_code 16 = .ok (.putfield 17, 3) := by decide +kernel
theorem own_d6_19 : decode prog_21_method_1_code 19 = .ok (.return_, 1) := by decide +kernel
theorem own_pn3 : plainName "com/example/hedgerow/hedgerow/algorithm/Candidate" = true := by first | (simp [plainName, overriddenIn]; done) | decide +kernel
theorem own_ef6 (m : MethodId) (x0 : Addr) (x1 : Addr) (x2 : Int32) (x3 : Int32) : entryFrame m #[(.ref x0), (.ref x1), (.int x2), (.int x3)] 4 = mkF m 0 #[.val (.ref x0), .val (.ref x1), .val (.int x2), .val (.int x3)] [] := by first | (simp [entryFrame, mkF, argsToLocals, Value.category]; done) | rfl
def own_Q6 (Z : State) (a0 : Addr) (a1 : Addr) (p2 : Int32) (p3 : Int32) (h0 : Heap) (n0 : Nat) (v : Option Value) (h : Heap) (L : List Loc) : Prop := v = none ∧ Fr n0 L ∧ Keep h0 h [a0] ∧ Exa Z h a0 "com/example/hedgerow/hedgerow/algorithm/Candidate" ∧ Fld Z h a0 "com/example/hedgerow/hedgerow/algorithm/Candidate" "name" "Ljava/lang/String;" (.ref a1) ∧ Fld Z h a0 "com/example/hedgerow/hedgerow/algorithm/Candidate" "degree" "I" (.int p2) ∧ Fld Z h a0 "com/example/hedgerow/hedgerow/algorithm/Candidate" "rank" "I" (.int p3)
set_option maxRecDepth 65536 in
set_option maxHeartbeats 40000000 in
theorem rm6 (l : Launch) (Z : State) (aw : Array Value) (hw : ∀ d ∈ tables_1, d.before aw Z = true) (ws : List Jvm.Cond) (a0 : Addr) (a1 : Addr) (p2 : Int32) (p3 : Int32) (h0 : Heap) (n0 : Nat) (Z0 : n0 ≤ h0.size) (E_a : Exa Z h0 a0 "com/example/hedgerow/hedgerow/algorithm/Candidate") (F_name : Fld Z h0 a0 "com/example/hedgerow/hedgerow/algorithm/Candidate" "name" "Ljava/lang/String;" .null) (F_degree : Fld Z h0 a0 "com/example/hedgerow/hedgerow/algorithm/Candidate" "degree" "I" (.int (0 : Int32))) (F_rank : Fld Z h0 a0 "com/example/hedgerow/hedgerow/algorithm/Candidate" "rank" "I" (.int (0 : Int32))) (g_a : n0 ≤ a0) :
    MetFree l (⟨"com/example/hedgerow/hedgerow/algorithm/Candidate", "<init>", "(Ljava/lang/String;II)V"⟩ : MethodName) (head1 (Jvm.Cond.code (⟨"com/example/hedgerow/hedgerow/algorithm/Candidate", "<init>", "(Ljava/lang/String;II)V"⟩ : MethodName) prog_21_method_1_code 4 none :: ws) ({ frames := 2, cells := 0, slots := 0, locals := 24 } : Room)) (fun a U => a = #[(.ref a0), (.ref a1), (.int p2), (.int p3)] ∧ Z.Warmed39 U.vm ∧ U.heap = h0) (fun _ _ _ _ _ => True) (fun _ U o U' => ∃ v L, o = .returned v ∧ own_Q6 Z a0 a1 p2 p3 h0 n0 v U'.heap L ∧ FrameEnd U o U' L ({ frames := 2, cells := 0, slots := 0, locals := 24 } : Room).cells ({ frames := 2, cells := 0, slots := 0, locals := 24 } : Room).slots) := by
  refine MetFree.of_bodySF (plainFor_of_name own_pn3) hisR ?_
  intro p e s m args below meth c s₁ Bd hml0 hP hK
  obtain ⟨rfl, hZ, hh⟩ := hP
  have hx := Bd.exec
  have hby := Bd.bytes
  have hml : c.maxLocals = 4 := hml0
  have hown : s.vm.findClass "com/example/hedgerow/hedgerow/algorithm/Candidate" = some m.cls := findClass_of_methodNamed Bd.named
  have hnm := (name_of_methodNamed Bd.named Bd.method).1
  have X0 : Stand p l e ({ frames := 2, cells := 0, slots := 0, locals := 24 } : Room) s m #[(.ref a0), (.ref a1), (.int p2), (.int p3)] below meth c s₁ [] 0 0 := Stand.of_body Bd
  have e0 : s₁.heap = h0 := by rw [← hh, Bd.state]; rfl
  have N0 := Fr.nil n0
  show own_G p.tables e below s (own_Q6 Z a0 a1 p2 p3 h0 n0) ({ frames := 2, cells := 0, slots := 0, locals := 24 } : Room).cells ({ frames := 2, cells := 0, slots := 0, locals := 24 } : Room).slots (s₁.setTop (entryFrame m #[(.ref a0), (.ref a1), (.int p2), (.int p3)] 4))
  refine own_by (fun _ k => castTop (own_ef6 m a0 a1 p2 p3) k) ?_
  show own_G _ _ _ _ _ _ _ (s₁.setTop (mkF m 0 #[.val (.ref a0), .val (.ref a1), .val (.int p2), .val (.int p3)] []))
  refine own_by (fun _ k => XS.aloadN X0.here hx rfl (hb hby own_d6_0) rfl rfl k) ?_
  show own_G _ _ _ _ _ _ _ (s₁.setTop (mkF m 1 #[.val (.ref a0), .val (.ref a1), .val (.int p2), .val (.int p3)] [(.ref a0)]))
  obtain ⟨_, _, ⟨T26, L26, k26, n26⟩, -, X26, ⟨Lc26, hQ26, l26, y26, z26⟩, st26⟩ := X0.specialBack hx (y := (⟨"java/lang/Record", "<init>", "()V"⟩ : MethodName)) rfl hown (mvT hZ (hw _ (List.mem_of_getElem? (i := 32) rfl))) (mvT hZ (hw _ (List.mem_of_getElem? (i := 33) rfl))) (mvT hZ (hw _ (List.mem_of_getElem? (i := 36) rfl))) (by decide) (backOf (W := 0) (rm5 l Z aw hw [] a0 h0 n0 Z0 ) hZ (hw _ (List.mem_of_getElem? (i := 36) rfl)) (hw _ (List.mem_of_getElem? (i := 35) rfl)) (by decide) (by decide)) (g := (mkF m 1 #[.val (.ref a0), .val (.ref a1), .val (.int p2), .val (.int p3)] [(.ref a0)])) rfl (by rw [hml]; rfl) (Steps.refl _) (a := a0) (argsL := []) (rest := []) (lenOf own_pd3 rfl) rfl (by show 2 * 0 + _ ≤ _; exact Nat.le_of_eq rfl) (hb hby own_d6_1) (fun _ _ => ⟨rfl, e0, (by decide : 0 + 0 ≤ _), (by decide : 0 + 0 ≤ _)⟩)
  dsimp only [Pt.U, Pt.locs, Pt.cells, Pt.slots] at X26 l26 y26 z26 st26 hQ26
  subst l26 y26 z26
  obtain ⟨rfl, Nq26, e26⟩ := hQ26
  have N26 := Fr.app N0 Nq26
  refine own_by (fun _ k => st26.trans k) ?_
  show own_G _ _ _ _ _ _ _ (T26.setTop (mkF m 4 #[.val (.ref a0), .val (.ref a1), .val (.int p2), .val (.int p3)] []))
  refine own_by (fun _ k => XS.aloadN X26.here hx rfl (hb hby own_d6_4) rfl rfl k) ?_
  show own_G _ _ _ _ _ _ _ (T26.setTop (mkF m 5 #[.val (.ref a0), .val (.ref a1), .val (.int p2), .val (.int p3)] [(.ref a0)]))
  refine own_by (fun _ k => XS.aloadN X26.here hx rfl (hb hby own_d6_5) rfl rfl k) ?_
  show own_G _ _ _ _ _ _ _ (T26.setTop (mkF m 6 #[.val (.ref a0), .val (.ref a1), .val (.int p2), .val (.int p3)] [(.ref a1), (.ref a0)]))
  obtain ⟨T27, h27, X27, e27, W27, st27⟩ := putF X26 hx hZ hown (host := "") (Or.inl (hw _ (List.mem_of_getElem? (i := 38) rfl))) Via.refl e26 F_name E_a (Or.inr ⟨(hw _ (List.mem_of_getElem? (i := 39) rfl)), rfl, hnm⟩) (hw _ (List.mem_of_getElem? (i := 27) rfl)) (ty := (.object "java/lang/String")) (by decide) rfl rfl (g := (mkF m 6 #[.val (.ref a0), .val (.ref a1), .val (.int p2), .val (.int p3)] [(.ref a1), (.ref a0)])) rfl rfl (hb hby own_d6_6)
  refine own_by st27 ?_
  have F28_0 := E_a.wr W27
  have F28_1 := F_name.same W27
  have F28_2 := F_degree.other W27 (Or.inr (slot_ne (Or.inr (hw _ (List.mem_of_getElem? (i := 41) rfl))) (Or.inr (hw _ (List.mem_of_getElem? (i := 39) rfl))) (by decide) (t := .int) (t' := (.object "java/lang/String")) (by decide) (by decide)))
  have F28_3 := F_rank.other W27 (Or.inr (slot_ne (Or.inr (hw _ (List.mem_of_getElem? (i := 43) rfl))) (Or.inr (hw _ (List.mem_of_getElem? (i := 39) rfl))) (by decide) (t := .int) (t' := (.object "java/lang/String")) (by decide) (by decide)))
  have N27 := Fr.snoc X27 N26 g_a
  have Z29 : n0 ≤ h27.size := Nat.le_trans Z0 (Nat.le_of_eq W27.size.symm)
  have K27 := (Keep.refl h0 [a0]).wr W27 (Or.inl (List.mem_of_getElem? (i := 0) rfl))
  show own_G _ _ _ _ _ _ _ (T27.setTop (mkF m 9 #[.val (.ref a0), .val (.ref a1), .val (.int p2), .val (.int p3)] []))
  refine own_by (fun _ k => XS.aloadN X27.here hx rfl (hb hby own_d6_9) rfl rfl k) ?_
  show own_G _ _ _ _ _ _ _ (T27.setTop (mkF m 10 #[.val (.ref a0), .val (.ref a1), .val (.int p2), .val (.int p3)] [(.ref a0)]))
  refine own_by (fun _ k => XS.iloadN X27.here hx rfl (hb hby own_d6_10) rfl  k) ?_
  show own_G _ _ _ _ _ _ _ (T27.setTop (mkF m 11 #[.val (.ref a0), .val (.ref a1), .val (.int p2), .val (.int p3)] [(.int p2), (.ref a0)]))
  obtain ⟨T30, h30, X30, e30, W30, st30⟩ := putF X27 hx hZ hown (host := "") (Or.inl (hw _ (List.mem_of_getElem? (i := 40) rfl))) Via.refl e27 F28_2 F28_0 (Or.inr ⟨(hw _ (List.mem_of_getElem? (i := 41) rfl)), rfl, hnm⟩) (hw _ (List.mem_of_getElem? (i := 27) rfl)) (ty := .int) (by decide) rfl rfl (g := (mkF m 11 #[.val (.ref a0), .val (.ref a1), .val (.int p2), .val (.int p3)] [(.int p2), (.ref a0)])) rfl rfl (hb hby own_d6_11)
  refine own_by st30 ?_
  have F31_0 := F28_0.wr W30
  have F31_1 := F28_1.other W30 (Or.inr (slot_ne (Or.inr (hw _ (List.mem_of_getElem? (i := 39) rfl))) (Or.inr (hw _ (List.mem_of_getElem? (i := 41) rfl))) (by decide) (t := (.object "java/lang/String")) (t' := .int) (by decide) (by decide)))
  have F31_2 := F28_2.same W30
  have F31_3 := F28_3.other W30 (Or.inr (slot_ne (Or.inr (hw _ (List.mem_of_getElem? (i := 43) rfl))) (Or.inr (hw _ (List.mem_of_getElem? (i := 41) rfl))) (by decide) (t := .int) (t' := .int) (by decide) (by decide)))
  have N30 := Fr.snoc X30 N27 g_a
  have Z32 : n0 ≤ h30.size := Nat.le_trans Z29 (Nat.le_of_eq W30.size.symm)
  have K30 := K27.wr W30 (Or.inl (List.mem_of_getElem? (i := 0) rfl))
  show own_G _ _ _ _ _ _ _ (T30.setTop (mkF m 14 #[.val (.ref a0), .val (.ref a1), .val (.int p2), .val (.int p3)] []))
  refine own_by (fun _ k => XS.aloadN X30.here hx rfl (hb hby own_d6_14) rfl rfl k) ?_
  show own_G _ _ _ _ _ _ _ (T30.setTop (mkF m 15 #[.val (.ref a0), .val (.ref a1), .val (.int p2), .val (.int p3)] [(.ref a0)]))
  refine own_by (fun _ k => XS.iloadN X30.here hx rfl (hb hby own_d6_15) rfl  k) ?_
  show own_G _ _ _ _ _ _ _ (T30.setTop (mkF m 16 #[.val (.ref a0), .val (.ref a1), .val (.int p2), .val (.int p3)] [(.int p3), (.ref a0)]))
  obtain ⟨T33, h33, X33, e33, W33, st33⟩ := putF X30 hx hZ hown (host := "") (Or.inl (hw _ (List.mem_of_getElem? (i := 42) rfl))) Via.refl e30 F31_3 F31_0 (Or.inr ⟨(hw _ (List.mem_of_getElem? (i := 43) rfl)), rfl, hnm⟩) (hw _ (List.mem_of_getElem? (i := 27) rfl)) (ty := .int) (by decide) rfl rfl (g := (mkF m 16 #[.val (.ref a0), .val (.ref a1), .val (.int p2), .val (.int p3)] [(.int p3), (.ref a0)])) rfl rfl (hb hby own_d6_16)
  refine own_by st33 ?_
  have F34_0 := F31_0.wr W33
  have F34_1 := F31_1.other W33 (Or.inr (slot_ne (Or.inr (hw _ (List.mem_of_getElem? (i := 39) rfl))) (Or.inr (hw _ (List.mem_of_getElem? (i := 43) rfl))) (by decide) (t := (.object "java/lang/String")) (t' := .int) (by decide) (by decide)))
  have F34_2 := F31_2.other W33 (Or.inr (slot_ne (Or.inr (hw _ (List.mem_of_getElem? (i := 41) rfl))) (Or.inr (hw _ (List.mem_of_getElem? (i := 43) rfl))) (by decide) (t := .int) (t' := .int) (by decide) (by decide)))
  have F34_3 := F31_3.same W33
  have N33 := Fr.snoc X33 N30 g_a
  have Z35 : n0 ≤ h33.size := Nat.le_trans Z32 (Nat.le_of_eq W33.size.symm)
  have K33 := K30.wr W33 (Or.inl (List.mem_of_getElem? (i := 0) rfl))
  show own_G _ _ _ _ _ _ _ (T33.setTop (mkF m 19 #[.val (.ref a0), .val (.ref a1), .val (.int p2), .val (.int p3)] []))
  exact own_end X33 (v := none) (fun _ => rfl) (BodyLoose.notSynchronized Bd) (fun fs hr => X33.returnOut hx Bd.returns (hb hby own_d6_19) hr) (by rw [e33]; exact ⟨rfl, N33, K33, F34_0, F34_1, F34_2, F34_3⟩) (by decide) (by decide)
theorem own_d8_0 : decode method_2_code 0 = .ok (.iload_n 1, 1) := by decide +kernel
theorem own_d8_1 : decode method_2_code 1 = .ok (.ldc 7, 2) := by decide +kernel
theorem own_d8_3 : decode method_2_code 3 = .ok (.ixor, 1) := by decide +kernel
theorem own_d8_4 : decode method_2_code 4 = .ok (.i2l, 1) := by decide +kernel
theorem own_d8_5 : decode method_2_code 5 = .ok (.ldc2_w 8, 3) := by decide +kernel
theorem own_d8_8 : decode method_2_code 8 = .ok (.land, 1) := by decide +kernel
theorem own_d8_9 : decode method_2_code 9 = .ok (.lstore_n 2, 1) := by decide +kernel
theorem own_d8_10 : decode method_2_code 10 = .ok (.ldc2_w 8, 3) := by decide +kernel
theorem own_d8_13 : decode method_2_code 13 = .ok (.lload_n 2, 1) := by decide +kernel
theorem own_d8_14 : decode method_2_code 14 = .ok (.lsub, 1) := by decide +kernel
theorem own_d8_15 : decode method_2_code 15 = .ok (.lstore 4, 2) := by decide +kernel
theorem own_d8_17 : decode method_2_code 17 = .ok (.iload_n 0, 1) := by decide +kernel
theorem own_d8_18 : decode method_2_code 18 = .ok (.i2l, 1) := by decide +kernel
theorem own_d8_19 : decode method_2_code 19 = .ok (.bipush 32, 2) := by decide +kernel
theorem own_d8_21 : decode method_2_code 21 = .ok (.lshl, 1) := by decide +kernel
theorem own_d8_22 : decode method_2_code 22 = .ok (.lload 4, 2) := by decide +kernel
theorem own_d8_24 : decode method_2_code 24 = .ok (.ladd, 1) := by decide +kernel
theorem own_d8_25 : decode method_2_code 25 = .ok (.lreturn, 1) := by decide +kernel
theorem own_pn4 : plainName "com/example/hedgerow/hedgerow/algorithm/CandidateBeatsPinLaw" = true := by first | (simp [plainName, overriddenIn]; done) | decide +kernel
theorem own_ef7 (m : MethodId) (x0 : Int32) (x1 : Int32) : entryFrame m #[(.int x0), (.int x1)] 6 = mkF m 0 #[.val (.int x0), .val (.int x1), .unset, .unset, .unset, .unset] [] := by first | (simp [entryFrame, mkF, argsToLocals, Value.category]; done) | rfl
def own_Q7 (Z : State) (p0 : Int32) (p1 : Int32) (h0 : Heap) (n0 : Nat) (v : Option Value) (h : Heap) (L : List Loc) : Prop := v = some (.long (own_key p0 p1)) ∧ Fr n0 L ∧ h = h0
set_option maxRecDepth 65536 in
set_option maxHeartbeats 40000000 in
theorem rm7 (l : Launch) (Z : State) (aw : Array Value) (hw : ∀ d ∈ tables_1, d.before aw Z = true) (ws : List Jvm.Cond) (p0 : Int32) (p1 : Int32) (h0 : Heap) (n0 : Nat) (Z0 : n0 ≤ h0.size) :
    MetFree l (⟨"com/example/hedgerow/hedgerow/algorithm/CandidateBeatsPinLaw", "key", "(II)J"⟩ : MethodName) (head1 (Jvm.Cond.code (⟨"com/example/hedgerow/hedgerow/algorithm/CandidateBeatsPinLaw", "key", "(II)J"⟩ : MethodName) method_2_code 6 (some .long) :: ws) ({ frames := 0, cells := 0, slots := 0, locals := 0 } : Room)) (fun a U => a = #[(.int p0), (.int p1)] ∧ Z.Warmed39 U.vm ∧ U.heap = h0) (fun _ _ _ _ _ => True) (fun _ U o U' => ∃ v L, o = .returned v ∧ own_Q7 Z p0 p1 h0 n0 v U'.heap L ∧ FrameEnd U o U' L ({ frames := 0, cells := 0, slots := 0, locals := 0 } : Room).cells ({ frames := 0, cells := 0, slots := 0, locals := 0 } : Room).slots) := by
  refine MetFree.of_bodySF (plainFor_of_name own_pn4) hisR ?_
  intro p e s m args below meth c s₁ Bd hml0 hP hK
  obtain ⟨rfl, hZ, hh⟩ := hP
  have hx := Bd.exec
  have hby := Bd.bytes
  have hml : c.maxLocals = 6 := hml0
  have hown : s.vm.findClass "com/example/hedgerow/hedgerow/algorithm/CandidateBeatsPinLaw" = some m.cls := findClass_of_methodNamed Bd.named
  have hnm := (name_of_methodNamed Bd.named Bd.method).1
  have X0 : Stand p l e ({ frames := 0, cells := 0, slots := 0, locals := 0 } : Room) s m #[(.int p0), (.int p1)] below meth c s₁ [] 0 0 := Stand.of_body Bd
  have e0 : s₁.heap = h0 := by rw [← hh, Bd.state]; rfl
  have N0 := Fr.nil n0
  show own_G p.tables e below s (own_Q7 Z p0 p1 h0 n0) ({ frames := 0, cells := 0, slots := 0, locals := 0 } : Room).cells ({ frames := 0, cells := 0, slots := 0, locals := 0 } : Room).slots (s₁.setTop (entryFrame m #[(.int p0), (.int p1)] 6))
  refine own_by (fun _ k => castTop (own_ef7 m p0 p1) k) ?_
  show own_G _ _ _ _ _ _ _ (s₁.setTop (mkF m 0 #[.val (.int p0), .val (.int p1), .unset, .unset, .unset, .unset] []))
  refine own_by (fun _ k => XS.iloadN X0.here hx rfl (hb hby own_d8_0) rfl  k) ?_
  show own_G _ _ _ _ _ _ _ (s₁.setTop (mkF m 1 #[.val (.int p0), .val (.int p1), .unset, .unset, .unset, .unset] [(.int p1)]))
  refine own_by (X0.ldcInt hx hown (mvT hZ (hw _ (List.mem_of_getElem? (i := 48) rfl))) (g := (mkF m 1 #[.val (.int p0), .val (.int p1), .unset, .unset, .unset, .unset] [(.int p1)])) rfl (hb hby own_d8_1)) ?_
  show own_G _ _ _ _ _ _ _ (s₁.setTop (mkF m 3 #[.val (.int p0), .val (.int p1), .unset, .unset, .unset, .unset] [(.int (-2147483648 : Int32)), (.int p1)]))
  refine own_by (fun _ k => XT.ixor X0.here hx rfl (hb hby own_d8_3) rfl k) ?_
  show own_G _ _ _ _ _ _ _ (s₁.setTop (mkF m 4 #[.val (.int p0), .val (.int p1), .unset, .unset, .unset, .unset] [(.int (p1 ^^^ (-2147483648 : Int32)))]))
  refine own_by (fun _ k => XT.i2l X0.here hx rfl (hb hby own_d8_4) rfl k) ?_
  show own_G _ _ _ _ _ _ _ (s₁.setTop (mkF m 5 #[.val (.int p0), .val (.int p1), .unset, .unset, .unset, .unset] [(.long (p1 ^^^ (-2147483648 : Int32)).toInt64)]))
  refine own_by (X0.ldc2Long hx hown (mvT hZ (hw _ (List.mem_of_getElem? (i := 49) rfl))) (g := (mkF m 5 #[.val (.int p0), .val (.int p1), .unset, .unset, .unset, .unset] [(.long (p1 ^^^ (-2147483648 : Int32)).toInt64)])) rfl (hb hby own_d8_5)) ?_
  show own_G _ _ _ _ _ _ _ (s₁.setTop (mkF m 8 #[.val (.int p0), .val (.int p1), .unset, .unset, .unset, .unset] [(.long (4294967295 : Int64)), (.long (p1 ^^^ (-2147483648 : Int32)).toInt64)]))
  refine own_by (fun _ k => XT.land X0.here hx rfl (hb hby own_d8_8) rfl k) ?_
  show own_G _ _ _ _ _ _ _ (s₁.setTop (mkF m 9 #[.val (.int p0), .val (.int p1), .unset, .unset, .unset, .unset] [(.long ((p1 ^^^ (-2147483648 : Int32)).toInt64 &&& (4294967295 : Int64)))]))
  refine own_by (fun _ k => XT.lstoreN X0.here hx rfl (hb hby own_d8_9) rfl (l' := #[.val (.int p0), .val (.int p1), .val (.long ((p1 ^^^ (-2147483648 : Int32)).toInt64 &&& (4294967295 : Int64))), .second, .unset, .unset]) rfl k) ?_
  show own_G _ _ _ _ _ _ _ (s₁.setTop (mkF m 10 #[.val (.int p0), .val (.int p1), .val (.long ((p1 ^^^ (-2147483648 : Int32)).toInt64 &&& (4294967295 : Int64))), .second, .unset, .unset] []))
  refine own_by (X0.ldc2Long hx hown (mvT hZ (hw _ (List.mem_of_getElem? (i := 49) rfl))) (g := (mkF m 10 #[.val (.int p0), .val (.int p1), .val (.long ((p1 ^^^ (-2147483648 : Int32)).toInt64 &&& (4294967295 : Int64))), .second, .unset, .unset] [])) rfl (hb hby own_d8_10)) ?_
  show own_G _ _ _ _ _ _ _ (s₁.setTop (mkF m 13 #[.val (.int p0), .val (.int p1), .val (.long ((p1 ^^^ (-2147483648 : Int32)).toInt64 &&& (4294967295 : Int64))), .second, .unset, .unset] [(.long (4294967295 : Int64))]))
  refine own_by (fun _ k => XT.lloadN X0.here hx rfl (hb hby own_d8_13) rfl  k) ?_
  show own_G _ _ _ _ _ _ _ (s₁.setTop (mkF m 14 #[.val (.int p0), .val (.int p1), .val (.long ((p1 ^^^ (-2147483648 : Int32)).toInt64 &&& (4294967295 : Int64))), .second, .unset, .unset] [(.long ((p1 ^^^ (-2147483648 : Int32)).toInt64 &&& (4294967295 : Int64))), (.long (4294967295 : Int64))]))
  refine own_by (fun _ k => XT.lsub X0.here hx rfl (hb hby own_d8_14) rfl k) ?_
  show own_G _ _ _ _ _ _ _ (s₁.setTop (mkF m 15 #[.val (.int p0), .val (.int p1), .val (.long ((p1 ^^^ (-2147483648 : Int32)).toInt64 &&& (4294967295 : Int64))), .second, .unset, .unset] [(.long ((4294967295 : Int64) - ((p1 ^^^ (-2147483648 : Int32)).toInt64 &&& (4294967295 : Int64))))]))
  refine own_by (fun _ k => XT.lstore X0.here hx rfl (hb hby own_d8_15) rfl (l' := #[.val (.int p0), .val (.int p1), .val (.long ((p1 ^^^ (-2147483648 : Int32)).toInt64 &&& (4294967295 : Int64))), .second, .val (.long ((4294967295 : Int64) - ((p1 ^^^ (-2147483648 : Int32)).toInt64 &&& (4294967295 : Int64)))), .second]) rfl k) ?_
  show own_G _ _ _ _ _ _ _ (s₁.setTop (mkF m 17 #[.val (.int p0), .val (.int p1), .val (.long ((p1 ^^^ (-2147483648 : Int32)).toInt64 &&& (4294967295 : Int64))), .second, .val (.long ((4294967295 : Int64) - ((p1 ^^^ (-2147483648 : Int32)).toInt64 &&& (4294967295 : Int64)))), .second] []))
  refine own_by (fun _ k => XS.iloadN X0.here hx rfl (hb hby own_d8_17) rfl  k) ?_
  show own_G _ _ _ _ _ _ _ (s₁.setTop (mkF m 18 #[.val (.int p0), .val (.int p1), .val (.long ((p1 ^^^ (-2147483648 : Int32)).toInt64 &&& (4294967295 : Int64))), .second, .val (.long ((4294967295 : Int64) - ((p1 ^^^ (-2147483648 : Int32)).toInt64 &&& (4294967295 : Int64)))), .second] [(.int p0)]))
  refine own_by (fun _ k => XT.i2l X0.here hx rfl (hb hby own_d8_18) rfl k) ?_
  show own_G _ _ _ _ _ _ _ (s₁.setTop (mkF m 19 #[.val (.int p0), .val (.int p1), .val (.long ((p1 ^^^ (-2147483648 : Int32)).toInt64 &&& (4294967295 : Int64))), .second, .val (.long ((4294967295 : Int64) - ((p1 ^^^ (-2147483648 : Int32)).toInt64 &&& (4294967295 : Int64)))), .second] [(.long p0.toInt64)]))
  refine own_by (fun _ k => XS.bipush X0.here hx rfl (hb hby own_d8_19) k) ?_
  show own_G _ _ _ _ _ _ _ (s₁.setTop (mkF m 21 #[.val (.int p0), .val (.int p1), .val (.long ((p1 ^^^ (-2147483648 : Int32)).toInt64 &&& (4294967295 : Int64))), .second, .val (.long ((4294967295 : Int64) - ((p1 ^^^ (-2147483648 : Int32)).toInt64 &&& (4294967295 : Int64)))), .second] [(.int (32 : Int32)), (.long p0.toInt64)]))
  refine own_by (fun _ k => XT.lshl X0.here hx rfl (hb hby own_d8_21) rfl k) ?_
  show own_G _ _ _ _ _ _ _ (s₁.setTop (mkF m 22 #[.val (.int p0), .val (.int p1), .val (.long ((p1 ^^^ (-2147483648 : Int32)).toInt64 &&& (4294967295 : Int64))), .second, .val (.long ((4294967295 : Int64) - ((p1 ^^^ (-2147483648 : Int32)).toInt64 &&& (4294967295 : Int64)))), .second] [(.long (p0.toInt64 <<< ((32 : Int32).toInt64 &&& 63)))]))
  refine own_by (fun _ k => XT.lload X0.here hx rfl (hb hby own_d8_22) rfl  k) ?_
  show own_G _ _ _ _ _ _ _ (s₁.setTop (mkF m 24 #[.val (.int p0), .val (.int p1), .val (.long ((p1 ^^^ (-2147483648 : Int32)).toInt64 &&& (4294967295 : Int64))), .second, .val (.long ((4294967295 : Int64) - ((p1 ^^^ (-2147483648 : Int32)).toInt64 &&& (4294967295 : Int64)))), .second] [(.long ((4294967295 : Int64) - ((p1 ^^^ (-2147483648 : Int32)).toInt64 &&& (4294967295 : Int64)))), (.long (p0.toInt64 <<< ((32 : Int32).toInt64 &&& 63)))]))
  refine own_by (fun _ k => XT.ladd X0.here hx rfl (hb hby own_d8_24) rfl k) ?_
  show own_G _ _ _ _ _ _ _ (s₁.setTop (mkF m 25 #[.val (.int p0), .val (.int p1), .val (.long ((p1 ^^^ (-2147483648 : Int32)).toInt64 &&& (4294967295 : Int64))), .second, .val (.long ((4294967295 : Int64) - ((p1 ^^^ (-2147483648 : Int32)).toInt64 &&& (4294967295 : Int64)))), .second] [(.long ((p0.toInt64 <<< ((32 : Int32).toInt64 &&& 63)) + ((4294967295 : Int64) - ((p1 ^^^ (-2147483648 : Int32)).toInt64 &&& (4294967295 : Int64)))))]))
  exact own_end X0 (v := some (.long ((p0.toInt64 <<< ((32 : Int32).toInt64 &&& 63)) + ((4294967295 : Int64) - ((p1 ^^^ (-2147483648 : Int32)).toInt64 &&& (4294967295 : Int64)))))) (fun h => by rw [Bd.returns] at h; cases h) (BodyLoose.notSynchronized Bd) (fun fs hr => X0.lreturnOut hx Bd.returns (hb hby own_d8_25) hr) (by rw [e0]; exact ⟨rfl, N0, rfl⟩) (by decide) (by decide)
theorem own_d9_0 : decode prog_21_method_2_code 0 = .ok (.aload_n 0, 1) := by decide +kernel
theorem own_d9_1 : decode prog_21_method_2_code 1 = .ok (.getfield 13, 3) := by decide +kernel
theorem own_d9_4 : decode prog_21_method_2_code 4 = .ok (.aload_n 1, 1) := by decide +kernel
theorem own_d9_5 : decode prog_21_method_2_code 5 = .ok (.getfield 13, 3) := by decide +kernel
theorem own_d9_8 : decode prog_21_method_2_code 8 = .ok (.if_icmp .gt 25, 3) := by decide +kernel
theorem own_d9_33 : decode prog_21_method_2_code 33 = .ok (.iconst 1, 1) := by decide +kernel
theorem own_d9_34 : decode prog_21_method_2_code 34 = .ok (.goto 4, 3) := by decide +kernel
theorem own_d9_38 : decode prog_21_method_2_code 38 = .ok (.ireturn, 1) := by decide +kernel
theorem own_d9_11 : decode prog_21_method_2_code 11 = .ok (.aload_n 0, 1) := by decide +kernel
theorem own_d9_12 : decode prog_21_method_2_code 12 = .ok (.getfield 13, 3) := by decide +kernel
theorem own_d9_15 : decode prog_21_method_2_code 15 = .ok (.aload_n 1, 1) := by decide +kernel
theorem own_d9_16 : decode prog_21_method_2_code 16 = .ok (.getfield 13, 3) := by decide +kernel
theorem own_d9_19 : decode prog_21_method_2_code 19 = .ok (.if_icmp .ne 18, 3) := by decide +kernel
theorem own_d9_22 : decode prog_21_method_2_code 22 = .ok (.aload_n 0, 1) := by decide +kernel
theorem own_d9_23 : decode prog_21_method_2_code 23 = .ok (.getfield 17, 3) := by decide +kernel
theorem own_d9_26 : decode prog_21_method_2_code 26 = .ok (.aload_n 1, 1) := by decide +kernel
theorem own_d9_27 : decode prog_21_method_2_code 27 = .ok (.getfield 17, 3) := by decide +kernel
theorem own_d9_30 : decode prog_21_method_2_code 30 = .ok (.if_icmp .ge 7, 3) := by decide +kernel
theorem own_d9_37 : decode prog_21_method_2_code 37 = .ok (.iconst 0, 1) := by decide +kernel
theorem own_ef8 (m : MethodId) (x0 : Addr) (x1 : Addr) : entryFrame m #[(.ref x0), (.ref x1)] 2 = mkF m 0 #[.val (.ref x0), .val (.ref x1)] [] := by first | (simp [entryFrame, mkF, argsToLocals, Value.category]; done) | rfl
def own_Q8 (Z : State) (a0 : Addr) (a1 : Addr) (x0 : Int32) (x1 : Int32) (y0 : Int32) (y1 : Int32) (h0 : Heap) (n0 : Nat) (v : Option Value) (h : Heap) (L : List Loc) : Prop := v = some (.int (own_beats x0 x1 y0 y1)) ∧ Fr n0 L ∧ h = h0
set_option maxRecDepth 65536 in
set_option maxHeartbeats 40000000 in
theorem rm8 (l : Launch) (Z : State) (aw : Array Value) (hw : ∀ d ∈ tables_1, d.before aw Z = true) (ws : List Jvm.Cond) (a0 : Addr) (a1 : Addr) (x0 : Int32) (x1 : Int32) (y0 : Int32) (y1 : Int32) (h0 : Heap) (n0 : Nat) (Z0 : n0 ≤ h0.size) (F_a0_degree : Fld Z h0 a0 "com/example/hedgerow/hedgerow/algorithm/Candidate" "degree" "I" (.int x0)) (F_a0_rank : Fld Z h0 a0 "com/example/hedgerow/hedgerow/algorithm/Candidate" "rank" "I" (.int x1)) (F_a1_degree : Fld Z h0 a1 "com/example/hedgerow/hedgerow/algorithm/Candidate" "degree" "I" (.int y0)) (F_a1_rank : Fld Z h0 a1 "com/example/hedgerow/hedgerow/algorithm/Candidate" "rank" "I" (.int y1)) :
    MetFree l (⟨"com/example/hedgerow/hedgerow/algorithm/Candidate", "beats", "(Lcom/example/hedgerow/hedgerow/algorithm/Candidate;)Z"⟩ : MethodName) (head1 (Jvm.Cond.code (⟨"com/example/hedgerow/hedgerow/algorithm/Candidate", "beats", "(Lcom/example/hedgerow/hedgerow/algorithm/Candidate;)Z"⟩ : MethodName) prog_21_method_2_code 2 (some .boolean) :: ws) ({ frames := 0, cells := 0, slots := 0, locals := 0 } : Room)) (fun a U => a = #[(.ref a0), (.ref a1)] ∧ Z.Warmed39 U.vm ∧ U.heap = h0) (fun _ _ _ _ _ => True) (fun _ U o U' => ∃ v L, o = .returned v ∧ own_Q8 Z a0 a1 x0 x1 y0 y1 h0 n0 v U'.heap L ∧ FrameEnd U o U' L ({ frames := 0, cells := 0, slots := 0, locals := 0 } : Room).cells ({ frames := 0, cells := 0, slots := 0, locals := 0 } : Room).slots) := by
  refine MetFree.of_bodySF (plainFor_of_name own_pn3) hisR ?_
  intro p e s m args below meth c s₁ Bd hml0 hP hK
  obtain ⟨rfl, hZ, hh⟩ := hP
  have hx := Bd.exec
  have hby := Bd.bytes
  have hml : c.maxLocals = 2 := hml0
  have hown : s.vm.findClass "com/example/hedgerow/hedgerow/algorithm/Candidate" = some m.cls := findClass_of_methodNamed Bd.named
  have hnm := (name_of_methodNamed Bd.named Bd.method).1
  have X0 : Stand p l e ({ frames := 0, cells := 0, slots := 0, locals := 0 } : Room) s m #[(.ref a0), (.ref a1)] below meth c s₁ [] 0 0 := Stand.of_body Bd
  have e0 : s₁.heap = h0 := by rw [← hh, Bd.state]; rfl
  have N0 := Fr.nil n0
  show own_G p.tables e below s (own_Q8 Z a0 a1 x0 x1 y0 y1 h0 n0) ({ frames := 0, cells := 0, slots := 0, locals := 0 } : Room).cells ({ frames := 0, cells := 0, slots := 0, locals := 0 } : Room).slots (s₁.setTop (entryFrame m #[(.ref a0), (.ref a1)] 2))
  refine own_by (fun _ k => castTop (own_ef8 m a0 a1) k) ?_
  show own_G _ _ _ _ _ _ _ (s₁.setTop (mkF m 0 #[.val (.ref a0), .val (.ref a1)] []))
  refine own_by (fun _ k => XS.aloadN X0.here hx rfl (hb hby own_d9_0) rfl rfl k) ?_
  show own_G _ _ _ _ _ _ _ (s₁.setTop (mkF m 1 #[.val (.ref a0), .val (.ref a1)] [(.ref a0)]))
  obtain ⟨T36, X36, e36, st36⟩ := getF X0 hx hZ hown (host := "") (Or.inl (hw _ (List.mem_of_getElem? (i := 40) rfl))) Via.refl e0 F_a0_degree (g := (mkF m 1 #[.val (.ref a0), .val (.ref a1)] [(.ref a0)])) rfl rfl (hb hby own_d9_1)
  refine own_by st36 ?_
  show own_G _ _ _ _ _ _ _ (T36.setTop (mkF m 4 #[.val (.ref a0), .val (.ref a1)] [(.int x0)]))
  refine own_by (fun _ k => XS.aloadN X36.here hx rfl (hb hby own_d9_4) rfl rfl k) ?_
  show own_G _ _ _ _ _ _ _ (T36.setTop (mkF m 5 #[.val (.ref a0), .val (.ref a1)] [(.ref a1), (.int x0)]))
  obtain ⟨T37, X37, e37, st37⟩ := getF X36 hx hZ hown (host := "") (Or.inl (hw _ (List.mem_of_getElem? (i := 40) rfl))) Via.refl e36 F_a1_degree (g := (mkF m 5 #[.val (.ref a0), .val (.ref a1)] [(.ref a1), (.int x0)])) rfl rfl (hb hby own_d9_5)
  refine own_by st37 ?_
  show own_G _ _ _ _ _ _ _ (T37.setTop (mkF m 8 #[.val (.ref a0), .val (.ref a1)] [(.int y0), (.int x0)]))
  by_cases hc8 : y0 < x0
  · refine own_by (fun _ k => XS.icmpYes X37.here hx rfl (pc0 := 8) (pc' := 33) rfl (hb hby own_d9_8) rfl (XT.ii_gt_t hc8) (by decide) (by decide) k) ?_
    show own_G _ _ _ _ _ _ _ (T37.setTop (mkF m 33 #[.val (.ref a0), .val (.ref a1)] []))
    refine own_by (fun _ k => XS.iconst X37.here hx rfl (hb hby own_d9_33) k) ?_
    show own_G _ _ _ _ _ _ _ (T37.setTop (mkF m 34 #[.val (.ref a0), .val (.ref a1)] [(.int (1 : Int32))]))
    refine own_by (fun _ k => XS.goto X37.here hx rfl (pc0 := 34) (pc' := 38) rfl (hb hby own_d9_34) (by decide) (by decide) k) ?_
    show own_G _ _ _ _ _ _ _ (T37.setTop (mkF m 38 #[.val (.ref a0), .val (.ref a1)] [(.int (1 : Int32))]))
    exact own_end X37 (v := some (.int (nar .boolean (1 : Int32)))) (fun h => by rw [Bd.returns] at h; cases h) (BodyLoose.notSynchronized Bd) (fun fs hr => retN X37 hx (t := .boolean) Bd.returns (by simp) (hb hby own_d9_38) hr) (by rw [e37]; exact ⟨(by simp only [own_beats, if_pos hc8]; first | done | rfl), N0, rfl⟩) (by decide) (by decide)
  · refine own_by (fun _ k => XS.icmpNo X37.here hx rfl (hb hby own_d9_8) rfl (XT.ii_gt_f hc8) k) ?_
    show own_G _ _ _ _ _ _ _ (T37.setTop (mkF m 11 #[.val (.ref a0), .val (.ref a1)] []))
    refine own_by (fun _ k => XS.aloadN X37.here hx rfl (hb hby own_d9_11) rfl rfl k) ?_
    show own_G _ _ _ _ _ _ _ (T37.setTop (mkF m 12 #[.val (.ref a0), .val (.ref a1)] [(.ref a0)]))
    obtain ⟨T38, X38, e38, st38⟩ := getF X37 hx hZ hown (host := "") (Or.inl (hw _ (List.mem_of_getElem? (i := 40) rfl))) Via.refl e37 F_a0_degree (g := (mkF m 12 #[.val (.ref a0), .val (.ref a1)] [(.ref a0)])) rfl rfl (hb hby own_d9_12)
    refine own_by st38 ?_
    show own_G _ _ _ _ _ _ _ (T38.setTop (mkF m 15 #[.val (.ref a0), .val (.ref a1)] [(.int x0)]))
    refine own_by (fun _ k => XS.aloadN X38.here hx rfl (hb hby own_d9_15) rfl rfl k) ?_
    show own_G _ _ _ _ _ _ _ (T38.setTop (mkF m 16 #[.val (.ref a0), .val (.ref a1)] [(.ref a1), (.int x0)]))
    obtain ⟨T39, X39, e39, st39⟩ := getF X38 hx hZ hown (host := "") (Or.inl (hw _ (List.mem_of_getElem? (i := 40) rfl))) Via.refl e38 F_a1_degree (g := (mkF m 16 #[.val (.ref a0), .val (.ref a1)] [(.ref a1), (.int x0)])) rfl rfl (hb hby own_d9_16)
    refine own_by st39 ?_
    show own_G _ _ _ _ _ _ _ (T39.setTop (mkF m 19 #[.val (.ref a0), .val (.ref a1)] [(.int y0), (.int x0)]))
    by_cases hc19 : x0 = y0
    · refine own_by (fun _ k => XS.icmpNo X39.here hx rfl (hb hby own_d9_19) rfl (XT.ii_ne_f hc19) k) ?_
      show own_G _ _ _ _ _ _ _ (T39.setTop (mkF m 22 #[.val (.ref a0), .val (.ref a1)] []))
      refine own_by (fun _ k => XS.aloadN X39.here hx rfl (hb hby own_d9_22) rfl rfl k) ?_
      show own_G _ _ _ _ _ _ _ (T39.setTop (mkF m 23 #[.val (.ref a0), .val (.ref a1)] [(.ref a0)]))
      obtain ⟨T40, X40, e40, st40⟩ := getF X39 hx hZ hown (host := "") (Or.inl (hw _ (List.mem_of_getElem? (i := 42) rfl))) Via.refl e39 F_a0_rank (g := (mkF m 23 #[.val (.ref a0), .val (.ref a1)] [(.ref a0)])) rfl rfl (hb hby own_d9_23)
      refine own_by st40 ?_
      show own_G _ _ _ _ _ _ _ (T40.setTop (mkF m 26 #[.val (.ref a0), .val (.ref a1)] [(.int x1)]))
      refine own_by (fun _ k => XS.aloadN X40.here hx rfl (hb hby own_d9_26) rfl rfl k) ?_
      show own_G _ _ _ _ _ _ _ (T40.setTop (mkF m 27 #[.val (.ref a0), .val (.ref a1)] [(.ref a1), (.int x1)]))
      obtain ⟨T41, X41, e41, st41⟩ := getF X40 hx hZ hown (host := "") (Or.inl (hw _ (List.mem_of_getElem? (i := 42) rfl))) Via.refl e40 F_a1_rank (g := (mkF m 27 #[.val (.ref a0), .val (.ref a1)] [(.ref a1), (.int x1)])) rfl rfl (hb hby own_d9_27)
      refine own_by st41 ?_
      show own_G _ _ _ _ _ _ _ (T41.setTop (mkF m 30 #[.val (.ref a0), .val (.ref a1)] [(.int y1), (.int x1)]))
      by_cases hc30 : x1 < y1
      · refine own_by (fun _ k => XS.icmpNo X41.here hx rfl (hb hby own_d9_30) rfl (XT.ii_ge_f hc30) k) ?_
        show own_G _ _ _ _ _ _ _ (T41.setTop (mkF m 33 #[.val (.ref a0), .val (.ref a1)] []))
        refine own_by (fun _ k => XS.iconst X41.here hx rfl (hb hby own_d9_33) k) ?_
        show own_G _ _ _ _ _ _ _ (T41.setTop (mkF m 34 #[.val (.ref a0), .val (.ref a1)] [(.int (1 : Int32))]))
        refine own_by (fun _ k => XS.goto X41.here hx rfl (pc0 := 34) (pc' := 38) rfl (hb hby own_d9_34) (by decide) (by decide) k) ?_
        show own_G _ _ _ _ _ _ _ (T41.setTop (mkF m 38 #[.val (.ref a0), .val (.ref a1)] [(.int (1 : Int32))]))
        exact own_end X41 (v := some (.int (nar .boolean (1 : Int32)))) (fun h => by rw [Bd.returns] at h; cases h) (BodyLoose.notSynchronized Bd) (fun fs hr => retN X41 hx (t := .boolean) Bd.returns (by simp) (hb hby own_d9_38) hr) (by rw [e41]; exact ⟨(by simp only [own_beats, if_neg hc8, if_pos hc19, if_pos hc30]; first | done | rfl), N0, rfl⟩) (by decide) (by decide)
      · refine own_by (fun _ k => XS.icmpYes X41.here hx rfl (pc0 := 30) (pc' := 37) rfl (hb hby own_d9_30) rfl (XT.ii_ge_t hc30) (by decide) (by decide) k) ?_
        show own_G _ _ _ _ _ _ _ (T41.setTop (mkF m 37 #[.val (.ref a0), .val (.ref a1)] []))
        refine own_by (fun _ k => XS.iconst X41.here hx rfl (hb hby own_d9_37) k) ?_
        show own_G _ _ _ _ _ _ _ (T41.setTop (mkF m 38 #[.val (.ref a0), .val (.ref a1)] [(.int (0 : Int32))]))
        exact own_end X41 (v := some (.int (nar .boolean (0 : Int32)))) (fun h => by rw [Bd.returns] at h; cases h) (BodyLoose.notSynchronized Bd) (fun fs hr => retN X41 hx (t := .boolean) Bd.returns (by simp) (hb hby own_d9_38) hr) (by rw [e41]; exact ⟨(by simp only [own_beats, if_neg hc8, if_pos hc19, if_neg hc30]; first | done | rfl), N0, rfl⟩) (by decide) (by decide)
    · refine own_by (fun _ k => XS.icmpYes X39.here hx rfl (pc0 := 19) (pc' := 37) rfl (hb hby own_d9_19) rfl (XT.ii_ne_t hc19) (by decide) (by decide) k) ?_
      show own_G _ _ _ _ _ _ _ (T39.setTop (mkF m 37 #[.val (.ref a0), .val (.ref a1)] []))
      refine own_by (fun _ k => XS.iconst X39.here hx rfl (hb hby own_d9_37) k) ?_
      show own_G _ _ _ _ _ _ _ (T39.setTop (mkF m 38 #[.val (.ref a0), .val (.ref a1)] [(.int (0 : Int32))]))
      exact own_end X39 (v := some (.int (nar .boolean (0 : Int32)))) (fun h => by rw [Bd.returns] at h; cases h) (BodyLoose.notSynchronized Bd) (fun fs hr => retN X39 hx (t := .boolean) Bd.returns (by simp) (hb hby own_d9_38) hr) (by rw [e39]; exact ⟨(by simp only [own_beats, if_neg hc8, if_neg hc19]; first | done | rfl), N0, rfl⟩) (by decide) (by decide)
theorem own_pd4 : parseMethodDescriptor "(C)Ljava/lang/String;" = some ⟨[.char], some (.object "java/lang/String")⟩ := by decide +kernel
theorem own_pd5 : parseMethodDescriptor "(Ljava/lang/String;II)V" = some ⟨[(.object "java/lang/String"), .int, .int], none⟩ := by decide +kernel
theorem own_pd6 : parseMethodDescriptor "(II)J" = some ⟨[.int, .int], some .long⟩ := by decide +kernel
theorem own_pd7 : parseMethodDescriptor "(Lcom/example/hedgerow/hedgerow/algorithm/Candidate;)Z" = some ⟨[(.object "com/example/hedgerow/hedgerow/algorithm/Candidate")], some .boolean⟩ := by decide +kernel
theorem own_ef0 (m : MethodId) (x0 : Int32) (x1 : Int32) (x2 : Int32) (x3 : Int32) (x4 : Int32) : entryFrame m #[(.int x0), (.int x1), (.int x2), (.int x3), (.int x4)] maxLocals = mkF m 0 #[.val (.int x0), .val (.int x1), .val (.int x2), .val (.int x3), .val (.int x4), .unset, .unset, .unset, .unset, .unset, .unset, .unset, .unset, .unset, .unset, .unset, .unset] [] := by first | (simp [entryFrame, mkF, argsToLocals, Value.category, maxLocals]; done) | rfl
def own_Q0 (Z : State) (p0 : Int32) (p1 : Int32) (p2 : Int32) (p3 : Int32) (p4 : Int32) (cs : Int32) (h0 : Heap) (n0 : Nat) (v : Option Value) (h : Heap) (L : List Loc) : Prop := v = some (.int 1) ∧ Fr n0 L
set_option maxRecDepth 65536 in
set_option maxHeartbeats 40000000 in
theorem rm0 (l : Launch) (Z : State) (aw : Array Value) (hw : ∀ d ∈ tables_1, d.before aw Z = true) (ws : List Jvm.Cond) (p0 : Int32) (p1 : Int32) (p2 : Int32) (p3 : Int32) (p4 : Int32) (cs : Int32) (h0 : Heap) (n0 : Nat) (Z0 : n0 ≤ h0.size) (St : Sta Z h0 "java/lang/String" "COMPACT_STRINGS" "Z" (.int cs)) (hcs : ¬ (cs = (0 : Int32))) :
    MetFree l x (head1 (Jvm.Cond.code x code maxLocals ret :: ws) room_1) (fun a U => a = #[(.int p0), (.int p1), (.int p2), (.int p3), (.int p4)] ∧ Z.Warmed39 U.vm ∧ U.heap = h0) (fun _ _ _ _ _ => True) (fun _ U o U' => ∃ v L, o = .returned v ∧ own_Q0 Z p0 p1 p2 p3 p4 cs h0 n0 v U'.heap L ∧ FrameEnd U o U' L room_1.cells room_1.slots) := by
  refine MetFree.of_bodySF (plainFor_of_name own_pn4) hisR ?_
  intro p e s m args below meth c s₁ Bd hml0 hP hK
  obtain ⟨rfl, hZ, hh⟩ := hP
  have hx := Bd.exec
  have hby := Bd.bytes
  have hml : c.maxLocals = 17 := hml0
  have hown : s.vm.findClass "com/example/hedgerow/hedgerow/algorithm/CandidateBeatsPinLaw" = some m.cls := findClass_of_methodNamed Bd.named
  have hnm := (name_of_methodNamed Bd.named Bd.method).1
  have X0 : Stand p l e room_1 s m #[(.int p0), (.int p1), (.int p2), (.int p3), (.int p4)] below meth c s₁ [] 0 0 := Stand.of_body Bd
  have e0 : s₁.heap = h0 := by rw [← hh, Bd.state]; rfl
  have N0 := Fr.nil n0
  show own_G p.tables e below s (own_Q0 Z p0 p1 p2 p3 p4 cs h0 n0) room_1.cells room_1.slots (s₁.setTop (entryFrame m #[(.int p0), (.int p1), (.int p2), (.int p3), (.int p4)] maxLocals))
  refine own_by (fun _ k => castTop (own_ef0 m p0 p1 p2 p3 p4) k) ?_
  have J12 : ∀ (Tj42 : State) (lj42 : List Loc) (Xj42 : Stand p l e room_1 s m #[(.int p0), (.int p1), (.int p2), (.int p3), (.int p4)] below meth c Tj42 lj42 0 0) (Nj42 : Fr n0 lj42) (ej42 : Tj42.heap = h0) (dd : Int32), own_G p.tables e below s (own_Q0 Z p0 p1 p2 p3 p4 cs h0 n0) room_1.cells room_1.slots (Tj42.setTop (mkF m 12 #[.val (.int p0), .val (.int p1), .val (.int p2), .val (.int p3), .val (.int p4), .unset, .unset, .unset, .unset, .unset, .unset, .unset, .unset, .unset, .unset, .unset, .unset] [(.int dd)])) := by
    intro Tj42 lj42 Xj42 Nj42 ej42 dd
    show own_G _ _ _ _ _ _ _ (Tj42.setTop (mkF m 12 #[.val (.int p0), .val (.int p1), .val (.int p2), .val (.int p3), .val (.int p4), .unset, .unset, .unset, .unset, .unset, .unset, .unset, .unset, .unset, .unset, .unset, .unset] [(.int dd)]))
    refine own_by (fun _ k => XS.istore Xj42.here hx rfl (hb hby at_12) rfl (l' := #[.val (.int p0), .val (.int p1), .val (.int p2), .val (.int p3), .val (.int p4), .val (.int dd), .unset, .unset, .unset, .unset, .unset, .unset, .unset, .unset, .unset, .unset, .unset]) rfl k) ?_
    have J26 : ∀ (Tj43 : State) (lj43 : List Loc) (Xj43 : Stand p l e room_1 s m #[(.int p0), (.int p1), (.int p2), (.int p3), (.int p4)] below meth c Tj43 lj43 0 0) (Nj43 : Fr n0 lj43) (ej43 : Tj43.heap = h0) (rr : Int32), own_G p.tables e below s (own_Q0 Z p0 p1 p2 p3 p4 cs h0 n0) room_1.cells room_1.slots (Tj43.setTop (mkF m 26 #[.val (.int p0), .val (.int p1), .val (.int p2), .val (.int p3), .val (.int p4), .val (.int dd), .unset, .unset, .unset, .unset, .unset, .unset, .unset, .unset, .unset, .unset, .unset] [(.int rr)])) := by
      intro Tj43 lj43 Xj43 Nj43 ej43 rr
      show own_G _ _ _ _ _ _ _ (Tj43.setTop (mkF m 26 #[.val (.int p0), .val (.int p1), .val (.int p2), .val (.int p3), .val (.int p4), .val (.int dd), .unset, .unset, .unset, .unset, .unset, .unset, .unset, .unset, .unset, .unset, .unset] [(.int rr)]))
      refine own_by (fun _ k => XS.istore Xj43.here hx rfl (hb hby at_26) rfl (l' := #[.val (.int p0), .val (.int p1), .val (.int p2), .val (.int p3), .val (.int p4), .val (.int dd), .val (.int rr), .unset, .unset, .unset, .unset, .unset, .unset, .unset, .unset, .unset, .unset]) rfl k) ?_
      show own_G _ _ _ _ _ _ _ (Tj43.setTop (mkF m 28 #[.val (.int p0), .val (.int p1), .val (.int p2), .val (.int p3), .val (.int p4), .val (.int dd), .val (.int rr), .unset, .unset, .unset, .unset, .unset, .unset, .unset, .unset, .unset, .unset] []))
      refine own_by (fun _ k => XS.iload Xj43.here hx rfl (hb hby at_28) rfl  k) ?_
      show own_G _ _ _ _ _ _ _ (Tj43.setTop (mkF m 30 #[.val (.int p0), .val (.int p1), .val (.int p2), .val (.int p3), .val (.int p4), .val (.int dd), .val (.int rr), .unset, .unset, .unset, .unset, .unset, .unset, .unset, .unset, .unset, .unset] [(.int p4)]))
      refine own_by (fun _ k => XS.iconst Xj43.here hx rfl (hb hby at_30) k) ?_
      show own_G _ _ _ _ _ _ _ (Tj43.setTop (mkF m 31 #[.val (.int p0), .val (.int p1), .val (.int p2), .val (.int p3), .val (.int p4), .val (.int dd), .val (.int rr), .unset, .unset, .unset, .unset, .unset, .unset, .unset, .unset, .unset, .unset] [(.int (2 : Int32)), (.int p4)]))
      refine own_by (fun _ k => XT.iushr Xj43.here hx rfl (hb hby at_31) rfl k) ?_
      show own_G _ _ _ _ _ _ _ (Tj43.setTop (mkF m 32 #[.val (.int p0), .val (.int p1), .val (.int p2), .val (.int p3), .val (.int p4), .val (.int dd), .val (.int rr), .unset, .unset, .unset, .unset, .unset, .unset, .unset, .unset, .unset, .unset] [(.int (XT.ushr p4 (2 : Int32)))]))
      refine own_by (fun _ k => XS.sipush Xj43.here hx rfl (hb hby at_32) k) ?_
      show own_G _ _ _ _ _ _ _ (Tj43.setTop (mkF m 35 #[.val (.int p0), .val (.int p1), .val (.int p2), .val (.int p3), .val (.int p4), .val (.int dd), .val (.int rr), .unset, .unset, .unset, .unset, .unset, .unset, .unset, .unset, .unset, .unset] [(.int (255 : Int32)), (.int (XT.ushr p4 (2 : Int32)))]))
      refine own_by (fun _ k => XS.iand Xj43.here hx rfl (hb hby at_35) rfl k) ?_
      show own_G _ _ _ _ _ _ _ (Tj43.setTop (mkF m 36 #[.val (.int p0), .val (.int p1), .val (.int p2), .val (.int p3), .val (.int p4), .val (.int dd), .val (.int rr), .unset, .unset, .unset, .unset, .unset, .unset, .unset, .unset, .unset, .unset] [(.int ((XT.ushr p4 (2 : Int32)) &&& (255 : Int32)))]))
      refine own_by (fun _ k => XT.i2c Xj43.here hx rfl (hb hby at_36) rfl k) ?_
      show own_G _ _ _ _ _ _ _ (Tj43.setTop (mkF m 37 #[.val (.int p0), .val (.int p1), .val (.int p2), .val (.int p3), .val (.int p4), .val (.int dd), .val (.int rr), .unset, .unset, .unset, .unset, .unset, .unset, .unset, .unset, .unset, .unset] [(.int ((XT.ushr p4 (2 : Int32)) &&& (255 : Int32)).toUInt32.toUInt16.toUInt32.toInt32)]))
      obtain ⟨_, _, ⟨T44, L44, k44, n44⟩, -, X44, ⟨Lc44, hQ44, l44, y44, z44⟩, st44⟩ := Jvm.LawKit.callS Xj43 hx (y := (⟨"java/lang/String", "valueOf", "(C)Ljava/lang/String;"⟩ : MethodName)) hown (mvT hZ (hw _ (List.mem_of_getElem? (i := 0) rfl))) (mvT hZ (hw _ (List.mem_of_getElem? (i := 1) rfl))) (mvT hZ (hw _ (List.mem_of_getElem? (i := 2) rfl))) (mvT hZ (hw _ (List.mem_of_getElem? (i := 3) rfl))) (by decide) (backOf (W := 0) (rm4 l Z aw hw [] ((XT.ushr p4 (2 : Int32)) &&& (255 : Int32)).toUInt32.toUInt16.toUInt32.toInt32 cs h0 n0 Z0 St hcs (own_ch _)) hZ (hw _ (List.mem_of_getElem? (i := 3) rfl)) (hw _ (List.mem_of_getElem? (i := 2) rfl)) (by decide) (by decide)) (g := (mkF m 37 #[.val (.int p0), .val (.int p1), .val (.int p2), .val (.int p3), .val (.int p4), .val (.int dd), .val (.int rr), .unset, .unset, .unset, .unset, .unset, .unset, .unset, .unset, .unset, .unset] [(.int ((XT.ushr p4 (2 : Int32)) &&& (255 : Int32)).toUInt32.toUInt16.toUInt32.toInt32)])) rfl (by rw [hml]; rfl) (argsL := [(.int ((XT.ushr p4 (2 : Int32)) &&& (255 : Int32)).toUInt32.toUInt16.toUInt32.toInt32)]) (rest := []) (lenOf own_pd4 rfl) rfl (by show 2 * 0 + _ ≤ _; exact Nat.le_of_eq rfl) (hb hby at_37) (fun _ _ => ⟨rfl, ej43, (by decide : 0 + 2 ≤ _), (by decide : 0 + 5 ≤ _)⟩)
      dsimp only [Pt.U, Pt.locs, Pt.cells, Pt.slots] at X44 l44 y44 z44 st44 hQ44
      subst l44 y44 z44
      obtain ⟨h44, e44⟩ : ∃ h, T44.heap = h := ⟨_, rfl⟩
      rw [e44] at hQ44
      obtain ⟨bR44, rfl, Nq44, K44⟩ := hQ44
      have N44 := Fr.app Nj43 Nq44
      have F45_0 := St.ext (own_kext K44)
      have Z46 : n0 ≤ h44.size := Nat.le_trans Z0 K44.1
      refine own_by (fun _ k => st44 _ k) ?_
      show own_G _ _ _ _ _ _ _ (T44.setTop (mkF m 40 #[.val (.int p0), .val (.int p1), .val (.int p2), .val (.int p3), .val (.int p4), .val (.int dd), .val (.int rr), .unset, .unset, .unset, .unset, .unset, .unset, .unset, .unset, .unset, .unset] [(.ref bR44)]))
      refine own_by (fun _ k => XS.astore X44.here hx rfl (hb hby at_40) rfl rfl (l' := #[.val (.int p0), .val (.int p1), .val (.int p2), .val (.int p3), .val (.int p4), .val (.int dd), .val (.int rr), .val (.ref bR44), .unset, .unset, .unset, .unset, .unset, .unset, .unset, .unset, .unset]) rfl k) ?_
      show own_G _ _ _ _ _ _ _ (T44.setTop (mkF m 42 #[.val (.int p0), .val (.int p1), .val (.int p2), .val (.int p3), .val (.int p4), .val (.int dd), .val (.int rr), .val (.ref bR44), .unset, .unset, .unset, .unset, .unset, .unset, .unset, .unset, .unset] []))
      refine own_by (fun _ k => XS.iload X44.here hx rfl (hb hby at_42) rfl  k) ?_
      show own_G _ _ _ _ _ _ _ (T44.setTop (mkF m 44 #[.val (.int p0), .val (.int p1), .val (.int p2), .val (.int p3), .val (.int p4), .val (.int dd), .val (.int rr), .val (.ref bR44), .unset, .unset, .unset, .unset, .unset, .unset, .unset, .unset, .unset] [(.int p4)]))
      refine own_by (fun _ k => XS.bipush X44.here hx rfl (hb hby at_44) k) ?_
      show own_G _ _ _ _ _ _ _ (T44.setTop (mkF m 46 #[.val (.int p0), .val (.int p1), .val (.int p2), .val (.int p3), .val (.int p4), .val (.int dd), .val (.int rr), .val (.ref bR44), .unset, .unset, .unset, .unset, .unset, .unset, .unset, .unset, .unset] [(.int (10 : Int32)), (.int p4)]))
      refine own_by (fun _ k => XT.iushr X44.here hx rfl (hb hby at_46) rfl k) ?_
      show own_G _ _ _ _ _ _ _ (T44.setTop (mkF m 47 #[.val (.int p0), .val (.int p1), .val (.int p2), .val (.int p3), .val (.int p4), .val (.int dd), .val (.int rr), .val (.ref bR44), .unset, .unset, .unset, .unset, .unset, .unset, .unset, .unset, .unset] [(.int (XT.ushr p4 (10 : Int32)))]))
      refine own_by (fun _ k => XS.sipush X44.here hx rfl (hb hby at_47) k) ?_
      show own_G _ _ _ _ _ _ _ (T44.setTop (mkF m 50 #[.val (.int p0), .val (.int p1), .val (.int p2), .val (.int p3), .val (.int p4), .val (.int dd), .val (.int rr), .val (.ref bR44), .unset, .unset, .unset, .unset, .unset, .unset, .unset, .unset, .unset] [(.int (255 : Int32)), (.int (XT.ushr p4 (10 : Int32)))]))
      refine own_by (fun _ k => XS.iand X44.here hx rfl (hb hby at_50) rfl k) ?_
      show own_G _ _ _ _ _ _ _ (T44.setTop (mkF m 51 #[.val (.int p0), .val (.int p1), .val (.int p2), .val (.int p3), .val (.int p4), .val (.int dd), .val (.int rr), .val (.ref bR44), .unset, .unset, .unset, .unset, .unset, .unset, .unset, .unset, .unset] [(.int ((XT.ushr p4 (10 : Int32)) &&& (255 : Int32)))]))
      refine own_by (fun _ k => XT.i2c X44.here hx rfl (hb hby at_51) rfl k) ?_
      show own_G _ _ _ _ _ _ _ (T44.setTop (mkF m 52 #[.val (.int p0), .val (.int p1), .val (.int p2), .val (.int p3), .val (.int p4), .val (.int dd), .val (.int rr), .val (.ref bR44), .unset, .unset, .unset, .unset, .unset, .unset, .unset, .unset, .unset] [(.int ((XT.ushr p4 (10 : Int32)) &&& (255 : Int32)).toUInt32.toUInt16.toUInt32.toInt32)]))
      obtain ⟨_, _, ⟨T47, L47, k47, n47⟩, -, X47, ⟨Lc47, hQ47, l47, y47, z47⟩, st47⟩ := Jvm.LawKit.callS X44 hx (y := (⟨"java/lang/String", "valueOf", "(C)Ljava/lang/String;"⟩ : MethodName)) hown (mvT hZ (hw _ (List.mem_of_getElem? (i := 0) rfl))) (mvT hZ (hw _ (List.mem_of_getElem? (i := 1) rfl))) (mvT hZ (hw _ (List.mem_of_getElem? (i := 2) rfl))) (mvT hZ (hw _ (List.mem_of_getElem? (i := 3) rfl))) (by decide) (backOf (W := 0) (rm4 l Z aw hw [] ((XT.ushr p4 (10 : Int32)) &&& (255 : Int32)).toUInt32.toUInt16.toUInt32.toInt32 cs h44 n0 Z46 F45_0 hcs (own_ch _)) hZ (hw _ (List.mem_of_getElem? (i := 3) rfl)) (hw _ (List.mem_of_getElem? (i := 2) rfl)) (by decide) (by decide)) (g := (mkF m 52 #[.val (.int p0), .val (.int p1), .val (.int p2), .val (.int p3), .val (.int p4), .val (.int dd), .val (.int rr), .val (.ref bR44), .unset, .unset, .unset, .unset, .unset, .unset, .unset, .unset, .unset] [(.int ((XT.ushr p4 (10 : Int32)) &&& (255 : Int32)).toUInt32.toUInt16.toUInt32.toInt32)])) rfl (by rw [hml]; rfl) (argsL := [(.int ((XT.ushr p4 (10 : Int32)) &&& (255 : Int32)).toUInt32.toUInt16.toUInt32.toInt32)]) (rest := []) (lenOf own_pd4 rfl) rfl (by show 2 * 0 + _ ≤ _; exact Nat.le_of_eq rfl) (hb hby at_52) (fun _ _ => ⟨rfl, e44, (by decide : 2 + 2 ≤ _), (by decide : 5 + 5 ≤ _)⟩)
      dsimp only [Pt.U, Pt.locs, Pt.cells, Pt.slots] at X47 l47 y47 z47 st47 hQ47
      subst l47 y47 z47
      obtain ⟨h47, e47⟩ : ∃ h, T47.heap = h := ⟨_, rfl⟩
      rw [e47] at hQ47
      obtain ⟨bR47, rfl, Nq47, K47⟩ := hQ47
      have N47 := Fr.app N44 Nq47
      have F48_0 := F45_0.ext (own_kext K47)
      have Z49 : n0 ≤ h47.size := Nat.le_trans Z46 K47.1
      refine own_by (fun _ k => st47 _ k) ?_
      show own_G _ _ _ _ _ _ _ (T47.setTop (mkF m 55 #[.val (.int p0), .val (.int p1), .val (.int p2), .val (.int p3), .val (.int p4), .val (.int dd), .val (.int rr), .val (.ref bR44), .unset, .unset, .unset, .unset, .unset, .unset, .unset, .unset, .unset] [(.ref bR47)]))
      refine own_by (fun _ k => XS.astore X47.here hx rfl (hb hby at_55) rfl rfl (l' := #[.val (.int p0), .val (.int p1), .val (.int p2), .val (.int p3), .val (.int p4), .val (.int dd), .val (.int rr), .val (.ref bR44), .val (.ref bR47), .unset, .unset, .unset, .unset, .unset, .unset, .unset, .unset]) rfl k) ?_
      show own_G _ _ _ _ _ _ _ (T47.setTop (mkF m 57 #[.val (.int p0), .val (.int p1), .val (.int p2), .val (.int p3), .val (.int p4), .val (.int dd), .val (.int rr), .val (.ref bR44), .val (.ref bR47), .unset, .unset, .unset, .unset, .unset, .unset, .unset, .unset] []))
      obtain ⟨T50, h50, X50, e50, E50, A50, D50, -, st50⟩ := newO X47 hx hZ hown (hw _ (List.mem_of_getElem? (i := 26) rfl)) (hw _ (List.mem_of_getElem? (i := 27) rfl)) (hw _ (List.mem_of_getElem? (i := 28) rfl)) e47 (g := (mkF m 57 #[.val (.int p0), .val (.int p1), .val (.int p2), .val (.int p3), .val (.int p4), .val (.int dd), .val (.int rr), .val (.ref bR44), .val (.ref bR47), .unset, .unset, .unset, .unset, .unset, .unset, .unset, .unset] [])) rfl (hb hby at_57) (by decide) (by decide)
      obtain ⟨b50, g50⟩ : ∃ z, z = h47.size := ⟨_, rfl⟩
      rw [← g50] at A50 D50 st50
      have g_b50 : n0 ≤ b50 := Nat.le_trans Z49 (Nat.le_of_eq g50.symm)
      refine own_by st50 ?_
      have F51_0 := F48_0.ext E50
      have Z52 : n0 ≤ h50.size := Nat.le_trans Z49 E50.1
      have F50_name : Fld Z h50 b50 "com/example/hedgerow/hedgerow/algorithm/Candidate" "name" "Ljava/lang/String;" .null := D50 (Or.inr (hw _ (List.mem_of_getElem? (i := 39) rfl))) (ty := (.object "java/lang/String")) (by decide)
      have F50_degree : Fld Z h50 b50 "com/example/hedgerow/hedgerow/algorithm/Candidate" "degree" "I" (.int (0 : Int32)) := D50 (Or.inr (hw _ (List.mem_of_getElem? (i := 41) rfl))) (ty := .int) (by decide)
      have F50_rank : Fld Z h50 b50 "com/example/hedgerow/hedgerow/algorithm/Candidate" "rank" "I" (.int (0 : Int32)) := D50 (Or.inr (hw _ (List.mem_of_getElem? (i := 43) rfl))) (ty := .int) (by decide)
      show own_G _ _ _ _ _ _ _ (T50.setTop (mkF m 60 #[.val (.int p0), .val (.int p1), .val (.int p2), .val (.int p3), .val (.int p4), .val (.int dd), .val (.int rr), .val (.ref bR44), .val (.ref bR47), .unset, .unset, .unset, .unset, .unset, .unset, .unset, .unset] [(.ref b50)]))
      refine own_by (fun _ k => XS.dup X50.here hx rfl (hb hby at_60) rfl rfl k) ?_
      show own_G _ _ _ _ _ _ _ (T50.setTop (mkF m 61 #[.val (.int p0), .val (.int p1), .val (.int p2), .val (.int p3), .val (.int p4), .val (.int dd), .val (.int rr), .val (.ref bR44), .val (.ref bR47), .unset, .unset, .unset, .unset, .unset, .unset, .unset, .unset] [(.ref b50), (.ref b50)]))
      refine own_by (fun _ k => XS.aload X50.here hx rfl (hb hby at_61) rfl rfl k) ?_
      show own_G _ _ _ _ _ _ _ (T50.setTop (mkF m 63 #[.val (.int p0), .val (.int p1), .val (.int p2), .val (.int p3), .val (.int p4), .val (.int dd), .val (.int rr), .val (.ref bR44), .val (.ref bR47), .unset, .unset, .unset, .unset, .unset, .unset, .unset, .unset] [(.ref bR44), (.ref b50), (.ref b50)]))
      refine own_by (fun _ k => XS.iloadN X50.here hx rfl (hb hby at_63) rfl  k) ?_
      show own_G _ _ _ _ _ _ _ (T50.setTop (mkF m 64 #[.val (.int p0), .val (.int p1), .val (.int p2), .val (.int p3), .val (.int p4), .val (.int dd), .val (.int rr), .val (.ref bR44), .val (.ref bR47), .unset, .unset, .unset, .unset, .unset, .unset, .unset, .unset] [(.int p0), (.ref bR44), (.ref b50), (.ref b50)]))
      refine own_by (fun _ k => XS.iloadN X50.here hx rfl (hb hby at_64) rfl  k) ?_
      show own_G _ _ _ _ _ _ _ (T50.setTop (mkF m 65 #[.val (.int p0), .val (.int p1), .val (.int p2), .val (.int p3), .val (.int p4), .val (.int dd), .val (.int rr), .val (.ref bR44), .val (.ref bR47), .unset, .unset, .unset, .unset, .unset, .unset, .unset, .unset] [(.int p1), (.int p0), (.ref bR44), (.ref b50), (.ref b50)]))
      obtain ⟨_, _, ⟨T53, L53, k53, n53⟩, -, X53, ⟨Lc53, hQ53, l53, y53, z53⟩, st53⟩ := X50.specialBack hx (y := (⟨"com/example/hedgerow/hedgerow/algorithm/Candidate", "<init>", "(Ljava/lang/String;II)V"⟩ : MethodName)) rfl hown (mvT hZ (hw _ (List.mem_of_getElem? (i := 29) rfl))) (mvT hZ (hw _ (List.mem_of_getElem? (i := 30) rfl))) (mvT hZ (hw _ (List.mem_of_getElem? (i := 31) rfl))) (by decide) (backOf (W := 1) (rm6 l Z aw hw [] b50 bR44 p0 p1 h50 n0 Z52 A50 F50_name F50_degree F50_rank g_b50) hZ (hw _ (List.mem_of_getElem? (i := 31) rfl)) (hw _ (List.mem_of_getElem? (i := 28) rfl)) (by decide) (by decide)) (g := (mkF m 65 #[.val (.int p0), .val (.int p1), .val (.int p2), .val (.int p3), .val (.int p4), .val (.int dd), .val (.int rr), .val (.ref bR44), .val (.ref bR47), .unset, .unset, .unset, .unset, .unset, .unset, .unset, .unset] [(.int p1), (.int p0), (.ref bR44), (.ref b50), (.ref b50)])) rfl (by rw [hml]; rfl) (Steps.refl _) (a := b50) (argsL := [(.ref bR44), (.int p0), (.int p1)]) (rest := [(.ref b50)]) (lenOf own_pd5 rfl) rfl (by show 2 * 0 + _ ≤ _; exact Nat.le_of_eq rfl) (hb hby at_65) (fun _ _ => ⟨rfl, e50, (by decide : 5 + 0 ≤ _), (by decide : 13 + 0 ≤ _)⟩)
      dsimp only [Pt.U, Pt.locs, Pt.cells, Pt.slots] at X53 l53 y53 z53 st53 hQ53
      subst l53 y53 z53
      obtain ⟨h53, e53⟩ : ∃ h, T53.heap = h := ⟨_, rfl⟩
      rw [e53] at hQ53
      obtain ⟨rfl, Nq53, K53, E53, G53_0, G53_1, G53_2⟩ := hQ53
      have N53 := Fr.app N47 Nq53
      have F54_1 := A50.keep K53
      have Z55 : n0 ≤ h53.size := Nat.le_trans Z52 K53.1
      refine own_by (fun _ k => st53.trans k) ?_
      show own_G _ _ _ _ _ _ _ (T53.setTop (mkF m 68 #[.val (.int p0), .val (.int p1), .val (.int p2), .val (.int p3), .val (.int p4), .val (.int dd), .val (.int rr), .val (.ref bR44), .val (.ref bR47), .unset, .unset, .unset, .unset, .unset, .unset, .unset, .unset] [(.ref b50)]))
      refine own_by (fun _ k => XS.astore X53.here hx rfl (hb hby at_68) rfl rfl (l' := #[.val (.int p0), .val (.int p1), .val (.int p2), .val (.int p3), .val (.int p4), .val (.int dd), .val (.int rr), .val (.ref bR44), .val (.ref bR47), .val (.ref b50), .unset, .unset, .unset, .unset, .unset, .unset, .unset]) rfl k) ?_
      show own_G _ _ _ _ _ _ _ (T53.setTop (mkF m 70 #[.val (.int p0), .val (.int p1), .val (.int p2), .val (.int p3), .val (.int p4), .val (.int dd), .val (.int rr), .val (.ref bR44), .val (.ref bR47), .val (.ref b50), .unset, .unset, .unset, .unset, .unset, .unset, .unset] []))
      obtain ⟨T56, h56, X56, e56, E56, A56, D56, -, st56⟩ := newO X53 hx hZ hown (hw _ (List.mem_of_getElem? (i := 26) rfl)) (hw _ (List.mem_of_getElem? (i := 27) rfl)) (hw _ (List.mem_of_getElem? (i := 28) rfl)) e53 (g := (mkF m 70 #[.val (.int p0), .val (.int p1), .val (.int p2), .val (.int p3), .val (.int p4), .val (.int dd), .val (.int rr), .val (.ref bR44), .val (.ref bR47), .val (.ref b50), .unset, .unset, .unset, .unset, .unset, .unset, .unset] [])) rfl (hb hby at_70) (by decide) (by decide)
      obtain ⟨b56, g56⟩ : ∃ z, z = h53.size := ⟨_, rfl⟩
      rw [← g56] at A56 D56 st56
      have ne_b50_b56 : b50 ≠ b56 := Nat.ne_of_lt (Nat.lt_of_lt_of_le E53.lt (Nat.le_of_eq g56.symm))
      have g_b56 : n0 ≤ b56 := Nat.le_trans Z55 (Nat.le_of_eq g56.symm)
      refine own_by st56 ?_
      have F57_0 := E53.ext E56
      have F57_1 := G53_0.ext E56
      have F57_2 := G53_1.ext E56
      have F57_3 := G53_2.ext E56
      have Z58 : n0 ≤ h56.size := Nat.le_trans Z55 E56.1
      have F56_name : Fld Z h56 b56 "com/example/hedgerow/hedgerow/algorithm/Candidate" "name" "Ljava/lang/String;" .null := D56 (Or.inr (hw _ (List.mem_of_getElem? (i := 39) rfl))) (ty := (.object "java/lang/String")) (by decide)
      have F56_degree : Fld Z h56 b56 "com/example/hedgerow/hedgerow/algorithm/Candidate" "degree" "I" (.int (0 : Int32)) := D56 (Or.inr (hw _ (List.mem_of_getElem? (i := 41) rfl))) (ty := .int) (by decide)
      have F56_rank : Fld Z h56 b56 "com/example/hedgerow/hedgerow/algorithm/Candidate" "rank" "I" (.int (0 : Int32)) := D56 (Or.inr (hw _ (List.mem_of_getElem? (i := 43) rfl))) (ty := .int) (by decide)
      show own_G _ _ _ _ _ _ _ (T56.setTop (mkF m 73 #[.val (.int p0), .val (.int p1), .val (.int p2), .val (.int p3), .val (.int p4), .val (.int dd), .val (.int rr), .val (.ref bR44), .val (.ref bR47), .val (.ref b50), .unset, .unset, .unset, .unset, .unset, .unset, .unset] [(.ref b56)]))
      refine own_by (fun _ k => XS.dup X56.here hx rfl (hb hby at_73) rfl rfl k) ?_
      show own_G _ _ _ _ _ _ _ (T56.setTop (mkF m 74 #[.val (.int p0), .val (.int p1), .val (.int p2), .val (.int p3), .val (.int p4), .val (.int dd), .val (.int rr), .val (.ref bR44), .val (.ref bR47), .val (.ref b50), .unset, .unset, .unset, .unset, .unset, .unset, .unset] [(.ref b56), (.ref b56)]))
      refine own_by (fun _ k => XS.aload X56.here hx rfl (hb hby at_74) rfl rfl k) ?_
      show own_G _ _ _ _ _ _ _ (T56.setTop (mkF m 76 #[.val (.int p0), .val (.int p1), .val (.int p2), .val (.int p3), .val (.int p4), .val (.int dd), .val (.int rr), .val (.ref bR44), .val (.ref bR47), .val (.ref b50), .unset, .unset, .unset, .unset, .unset, .unset, .unset] [(.ref bR47), (.ref b56), (.ref b56)]))
      refine own_by (fun _ k => XS.iload X56.here hx rfl (hb hby at_76) rfl  k) ?_
      show own_G _ _ _ _ _ _ _ (T56.setTop (mkF m 78 #[.val (.int p0), .val (.int p1), .val (.int p2), .val (.int p3), .val (.int p4), .val (.int dd), .val (.int rr), .val (.ref bR44), .val (.ref bR47), .val (.ref b50), .unset, .unset, .unset, .unset, .unset, .unset, .unset] [(.int dd), (.ref bR47), (.ref b56), (.ref b56)]))
      refine own_by (fun _ k => XS.iload X56.here hx rfl (hb hby at_78) rfl  k) ?_
      show own_G _ _ _ _ _ _ _ (T56.setTop (mkF m 80 #[.val (.int p0), .val (.int p1), .val (.int p2), .val (.int p3), .val (.int p4), .val (.int dd), .val (.int rr), .val (.ref bR44), .val (.ref bR47), .val (.ref b50), .unset, .unset, .unset, .unset, .unset, .unset, .unset] [(.int rr), (.int dd), (.ref bR47), (.ref b56), (.ref b56)]))
      obtain ⟨_, _, ⟨T59, L59, k59, n59⟩, -, X59, ⟨Lc59, hQ59, l59, y59, z59⟩, st59⟩ := X56.specialBack hx (y := (⟨"com/example/hedgerow/hedgerow/algorithm/Candidate", "<init>", "(Ljava/lang/String;II)V"⟩ : MethodName)) rfl hown (mvT hZ (hw _ (List.mem_of_getElem? (i := 29) rfl))) (mvT hZ (hw _ (List.mem_of_getElem? (i := 30) rfl))) (mvT hZ (hw _ (List.mem_of_getElem? (i := 31) rfl))) (by decide) (backOf (W := 1) (rm6 l Z aw hw [] b56 bR47 dd rr h56 n0 Z58 A56 F56_name F56_degree F56_rank g_b56) hZ (hw _ (List.mem_of_getElem? (i := 31) rfl)) (hw _ (List.mem_of_getElem? (i := 28) rfl)) (by decide) (by decide)) (g := (mkF m 80 #[.val (.int p0), .val (.int p1), .val (.int p2), .val (.int p3), .val (.int p4), .val (.int dd), .val (.int rr), .val (.ref bR44), .val (.ref bR47), .val (.ref b50), .unset, .unset, .unset, .unset, .unset, .unset, .unset] [(.int rr), (.int dd), (.ref bR47), (.ref b56), (.ref b56)])) rfl (by rw [hml]; rfl) (Steps.refl _) (a := b56) (argsL := [(.ref bR47), (.int dd), (.int rr)]) (rest := [(.ref b56)]) (lenOf own_pd5 rfl) rfl (by show 2 * 0 + _ ≤ _; exact Nat.le_of_eq rfl) (hb hby at_80) (fun _ _ => ⟨rfl, e56, (by decide : 6 + 0 ≤ _), (by decide : 16 + 0 ≤ _)⟩)
      dsimp only [Pt.U, Pt.locs, Pt.cells, Pt.slots] at X59 l59 y59 z59 st59 hQ59
      subst l59 y59 z59
      obtain ⟨h59, e59⟩ : ∃ h, T59.heap = h := ⟨_, rfl⟩
      rw [e59] at hQ59
      obtain ⟨rfl, Nq59, K59, E59, G59_0, G59_1, G59_2⟩ := hQ59
      have N59 := Fr.app N53 Nq59
      have F60_0 := F57_0.keep K59
      have F60_1 := F57_1.keep K59 (ninS ne_b50_b56 nin0)
      have F60_2 := F57_2.keep K59 (ninS ne_b50_b56 nin0)
      have F60_3 := F57_3.keep K59 (ninS ne_b50_b56 nin0)
      have F60_4 := A56.keep K59
      have Z61 : n0 ≤ h59.size := Nat.le_trans Z58 K59.1
      refine own_by (fun _ k => st59.trans k) ?_
      show own_G _ _ _ _ _ _ _ (T59.setTop (mkF m 83 #[.val (.int p0), .val (.int p1), .val (.int p2), .val (.int p3), .val (.int p4), .val (.int dd), .val (.int rr), .val (.ref bR44), .val (.ref bR47), .val (.ref b50), .unset, .unset, .unset, .unset, .unset, .unset, .unset] [(.ref b56)]))
      refine own_by (fun _ k => XS.astore X59.here hx rfl (hb hby at_83) rfl rfl (l' := #[.val (.int p0), .val (.int p1), .val (.int p2), .val (.int p3), .val (.int p4), .val (.int dd), .val (.int rr), .val (.ref bR44), .val (.ref bR47), .val (.ref b50), .val (.ref b56), .unset, .unset, .unset, .unset, .unset, .unset]) rfl k) ?_
      show own_G _ _ _ _ _ _ _ (T59.setTop (mkF m 85 #[.val (.int p0), .val (.int p1), .val (.int p2), .val (.int p3), .val (.int p4), .val (.int dd), .val (.int rr), .val (.ref bR44), .val (.ref bR47), .val (.ref b50), .val (.ref b56), .unset, .unset, .unset, .unset, .unset, .unset] []))
      refine own_by (fun _ k => XS.iloadN X59.here hx rfl (hb hby at_85) rfl  k) ?_
      show own_G _ _ _ _ _ _ _ (T59.setTop (mkF m 86 #[.val (.int p0), .val (.int p1), .val (.int p2), .val (.int p3), .val (.int p4), .val (.int dd), .val (.int rr), .val (.ref bR44), .val (.ref bR47), .val (.ref b50), .val (.ref b56), .unset, .unset, .unset, .unset, .unset, .unset] [(.int p0)]))
      refine own_by (fun _ k => XS.iloadN X59.here hx rfl (hb hby at_86) rfl  k) ?_
      show own_G _ _ _ _ _ _ _ (T59.setTop (mkF m 87 #[.val (.int p0), .val (.int p1), .val (.int p2), .val (.int p3), .val (.int p4), .val (.int dd), .val (.int rr), .val (.ref bR44), .val (.ref bR47), .val (.ref b50), .val (.ref b56), .unset, .unset, .unset, .unset, .unset, .unset] [(.int p1), (.int p0)]))
      obtain ⟨_, _, ⟨T62, L62, k62, n62⟩, -, X62, ⟨Lc62, hQ62, l62, y62, z62⟩, st62⟩ := Jvm.LawKit.callS X59 hx (y := (⟨"com/example/hedgerow/hedgerow/algorithm/CandidateBeatsPinLaw", "key", "(II)J"⟩ : MethodName)) hown (mvT hZ (hw _ (List.mem_of_getElem? (i := 44) rfl))) (mvT hZ (hw _ (List.mem_of_getElem? (i := 45) rfl))) (mvT hZ (hw _ (List.mem_of_getElem? (i := 46) rfl))) (mvT hZ (hw _ (List.mem_of_getElem? (i := 47) rfl))) (by decide) (backOf (W := 0) (rm7 l Z aw hw [] p0 p1 h59 n0 Z61 ) hZ (hw _ (List.mem_of_getElem? (i := 47) rfl)) (hw _ (List.mem_of_getElem? (i := 46) rfl)) (by decide) (by decide)) (g := (mkF m 87 #[.val (.int p0), .val (.int p1), .val (.int p2), .val (.int p3), .val (.int p4), .val (.int dd), .val (.int rr), .val (.ref bR44), .val (.ref bR47), .val (.ref b50), .val (.ref b56), .unset, .unset, .unset, .unset, .unset, .unset] [(.int p1), (.int p0)])) rfl (by rw [hml]; rfl) (argsL := [(.int p0), (.int p1)]) (rest := []) (lenOf own_pd6 rfl) rfl (by show 2 * 0 + _ ≤ _; exact Nat.le_of_eq rfl) (hb hby at_87) (fun _ _ => ⟨rfl, e59, (by decide : 6 + 0 ≤ _), (by decide : 16 + 0 ≤ _)⟩)
      dsimp only [Pt.U, Pt.locs, Pt.cells, Pt.slots] at X62 l62 y62 z62 st62 hQ62
      subst l62 y62 z62
      obtain ⟨rfl, Nq62, e62⟩ := hQ62
      have N62 := Fr.app N59 Nq62
      refine own_by (fun _ k => st62 _ k) ?_
      show own_G _ _ _ _ _ _ _ (T62.setTop (mkF m 90 #[.val (.int p0), .val (.int p1), .val (.int p2), .val (.int p3), .val (.int p4), .val (.int dd), .val (.int rr), .val (.ref bR44), .val (.ref bR47), .val (.ref b50), .val (.ref b56), .unset, .unset, .unset, .unset, .unset, .unset] [(.long (own_key p0 p1))]))
      refine own_by (fun _ k => XT.lstore X62.here hx rfl (hb hby at_90) rfl (l' := #[.val (.int p0), .val (.int p1), .val (.int p2), .val (.int p3), .val (.int p4), .val (.int dd), .val (.int rr), .val (.ref bR44), .val (.ref bR47), .val (.ref b50), .val (.ref b56), .val (.long (own_key p0 p1)), .second, .unset, .unset, .unset, .unset]) rfl k) ?_
      show own_G _ _ _ _ _ _ _ (T62.setTop (mkF m 92 #[.val (.int p0), .val (.int p1), .val (.int p2), .val (.int p3), .val (.int p4), .val (.int dd), .val (.int rr), .val (.ref bR44), .val (.ref bR47), .val (.ref b50), .val (.ref b56), .val (.long (own_key p0 p1)), .second, .unset, .unset, .unset, .unset] []))
      refine own_by (fun _ k => XS.iload X62.here hx rfl (hb hby at_92) rfl  k) ?_
      show own_G _ _ _ _ _ _ _ (T62.setTop (mkF m 94 #[.val (.int p0), .val (.int p1), .val (.int p2), .val (.int p3), .val (.int p4), .val (.int dd), .val (.int rr), .val (.ref bR44), .val (.ref bR47), .val (.ref b50), .val (.ref b56), .val (.long (own_key p0 p1)), .second, .unset, .unset, .unset, .unset] [(.int dd)]))
      refine own_by (fun _ k => XS.iload X62.here hx rfl (hb hby at_94) rfl  k) ?_
      show own_G _ _ _ _ _ _ _ (T62.setTop (mkF m 96 #[.val (.int p0), .val (.int p1), .val (.int p2), .val (.int p3), .val (.int p4), .val (.int dd), .val (.int rr), .val (.ref bR44), .val (.ref bR47), .val (.ref b50), .val (.ref b56), .val (.long (own_key p0 p1)), .second, .unset, .unset, .unset, .unset] [(.int rr), (.int dd)]))
      obtain ⟨_, _, ⟨T63, L63, k63, n63⟩, -, X63, ⟨Lc63, hQ63, l63, y63, z63⟩, st63⟩ := Jvm.LawKit.callS X62 hx (y := (⟨"com/example/hedgerow/hedgerow/algorithm/CandidateBeatsPinLaw", "key", "(II)J"⟩ : MethodName)) hown (mvT hZ (hw _ (List.mem_of_getElem? (i := 44) rfl))) (mvT hZ (hw _ (List.mem_of_getElem? (i := 45) rfl))) (mvT hZ (hw _ (List.mem_of_getElem? (i := 46) rfl))) (mvT hZ (hw _ (List.mem_of_getElem? (i := 47) rfl))) (by decide) (backOf (W := 0) (rm7 l Z aw hw [] dd rr h59 n0 Z61 ) hZ (hw _ (List.mem_of_getElem? (i := 47) rfl)) (hw _ (List.mem_of_getElem? (i := 46) rfl)) (by decide) (by decide)) (g := (mkF m 96 #[.val (.int p0), .val (.int p1), .val (.int p2), .val (.int p3), .val (.int p4), .val (.int dd), .val (.int rr), .val (.ref bR44), .val (.ref bR47), .val (.ref b50), .val (.ref b56), .val (.long (own_key p0 p1)), .second, .unset, .unset, .unset, .unset] [(.int rr), (.int dd)])) rfl (by rw [hml]; rfl) (argsL := [(.int dd), (.int rr)]) (rest := []) (lenOf own_pd6 rfl) rfl (by show 2 * 0 + _ ≤ _; exact Nat.le_of_eq rfl) (hb hby at_96) (fun _ _ => ⟨rfl, e62, (by decide : 6 + 0 ≤ _), (by decide : 16 + 0 ≤ _)⟩)
      dsimp only [Pt.U, Pt.locs, Pt.cells, Pt.slots] at X63 l63 y63 z63 st63 hQ63
      subst l63 y63 z63
      obtain ⟨rfl, Nq63, e63⟩ := hQ63
      have N63 := Fr.app N62 Nq63
      refine own_by (fun _ k => st63 _ k) ?_
      show own_G _ _ _ _ _ _ _ (T63.setTop (mkF m 99 #[.val (.int p0), .val (.int p1), .val (.int p2), .val (.int p3), .val (.int p4), .val (.int dd), .val (.int rr), .val (.ref bR44), .val (.ref bR47), .val (.ref b50), .val (.ref b56), .val (.long (own_key p0 p1)), .second, .unset, .unset, .unset, .unset] [(.long (own_key dd rr))]))
      refine own_by (fun _ k => XT.lstore X63.here hx rfl (hb hby at_99) rfl (l' := #[.val (.int p0), .val (.int p1), .val (.int p2), .val (.int p3), .val (.int p4), .val (.int dd), .val (.int rr), .val (.ref bR44), .val (.ref bR47), .val (.ref b50), .val (.ref b56), .val (.long (own_key p0 p1)), .second, .val (.long (own_key dd rr)), .second, .unset, .unset]) rfl k) ?_
      show own_G _ _ _ _ _ _ _ (T63.setTop (mkF m 101 #[.val (.int p0), .val (.int p1), .val (.int p2), .val (.int p3), .val (.int p4), .val (.int dd), .val (.int rr), .val (.ref bR44), .val (.ref bR47), .val (.ref b50), .val (.ref b56), .val (.long (own_key p0 p1)), .second, .val (.long (own_key dd rr)), .second, .unset, .unset] []))
      refine own_by (fun _ k => XS.aload X63.here hx rfl (hb hby at_101) rfl rfl k) ?_
      show own_G _ _ _ _ _ _ _ (T63.setTop (mkF m 103 #[.val (.int p0), .val (.int p1), .val (.int p2), .val (.int p3), .val (.int p4), .val (.int dd), .val (.int rr), .val (.ref bR44), .val (.ref bR47), .val (.ref b50), .val (.ref b56), .val (.long (own_key p0 p1)), .second, .val (.long (own_key dd rr)), .second, .unset, .unset] [(.ref b50)]))
      refine own_by (fun _ k => XS.aload X63.here hx rfl (hb hby at_103) rfl rfl k) ?_
      show own_G _ _ _ _ _ _ _ (T63.setTop (mkF m 105 #[.val (.int p0), .val (.int p1), .val (.int p2), .val (.int p3), .val (.int p4), .val (.int dd), .val (.int rr), .val (.ref bR44), .val (.ref bR47), .val (.ref b50), .val (.ref b56), .val (.long (own_key p0 p1)), .second, .val (.long (own_key dd rr)), .second, .unset, .unset] [(.ref b56), (.ref b50)]))
      obtain ⟨cq64, kq64, q64a, q64b, q64c⟩ := isOf hZ e63 F60_0
      obtain ⟨_, _, ⟨T64, L64, k64, n64⟩, -, X64, ⟨Lc64, hQ64, l64, y64, z64⟩, st64⟩ := X63.virtualBack hx (y := (⟨"com/example/hedgerow/hedgerow/algorithm/Candidate", "beats", "(Lcom/example/hedgerow/hedgerow/algorithm/Candidate;)Z"⟩ : MethodName)) (z := (⟨"com/example/hedgerow/hedgerow/algorithm/Candidate", "beats", "(Lcom/example/hedgerow/hedgerow/algorithm/Candidate;)Z"⟩ : MethodName)) hown (mvT hZ (hw _ (List.mem_of_getElem? (i := 50) rfl))) (mvT hZ (hw _ (List.mem_of_getElem? (i := 51) rfl))) (notFace_of_selects (args := #[]) (mvT hZ (hw _ (List.mem_of_getElem? (i := 53) rfl)))) (mvT hZ (hw _ (List.mem_of_getElem? (i := 53) rfl))) (mvT hZ (hw _ (List.mem_of_getElem? (i := 52) rfl))) (by decide) (backOf (W := 0) (rm8 l Z aw hw [] b50 b56 p0 p1 dd rr h59 n0 Z61 F60_2 F60_3 G59_1 G59_2) hZ (hw _ (List.mem_of_getElem? (i := 54) rfl)) (hw _ (List.mem_of_getElem? (i := 28) rfl)) (by decide) (by decide)) q64a q64c (g := (mkF m 105 #[.val (.int p0), .val (.int p1), .val (.int p2), .val (.int p3), .val (.int p4), .val (.int dd), .val (.int rr), .val (.ref bR44), .val (.ref bR47), .val (.ref b50), .val (.ref b56), .val (.long (own_key p0 p1)), .second, .val (.long (own_key dd rr)), .second, .unset, .unset] [(.ref b56), (.ref b50)])) rfl (by rw [hml]; rfl) (Steps.refl _) (argsL := [(.ref b56)]) (rest := []) (lenOf own_pd7 rfl) rfl (by show 2 * 0 + _ ≤ _; exact Nat.le_of_eq rfl) (hb hby at_105) (fun _ _ => ⟨rfl, e63, (by decide : 6 + 0 ≤ _), (by decide : 16 + 0 ≤ _)⟩)
      dsimp only [Pt.U, Pt.locs, Pt.cells, Pt.slots] at X64 l64 y64 z64 st64 hQ64
      subst l64 y64 z64
      obtain ⟨rfl, Nq64, e64⟩ := hQ64
      have N64 := Fr.app N63 Nq64
      refine own_by (fun _ k => st64.trans k) ?_
      show own_G _ _ _ _ _ _ _ (T64.setTop (mkF m 108 #[.val (.int p0), .val (.int p1), .val (.int p2), .val (.int p3), .val (.int p4), .val (.int dd), .val (.int rr), .val (.ref bR44), .val (.ref bR47), .val (.ref b50), .val (.ref b56), .val (.long (own_key p0 p1)), .second, .val (.long (own_key dd rr)), .second, .unset, .unset] [(.int (own_beats p0 p1 dd rr))]))
      refine own_by (fun _ k => XS.istore X64.here hx rfl (hb hby at_108) rfl (l' := #[.val (.int p0), .val (.int p1), .val (.int p2), .val (.int p3), .val (.int p4), .val (.int dd), .val (.int rr), .val (.ref bR44), .val (.ref bR47), .val (.ref b50), .val (.ref b56), .val (.long (own_key p0 p1)), .second, .val (.long (own_key dd rr)), .second, .val (.int (own_beats p0 p1 dd rr)), .unset]) rfl k) ?_
      show own_G _ _ _ _ _ _ _ (T64.setTop (mkF m 110 #[.val (.int p0), .val (.int p1), .val (.int p2), .val (.int p3), .val (.int p4), .val (.int dd), .val (.int rr), .val (.ref bR44), .val (.ref bR47), .val (.ref b50), .val (.ref b56), .val (.long (own_key p0 p1)), .second, .val (.long (own_key dd rr)), .second, .val (.int (own_beats p0 p1 dd rr)), .unset] []))
      refine own_by (fun _ k => XS.aload X64.here hx rfl (hb hby at_110) rfl rfl k) ?_
      show own_G _ _ _ _ _ _ _ (T64.setTop (mkF m 112 #[.val (.int p0), .val (.int p1), .val (.int p2), .val (.int p3), .val (.int p4), .val (.int dd), .val (.int rr), .val (.ref bR44), .val (.ref bR47), .val (.ref b50), .val (.ref b56), .val (.long (own_key p0 p1)), .second, .val (.long (own_key dd rr)), .second, .val (.int (own_beats p0 p1 dd rr)), .unset] [(.ref b56)]))
      refine own_by (fun _ k => XS.aload X64.here hx rfl (hb hby at_112) rfl rfl k) ?_
      show own_G _ _ _ _ _ _ _ (T64.setTop (mkF m 114 #[.val (.int p0), .val (.int p1), .val (.int p2), .val (.int p3), .val (.int p4), .val (.int dd), .val (.int rr), .val (.ref bR44), .val (.ref bR47), .val (.ref b50), .val (.ref b56), .val (.long (own_key p0 p1)), .second, .val (.long (own_key dd rr)), .second, .val (.int (own_beats p0 p1 dd rr)), .unset] [(.ref b50), (.ref b56)]))
      obtain ⟨cq65, kq65, q65a, q65b, q65c⟩ := isOf hZ e64 E59
      obtain ⟨_, _, ⟨T65, L65, k65, n65⟩, -, X65, ⟨Lc65, hQ65, l65, y65, z65⟩, st65⟩ := X64.virtualBack hx (y := (⟨"com/example/hedgerow/hedgerow/algorithm/Candidate", "beats", "(Lcom/example/hedgerow/hedgerow/algorithm/Candidate;)Z"⟩ : MethodName)) (z := (⟨"com/example/hedgerow/hedgerow/algorithm/Candidate", "beats", "(Lcom/example/hedgerow/hedgerow/algorithm/Candidate;)Z"⟩ : MethodName)) hown (mvT hZ (hw _ (List.mem_of_getElem? (i := 50) rfl))) (mvT hZ (hw _ (List.mem_of_getElem? (i := 51) rfl))) (notFace_of_selects (args := #[]) (mvT hZ (hw _ (List.mem_of_getElem? (i := 53) rfl)))) (mvT hZ (hw _ (List.mem_of_getElem? (i := 53) rfl))) (mvT hZ (hw _ (List.mem_of_getElem? (i := 52) rfl))) (by decide) (backOf (W := 0) (rm8 l Z aw hw [] b56 b50 dd rr p0 p1 h59 n0 Z61 G59_1 G59_2 F60_2 F60_3) hZ (hw _ (List.mem_of_getElem? (i := 54) rfl)) (hw _ (List.mem_of_getElem? (i := 28) rfl)) (by decide) (by decide)) q65a q65c (g := (mkF m 114 #[.val (.int p0), .val (.int p1), .val (.int p2), .val (.int p3), .val (.int p4), .val (.int dd), .val (.int rr), .val (.ref bR44), .val (.ref bR47), .val (.ref b50), .val (.ref b56), .val (.long (own_key p0 p1)), .second, .val (.long (own_key dd rr)), .second, .val (.int (own_beats p0 p1 dd rr)), .unset] [(.ref b50), (.ref b56)])) rfl (by rw [hml]; rfl) (Steps.refl _) (argsL := [(.ref b50)]) (rest := []) (lenOf own_pd7 rfl) rfl (by show 2 * 0 + _ ≤ _; exact Nat.le_of_eq rfl) (hb hby at_114) (fun _ _ => ⟨rfl, e64, (by decide : 6 + 0 ≤ _), (by decide : 16 + 0 ≤ _)⟩)
      dsimp only [Pt.U, Pt.locs, Pt.cells, Pt.slots] at X65 l65 y65 z65 st65 hQ65
      subst l65 y65 z65
      obtain ⟨rfl, Nq65, e65⟩ := hQ65
      have N65 := Fr.app N64 Nq65
      refine own_by (fun _ k => st65.trans k) ?_
      show own_G _ _ _ _ _ _ _ (T65.setTop (mkF m 117 #[.val (.int p0), .val (.int p1), .val (.int p2), .val (.int p3), .val (.int p4), .val (.int dd), .val (.int rr), .val (.ref bR44), .val (.ref bR47), .val (.ref b50), .val (.ref b56), .val (.long (own_key p0 p1)), .second, .val (.long (own_key dd rr)), .second, .val (.int (own_beats p0 p1 dd rr)), .unset] [(.int (own_beats dd rr p0 p1))]))
      refine own_by (fun _ k => XS.istore X65.here hx rfl (hb hby at_117) rfl (l' := #[.val (.int p0), .val (.int p1), .val (.int p2), .val (.int p3), .val (.int p4), .val (.int dd), .val (.int rr), .val (.ref bR44), .val (.ref bR47), .val (.ref b50), .val (.ref b56), .val (.long (own_key p0 p1)), .second, .val (.long (own_key dd rr)), .second, .val (.int (own_beats p0 p1 dd rr)), .val (.int (own_beats dd rr p0 p1))]) rfl k) ?_
      show own_G _ _ _ _ _ _ _ (T65.setTop (mkF m 119 #[.val (.int p0), .val (.int p1), .val (.int p2), .val (.int p3), .val (.int p4), .val (.int dd), .val (.int rr), .val (.ref bR44), .val (.ref bR47), .val (.ref b50), .val (.ref b56), .val (.long (own_key p0 p1)), .second, .val (.long (own_key dd rr)), .second, .val (.int (own_beats p0 p1 dd rr)), .val (.int (own_beats dd rr p0 p1))] []))
      refine own_by (fun _ k => XS.iload X65.here hx rfl (hb hby at_119) rfl  k) ?_
      have J134 : ∀ (Tj66 : State) (lj66 : List Loc) (Xj66 : Stand p l e room_1 s m #[(.int p0), (.int p1), (.int p2), (.int p3), (.int p4)] below meth c Tj66 lj66 6 16) (Nj66 : Fr n0 lj66) (ej66 : Tj66.heap = h59) (b1 : Int32) (hb1 : b1 = if own_key dd rr < own_key p0 p1 then 1 else 0), own_G p.tables e below s (own_Q0 Z p0 p1 p2 p3 p4 cs h0 n0) room_1.cells room_1.slots (Tj66.setTop (mkF m 134 #[.val (.int p0), .val (.int p1), .val (.int p2), .val (.int p3), .val (.int p4), .val (.int dd), .val (.int rr), .val (.ref bR44), .val (.ref bR47), .val (.ref b50), .val (.ref b56), .val (.long (own_key p0 p1)), .second, .val (.long (own_key dd rr)), .second, .val (.int (own_beats p0 p1 dd rr)), .val (.int (own_beats dd rr p0 p1))] [(.int b1), (.int (own_beats p0 p1 dd rr))])) := by
        intro Tj66 lj66 Xj66 Nj66 ej66 b1 hb1
        show own_G _ _ _ _ _ _ _ (Tj66.setTop (mkF m 134 #[.val (.int p0), .val (.int p1), .val (.int p2), .val (.int p3), .val (.int p4), .val (.int dd), .val (.int rr), .val (.ref bR44), .val (.ref bR47), .val (.ref b50), .val (.ref b56), .val (.long (own_key p0 p1)), .second, .val (.long (own_key dd rr)), .second, .val (.int (own_beats p0 p1 dd rr)), .val (.int (own_beats dd rr p0 p1))] [(.int b1), (.int (own_beats p0 p1 dd rr))]))
        have hc134 : (own_beats p0 p1 dd rr) = b1 := (by rw [hb1]; exact own_cmp _ _ _ _)
        refine own_by (fun _ k => XS.icmpNo Xj66.here hx rfl (hb hby at_134) rfl (XT.ii_ne_f hc134) k) ?_
        show own_G _ _ _ _ _ _ _ (Tj66.setTop (mkF m 137 #[.val (.int p0), .val (.int p1), .val (.int p2), .val (.int p3), .val (.int p4), .val (.int dd), .val (.int rr), .val (.ref bR44), .val (.ref bR47), .val (.ref b50), .val (.ref b56), .val (.long (own_key p0 p1)), .second, .val (.long (own_key dd rr)), .second, .val (.int (own_beats p0 p1 dd rr)), .val (.int (own_beats dd rr p0 p1))] []))
        refine own_by (fun _ k => XS.iload Xj66.here hx rfl (hb hby at_137) rfl  k) ?_
        have J152 : ∀ (Tj67 : State) (lj67 : List Loc) (Xj67 : Stand p l e room_1 s m #[(.int p0), (.int p1), (.int p2), (.int p3), (.int p4)] below meth c Tj67 lj67 6 16) (Nj67 : Fr n0 lj67) (ej67 : Tj67.heap = h59) (b2 : Int32) (hb2 : b2 = if own_key p0 p1 < own_key dd rr then 1 else 0), own_G p.tables e below s (own_Q0 Z p0 p1 p2 p3 p4 cs h0 n0) room_1.cells room_1.slots (Tj67.setTop (mkF m 152 #[.val (.int p0), .val (.int p1), .val (.int p2), .val (.int p3), .val (.int p4), .val (.int dd), .val (.int rr), .val (.ref bR44), .val (.ref bR47), .val (.ref b50), .val (.ref b56), .val (.long (own_key p0 p1)), .second, .val (.long (own_key dd rr)), .second, .val (.int (own_beats p0 p1 dd rr)), .val (.int (own_beats dd rr p0 p1))] [(.int b2), (.int (own_beats dd rr p0 p1))])) := by
          intro Tj67 lj67 Xj67 Nj67 ej67 b2 hb2
          show own_G _ _ _ _ _ _ _ (Tj67.setTop (mkF m 152 #[.val (.int p0), .val (.int p1), .val (.int p2), .val (.int p3), .val (.int p4), .val (.int dd), .val (.int rr), .val (.ref bR44), .val (.ref bR47), .val (.ref b50), .val (.ref b56), .val (.long (own_key p0 p1)), .second, .val (.long (own_key dd rr)), .second, .val (.int (own_beats p0 p1 dd rr)), .val (.int (own_beats dd rr p0 p1))] [(.int b2), (.int (own_beats dd rr p0 p1))]))
          have hc152 : (own_beats dd rr p0 p1) = b2 := (by rw [hb2]; exact own_cmp _ _ _ _)
          refine own_by (fun _ k => XS.icmpNo Xj67.here hx rfl (hb hby at_152) rfl (XT.ii_ne_f hc152) k) ?_
          show own_G _ _ _ _ _ _ _ (Tj67.setTop (mkF m 155 #[.val (.int p0), .val (.int p1), .val (.int p2), .val (.int p3), .val (.int p4), .val (.int dd), .val (.int rr), .val (.ref bR44), .val (.ref bR47), .val (.ref b50), .val (.ref b56), .val (.long (own_key p0 p1)), .second, .val (.long (own_key dd rr)), .second, .val (.int (own_beats p0 p1 dd rr)), .val (.int (own_beats dd rr p0 p1))] []))
          refine own_by (fun _ k => XS.iconst Xj67.here hx rfl (hb hby at_155) k) ?_
          show own_G _ _ _ _ _ _ _ (Tj67.setTop (mkF m 156 #[.val (.int p0), .val (.int p1), .val (.int p2), .val (.int p3), .val (.int p4), .val (.int dd), .val (.int rr), .val (.ref bR44), .val (.ref bR47), .val (.ref b50), .val (.ref b56), .val (.long (own_key p0 p1)), .second, .val (.long (own_key dd rr)), .second, .val (.int (own_beats p0 p1 dd rr)), .val (.int (own_beats dd rr p0 p1))] [(.int (1 : Int32))]))
          refine own_by (fun _ k => XS.goto Xj67.here hx rfl (pc0 := 156) (pc' := 160) rfl (hb hby at_156) (by decide) (by decide) k) ?_
          show own_G _ _ _ _ _ _ _ (Tj67.setTop (mkF m 160 #[.val (.int p0), .val (.int p1), .val (.int p2), .val (.int p3), .val (.int p4), .val (.int dd), .val (.int rr), .val (.ref bR44), .val (.ref bR47), .val (.ref b50), .val (.ref b56), .val (.long (own_key p0 p1)), .second, .val (.long (own_key dd rr)), .second, .val (.int (own_beats p0 p1 dd rr)), .val (.int (own_beats dd rr p0 p1))] [(.int (1 : Int32))]))
          exact own_end Xj67 (v := some (.int (nar .boolean (1 : Int32)))) (fun h => by rw [Bd.returns] at h; cases h) (BodyLoose.notSynchronized Bd) (fun fs hr => retN Xj67 hx (t := .boolean) Bd.returns (by simp) (hb hby at_160) hr) (by rw [ej67]; exact ⟨rfl, Nj67⟩) (by decide) (by decide)
        show own_G _ _ _ _ _ _ _ (Tj66.setTop (mkF m 139 #[.val (.int p0), .val (.int p1), .val (.int p2), .val (.int p3), .val (.int p4), .val (.int dd), .val (.int rr), .val (.ref bR44), .val (.ref bR47), .val (.ref b50), .val (.ref b56), .val (.long (own_key p0 p1)), .second, .val (.long (own_key dd rr)), .second, .val (.int (own_beats p0 p1 dd rr)), .val (.int (own_beats dd rr p0 p1))] [(.int (own_beats dd rr p0 p1))]))
        refine own_by (fun _ k => XT.lload Xj66.here hx rfl (hb hby at_139) rfl  k) ?_
        show own_G _ _ _ _ _ _ _ (Tj66.setTop (mkF m 141 #[.val (.int p0), .val (.int p1), .val (.int p2), .val (.int p3), .val (.int p4), .val (.int dd), .val (.int rr), .val (.ref bR44), .val (.ref bR47), .val (.ref b50), .val (.ref b56), .val (.long (own_key p0 p1)), .second, .val (.long (own_key dd rr)), .second, .val (.int (own_beats p0 p1 dd rr)), .val (.int (own_beats dd rr p0 p1))] [(.long (own_key dd rr)), (.int (own_beats dd rr p0 p1))]))
        refine own_by (fun _ k => XT.lload Xj66.here hx rfl (hb hby at_141) rfl  k) ?_
        show own_G _ _ _ _ _ _ _ (Tj66.setTop (mkF m 143 #[.val (.int p0), .val (.int p1), .val (.int p2), .val (.int p3), .val (.int p4), .val (.int dd), .val (.int rr), .val (.ref bR44), .val (.ref bR47), .val (.ref b50), .val (.ref b56), .val (.long (own_key p0 p1)), .second, .val (.long (own_key dd rr)), .second, .val (.int (own_beats p0 p1 dd rr)), .val (.int (own_beats dd rr p0 p1))] [(.long (own_key p0 p1)), (.long (own_key dd rr)), (.int (own_beats dd rr p0 p1))]))
        refine own_by (fun _ k => XT.lcmp Xj66.here hx rfl (hb hby at_143) rfl k) ?_
        show own_G _ _ _ _ _ _ _ (Tj66.setTop (mkF m 144 #[.val (.int p0), .val (.int p1), .val (.int p2), .val (.int p3), .val (.int p4), .val (.int dd), .val (.int rr), .val (.ref bR44), .val (.ref bR47), .val (.ref b50), .val (.ref b56), .val (.long (own_key p0 p1)), .second, .val (.long (own_key dd rr)), .second, .val (.int (own_beats p0 p1 dd rr)), .val (.int (own_beats dd rr p0 p1))] [(.int (XT.cmpL (own_key dd rr) (own_key p0 p1))), (.int (own_beats dd rr p0 p1))]))
        by_cases hc144 : (own_key p0 p1) < (own_key dd rr)
        · refine own_by (fun _ k => XS.ifNo Xj66.here hx rfl (hb hby at_144) rfl (XT.ll_le_f hc144) k) ?_
          show own_G _ _ _ _ _ _ _ (Tj66.setTop (mkF m 147 #[.val (.int p0), .val (.int p1), .val (.int p2), .val (.int p3), .val (.int p4), .val (.int dd), .val (.int rr), .val (.ref bR44), .val (.ref bR47), .val (.ref b50), .val (.ref b56), .val (.long (own_key p0 p1)), .second, .val (.long (own_key dd rr)), .second, .val (.int (own_beats p0 p1 dd rr)), .val (.int (own_beats dd rr p0 p1))] [(.int (own_beats dd rr p0 p1))]))
          refine own_by (fun _ k => XS.iconst Xj66.here hx rfl (hb hby at_147) k) ?_
          show own_G _ _ _ _ _ _ _ (Tj66.setTop (mkF m 148 #[.val (.int p0), .val (.int p1), .val (.int p2), .val (.int p3), .val (.int p4), .val (.int dd), .val (.int rr), .val (.ref bR44), .val (.ref bR47), .val (.ref b50), .val (.ref b56), .val (.long (own_key p0 p1)), .second, .val (.long (own_key dd rr)), .second, .val (.int (own_beats p0 p1 dd rr)), .val (.int (own_beats dd rr p0 p1))] [(.int (1 : Int32)), (.int (own_beats dd rr p0 p1))]))
          refine own_by (fun _ k => XS.goto Xj66.here hx rfl (pc0 := 148) (pc' := 152) rfl (hb hby at_148) (by decide) (by decide) k) ?_
          exact J152 Tj66 _ Xj66 Nj66 ej66 (1 : Int32) (by simp only [if_pos hc144])
        · refine own_by (fun _ k => XS.ifYes Xj66.here hx rfl (pc0 := 144) (pc' := 151) rfl (hb hby at_144) rfl (XT.ll_le_t hc144) (by decide) (by decide) k) ?_
          show own_G _ _ _ _ _ _ _ (Tj66.setTop (mkF m 151 #[.val (.int p0), .val (.int p1), .val (.int p2), .val (.int p3), .val (.int p4), .val (.int dd), .val (.int rr), .val (.ref bR44), .val (.ref bR47), .val (.ref b50), .val (.ref b56), .val (.long (own_key p0 p1)), .second, .val (.long (own_key dd rr)), .second, .val (.int (own_beats p0 p1 dd rr)), .val (.int (own_beats dd rr p0 p1))] [(.int (own_beats dd rr p0 p1))]))
          refine own_by (fun _ k => XS.iconst Xj66.here hx rfl (hb hby at_151) k) ?_
          exact J152 Tj66 _ Xj66 Nj66 ej66 (0 : Int32) (by simp only [if_neg hc144])
      show own_G _ _ _ _ _ _ _ (T65.setTop (mkF m 121 #[.val (.int p0), .val (.int p1), .val (.int p2), .val (.int p3), .val (.int p4), .val (.int dd), .val (.int rr), .val (.ref bR44), .val (.ref bR47), .val (.ref b50), .val (.ref b56), .val (.long (own_key p0 p1)), .second, .val (.long (own_key dd rr)), .second, .val (.int (own_beats p0 p1 dd rr)), .val (.int (own_beats dd rr p0 p1))] [(.int (own_beats p0 p1 dd rr))]))
      refine own_by (fun _ k => XT.lload X65.here hx rfl (hb hby at_121) rfl  k) ?_
      show own_G _ _ _ _ _ _ _ (T65.setTop (mkF m 123 #[.val (.int p0), .val (.int p1), .val (.int p2), .val (.int p3), .val (.int p4), .val (.int dd), .val (.int rr), .val (.ref bR44), .val (.ref bR47), .val (.ref b50), .val (.ref b56), .val (.long (own_key p0 p1)), .second, .val (.long (own_key dd rr)), .second, .val (.int (own_beats p0 p1 dd rr)), .val (.int (own_beats dd rr p0 p1))] [(.long (own_key p0 p1)), (.int (own_beats p0 p1 dd rr))]))
      refine own_by (fun _ k => XT.lload X65.here hx rfl (hb hby at_123) rfl  k) ?_
      show own_G _ _ _ _ _ _ _ (T65.setTop (mkF m 125 #[.val (.int p0), .val (.int p1), .val (.int p2), .val (.int p3), .val (.int p4), .val (.int dd), .val (.int rr), .val (.ref bR44), .val (.ref bR47), .val (.ref b50), .val (.ref b56), .val (.long (own_key p0 p1)), .second, .val (.long (own_key dd rr)), .second, .val (.int (own_beats p0 p1 dd rr)), .val (.int (own_beats dd rr p0 p1))] [(.long (own_key dd rr)), (.long (own_key p0 p1)), (.int (own_beats p0 p1 dd rr))]))
      refine own_by (fun _ k => XT.lcmp X65.here hx rfl (hb hby at_125) rfl k) ?_
      show own_G _ _ _ _ _ _ _ (T65.setTop (mkF m 126 #[.val (.int p0), .val (.int p1), .val (.int p2), .val (.int p3), .val (.int p4), .val (.int dd), .val (.int rr), .val (.ref bR44), .val (.ref bR47), .val (.ref b50), .val (.ref b56), .val (.long (own_key p0 p1)), .second, .val (.long (own_key dd rr)), .second, .val (.int (own_beats p0 p1 dd rr)), .val (.int (own_beats dd rr p0 p1))] [(.int (XT.cmpL (own_key p0 p1) (own_key dd rr))), (.int (own_beats p0 p1 dd rr))]))
      by_cases hc126 : (own_key dd rr) < (own_key p0 p1)
      · refine own_by (fun _ k => XS.ifNo X65.here hx rfl (hb hby at_126) rfl (XT.ll_le_f hc126) k) ?_
        show own_G _ _ _ _ _ _ _ (T65.setTop (mkF m 129 #[.val (.int p0), .val (.int p1), .val (.int p2), .val (.int p3), .val (.int p4), .val (.int dd), .val (.int rr), .val (.ref bR44), .val (.ref bR47), .val (.ref b50), .val (.ref b56), .val (.long (own_key p0 p1)), .second, .val (.long (own_key dd rr)), .second, .val (.int (own_beats p0 p1 dd rr)), .val (.int (own_beats dd rr p0 p1))] [(.int (own_beats p0 p1 dd rr))]))
        refine own_by (fun _ k => XS.iconst X65.here hx rfl (hb hby at_129) k) ?_
        show own_G _ _ _ _ _ _ _ (T65.setTop (mkF m 130 #[.val (.int p0), .val (.int p1), .val (.int p2), .val (.int p3), .val (.int p4), .val (.int dd), .val (.int rr), .val (.ref bR44), .val (.ref bR47), .val (.ref b50), .val (.ref b56), .val (.long (own_key p0 p1)), .second, .val (.long (own_key dd rr)), .second, .val (.int (own_beats p0 p1 dd rr)), .val (.int (own_beats dd rr p0 p1))] [(.int (1 : Int32)), (.int (own_beats p0 p1 dd rr))]))
        refine own_by (fun _ k => XS.goto X65.here hx rfl (pc0 := 130) (pc' := 134) rfl (hb hby at_130) (by decide) (by decide) k) ?_
        exact J134 T65 _ X65 N65 e65 (1 : Int32) (by simp only [if_pos hc126])
      · refine own_by (fun _ k => XS.ifYes X65.here hx rfl (pc0 := 126) (pc' := 133) rfl (hb hby at_126) rfl (XT.ll_le_t hc126) (by decide) (by decide) k) ?_
        show own_G _ _ _ _ _ _ _ (T65.setTop (mkF m 133 #[.val (.int p0), .val (.int p1), .val (.int p2), .val (.int p3), .val (.int p4), .val (.int dd), .val (.int rr), .val (.ref bR44), .val (.ref bR47), .val (.ref b50), .val (.ref b56), .val (.long (own_key p0 p1)), .second, .val (.long (own_key dd rr)), .second, .val (.int (own_beats p0 p1 dd rr)), .val (.int (own_beats dd rr p0 p1))] [(.int (own_beats p0 p1 dd rr))]))
        refine own_by (fun _ k => XS.iconst X65.here hx rfl (hb hby at_133) k) ?_
        exact J134 T65 _ X65 N65 e65 (0 : Int32) (by simp only [if_neg hc126])
    show own_G _ _ _ _ _ _ _ (Tj42.setTop (mkF m 14 #[.val (.int p0), .val (.int p1), .val (.int p2), .val (.int p3), .val (.int p4), .val (.int dd), .unset, .unset, .unset, .unset, .unset, .unset, .unset, .unset, .unset, .unset, .unset] []))
    refine own_by (fun _ k => XS.iload Xj42.here hx rfl (hb hby at_14) rfl  k) ?_
    show own_G _ _ _ _ _ _ _ (Tj42.setTop (mkF m 16 #[.val (.int p0), .val (.int p1), .val (.int p2), .val (.int p3), .val (.int p4), .val (.int dd), .unset, .unset, .unset, .unset, .unset, .unset, .unset, .unset, .unset, .unset, .unset] [(.int p4)]))
    refine own_by (fun _ k => XS.iconst Xj42.here hx rfl (hb hby at_16) k) ?_
    show own_G _ _ _ _ _ _ _ (Tj42.setTop (mkF m 17 #[.val (.int p0), .val (.int p1), .val (.int p2), .val (.int p3), .val (.int p4), .val (.int dd), .unset, .unset, .unset, .unset, .unset, .unset, .unset, .unset, .unset, .unset, .unset] [(.int (2 : Int32)), (.int p4)]))
    refine own_by (fun _ k => XS.iand Xj42.here hx rfl (hb hby at_17) rfl k) ?_
    show own_G _ _ _ _ _ _ _ (Tj42.setTop (mkF m 18 #[.val (.int p0), .val (.int p1), .val (.int p2), .val (.int p3), .val (.int p4), .val (.int dd), .unset, .unset, .unset, .unset, .unset, .unset, .unset, .unset, .unset, .unset, .unset] [(.int (p4 &&& (2 : Int32)))]))
    by_cases hc18 : (p4 &&& (2 : Int32)) = (0 : Int32)
    · refine own_by (fun _ k => XS.ifYes Xj42.here hx rfl (pc0 := 18) (pc' := 25) rfl (hb hby at_18) rfl (XT.i0_eq_t hc18) (by decide) (by decide) k) ?_
      show own_G _ _ _ _ _ _ _ (Tj42.setTop (mkF m 25 #[.val (.int p0), .val (.int p1), .val (.int p2), .val (.int p3), .val (.int p4), .val (.int dd), .unset, .unset, .unset, .unset, .unset, .unset, .unset, .unset, .unset, .unset, .unset] []))
      refine own_by (fun _ k => XS.iloadN Xj42.here hx rfl (hb hby at_25) rfl  k) ?_
      exact J26 Tj42 _ Xj42 Nj42 ej42 p3
    · refine own_by (fun _ k => XS.ifNo Xj42.here hx rfl (hb hby at_18) rfl (XT.i0_eq_f hc18) k) ?_
      show own_G _ _ _ _ _ _ _ (Tj42.setTop (mkF m 21 #[.val (.int p0), .val (.int p1), .val (.int p2), .val (.int p3), .val (.int p4), .val (.int dd), .unset, .unset, .unset, .unset, .unset, .unset, .unset, .unset, .unset, .unset, .unset] []))
      refine own_by (fun _ k => XS.iloadN Xj42.here hx rfl (hb hby at_21) rfl  k) ?_
      show own_G _ _ _ _ _ _ _ (Tj42.setTop (mkF m 22 #[.val (.int p0), .val (.int p1), .val (.int p2), .val (.int p3), .val (.int p4), .val (.int dd), .unset, .unset, .unset, .unset, .unset, .unset, .unset, .unset, .unset, .unset, .unset] [(.int p1)]))
      refine own_by (fun _ k => XS.goto Xj42.here hx rfl (pc0 := 22) (pc' := 26) rfl (hb hby at_22) (by decide) (by decide) k) ?_
      exact J26 Tj42 _ Xj42 Nj42 ej42 p1
  show own_G _ _ _ _ _ _ _ (s₁.setTop (mkF m 0 #[.val (.int p0), .val (.int p1), .val (.int p2), .val (.int p3), .val (.int p4), .unset, .unset, .unset, .unset, .unset, .unset, .unset, .unset, .unset, .unset, .unset, .unset] []))
  refine own_by (fun _ k => XS.iload X0.here hx rfl (hb hby at_0) rfl  k) ?_
  show own_G _ _ _ _ _ _ _ (s₁.setTop (mkF m 2 #[.val (.int p0), .val (.int p1), .val (.int p2), .val (.int p3), .val (.int p4), .unset, .unset, .unset, .unset, .unset, .unset, .unset, .unset, .unset, .unset, .unset, .unset] [(.int p4)]))
  refine own_by (fun _ k => XS.iconst X0.here hx rfl (hb hby at_2) k) ?_
  show own_G _ _ _ _ _ _ _ (s₁.setTop (mkF m 3 #[.val (.int p0), .val (.int p1), .val (.int p2), .val (.int p3), .val (.int p4), .unset, .unset, .unset, .unset, .unset, .unset, .unset, .unset, .unset, .unset, .unset, .unset] [(.int (1 : Int32)), (.int p4)]))
  refine own_by (fun _ k => XS.iand X0.here hx rfl (hb hby at_3) rfl k) ?_
  show own_G _ _ _ _ _ _ _ (s₁.setTop (mkF m 4 #[.val (.int p0), .val (.int p1), .val (.int p2), .val (.int p3), .val (.int p4), .unset, .unset, .unset, .unset, .unset, .unset, .unset, .unset, .unset, .unset, .unset, .unset] [(.int (p4 &&& (1 : Int32)))]))
  by_cases hc4 : (p4 &&& (1 : Int32)) = (0 : Int32)
  · refine own_by (fun _ k => XS.ifYes X0.here hx rfl (pc0 := 4) (pc' := 11) rfl (hb hby at_4) rfl (XT.i0_eq_t hc4) (by decide) (by decide) k) ?_
    show own_G _ _ _ _ _ _ _ (s₁.setTop (mkF m 11 #[.val (.int p0), .val (.int p1), .val (.int p2), .val (.int p3), .val (.int p4), .unset, .unset, .unset, .unset, .unset, .unset, .unset, .unset, .unset, .unset, .unset, .unset] []))
    refine own_by (fun _ k => XS.iloadN X0.here hx rfl (hb hby at_11) rfl  k) ?_
    exact J12 s₁ _ X0 N0 e0 p2
  · refine own_by (fun _ k => XS.ifNo X0.here hx rfl (hb hby at_4) rfl (XT.i0_eq_f hc4) k) ?_
    show own_G _ _ _ _ _ _ _ (s₁.setTop (mkF m 7 #[.val (.int p0), .val (.int p1), .val (.int p2), .val (.int p3), .val (.int p4), .unset, .unset, .unset, .unset, .unset, .unset, .unset, .unset, .unset, .unset, .unset, .unset] []))
    refine own_by (fun _ k => XS.iloadN X0.here hx rfl (hb hby at_7) rfl  k) ?_
    show own_G _ _ _ _ _ _ _ (s₁.setTop (mkF m 8 #[.val (.int p0), .val (.int p1), .val (.int p2), .val (.int p3), .val (.int p4), .unset, .unset, .unset, .unset, .unset, .unset, .unset, .unset, .unset, .unset, .unset, .unset] [(.int p0)]))
    refine own_by (fun _ k => XS.goto X0.here hx rfl (pc0 := 8) (pc' := 12) rfl (hb hby at_8) (by decide) (by decide) k) ?_
    exact J12 s₁ _ X0 N0 e0 p0
set_option maxRecDepth 65536 in
set_option maxHeartbeats 40000000 in
theorem comes_1 {Post : Tables → Env → Array Value → State → Outcome → State → Prop} (hpost : ∀ tb e args s v u, (limb_1_1.after args s (.returned v) u = true ∧ limb_1_2.after args s (.returned v) u = true ∧ True) → FrameEnd s (.returned v) u (Jvm.fieldLocs frame_1_writes args s ++ Jvm.arrayLocs frame_1_arrays args s ++ Jvm.staticLocs frame_1_statics s) 24 128 → Post tb e args s (.returned v) u) :
    ArmFor flags0 classFile x code maxLocals ret World_1 tables_1 room_1 Calls_1 rest_1 Pre_1 Post := by
  intro l hfl _ _ p e ha hc hk s m args below hf hA hF happ hP
  obtain ⟨hcalls, hrest, hpre⟩ := hP
  obtain ⟨-, -, -, hnamed, -, -, -, hat⟩ := (Spec.applies_iff hf).mp happ
  obtain ⟨hg, hn⟩ := and_e (Cond.before_iff.mp (show (Jvm.Cond.and given_1 narrow_1).before args s = true from hpre))
  obtain ⟨gc, hg⟩ := and_e hg
  obtain ⟨g0, hg⟩ := and_e hg
  obtain ⟨g1, hg⟩ := and_e hg
  obtain ⟨g2, hg⟩ := and_e hg
  obtain ⟨g3, hg⟩ := and_e hg
  have g4 := hg
  obtain ⟨w0, w1, w2, w3, w4, rfl⟩ : ∃ w0 w1 w2 w3 w4 : Value, args = #[w0, w1, w2, w3, w4] := by
    have hs : args.size = 5 := by simpa [Cond.value, given_1] using gc
    obtain ⟨L⟩ := args
    match L, hs with
    | [w0, w1, w2, w3, w4], _ => exact ⟨w0, w1, w2, w3, w4, rfl⟩
  have hw := fun d (hd : d ∈ tables_1) => atoms_spec (ws := Jvm.Cond.code x code maxLocals ret :: tables_1) hat d (List.mem_cons_of_mem _ hd)
  obtain ⟨hsets, hown0⟩ := atoms_of _ (rest_1_c_eq ▸ (show rest_1_c.before _ s = true from hrest))
  have hr0 := Cond.before_iff.mp hown0
  obtain ⟨i0, ei0⟩ := is_v g0
  obtain rfl : w0 = (.int i0) := Option.some.inj ei0
  obtain ⟨i1, ei1⟩ := is_v g1
  obtain rfl : w1 = (.int i1) := Option.some.inj ei1
  obtain ⟨i2, ei2⟩ := is_v g2
  obtain rfl : w2 = (.int i2) := Option.some.inj ei2
  obtain ⟨i3, ei3⟩ := is_v g3
  obtain rfl : w3 = (.int i3) := Option.some.inj ei3
  obtain ⟨i4, ei4⟩ := is_v g4
  obtain rfl : w4 = (.int i4) := Option.some.inj ei4
  have n5 := not_v (Cond.before_iff.mp (hsets _ (List.mem_of_getElem? (i := 2) rfl)))
  obtain ⟨cs, ecs⟩ := is_v (Cond.before_iff.mp (hsets _ (List.mem_of_getElem? (i := 1) rfl)))
  have St : Sta s s.heap "java/lang/String" "COMPACT_STRINGS" "Z" (.int cs) := Sta.start ecs (Or.inl (hsets _ (List.mem_of_getElem? (i := 0) rfl)))
  have hcs : ¬ (cs = (0 : Int32)) := gotF (Cond.eq_ints ecs (Term.int_eval (0))) n5
  obtain ⟨n, o, h1, h2, h3, _, L, rfl, ⟨rfl, N⟩, hq⟩ := rm0 l s _ hw tables_1 i0 i1 i2 i3 i4 cs s.heap s.heap.size (Nat.le_refl _) St hcs p e ha hc hk s m _ below hf ((Spec.applies_iff_loose hf).mp happ).1 ⟨rfl, State.Warmed39.refl s, rfl⟩ trivial
  refine ⟨n, _, h1, h2, h3, hpost _ _ _ _ _ _ ⟨Cond.after_iff.mpr rfl, Cond.after_iff.mpr (eq_i res_at (Term.int_eval (1)) rfl), trivial⟩ ⟨hq.1, hq.2.1, (hq.2.2.sift fun y hy => Or.inr (N y hy)).mono (by decide) (by decide)⟩⟩
theorem main_1_1 : Claimed_1_1 := comes_1 fun _ _ _ _ _ _ h hF => ⟨h.1, hF⟩
theorem main_1_2 : Claimed_1_2 := comes_1 fun _ _ _ _ _ _ h hF => ⟨h.2.1, hF⟩
end Jvm.Pilot.@@N@@
namespace Jvm.Pilot.@@N@@
open Jvm Jvm.ClassFile Sem Op Lib Jvm.Free Jvm.Stand Jvm.Pilot.@@N@@.Jvm.D
/-! MADE BY PROGRAM (witnessworld.py) out of the Statement's table words and the real class files: 18 classes; the members and pool entries that the words name. The judged class is class 1, her method 2. -/
namespace start1
open Jvm.ClassFile
def u (s : String) : CpInfo := .utf8 (stringToUtf16 s)
/-- a pool by its gaps: so many unusable entries, then the entry; so many at the end -/
def gap : Nat → List CpInfo → List CpInfo
  | 0, r => r
  | n + 1, r => .unusable :: gap n r
def poolList (es : List (Nat × CpInfo)) (last : Nat) : List CpInfo := es.foldr (fun e r => gap e.1 (e.2 :: r)) (gap last [])
def pool (es : List (Nat × CpInfo)) (last : Nat) : Array CpInfo := ⟨poolList es last⟩
def fileOf (pool : Array CpInfo) (this : Nat) (attrs : Array Attribute := #[]) (ms : Array MethodInfo := #[]) (fl : Nat := 33) (sup : Nat := 0) (ifs : Array Nat := #[]) (fds : Array FieldInfo := #[]) : ClassFile where
  minorVersion := 0
  majorVersion := 65
  constantPool := pool
  accessFlags := fl
  thisClass := this
  superClass := sup
  interfaces := ifs
  fields := fds
  methods := ms
  attributes := attrs
def plain (name : String) (sup : Option ClassId) : Class where
  name := name
  kind := .ordinary
  loader := none
  accessFlags := 33
  super := sup
  interfaces := #[]
  cf := none
  fields := #[]
  methods := #[]
  instanceTypes := #[]
  staticTypes := #[]
  resolved := #[]
  callSites := []
  init := .initialized
  statics := none
  mirror := none

def pool0 : Array CpInfo := pool [(5, u "<init>"), (0, u "()V"), (1, .class_ 10), (1, u "java/lang/Object")] 113

def k0c0 : Code := { maxStack := 0, maxLocals := 1, code := object_method_1_code, exceptionTable := #[], attributes := #[] }
def k0m0 : Method := { name := "<init>", desc := "()V", sig := { parameters := [], returnType := none }, accessFlags := 1, code := some k0c0 }
/-- java/lang/Object -/
def k0 : Class := { plain "java/lang/Object" none with
  accessFlags := 33
  interfaces := #[]
  cf := some (fileOf pool0 8 #[] #[{ accessFlags := 1, nameIndex := 5, descriptorIndex := 6, attributes := #[] }] 33 0 #[] #[])
  fields := #[]
  methods := #[k0m0]
  instanceTypes := #[]
  staticTypes := #[]
  resolved := Array.replicate 124 none
  statics := none }

def pool1 : Array CpInfo := pool [(2, .class_ 4), (1, u "java/lang/Object"), (0, u "<init>"), (0, u "()V"), (0, .integer 2147483648), (0, .long 4294967295), (1, .methodref 11 12), (0, .class_ 13), (0, .nameAndType 14 15), (0, u "java/lang/String"), (0, u "valueOf"), (0, u "(C)Ljava/lang/String;"), (0, .class_ 17), (0, u "com/example/hedgerow/hedgerow/algorithm/Candidate"), (0, .methodref 16 19), (0, .nameAndType 5 20), (0, u "(Ljava/lang/String;II)V"), (0, .methodref 22 23), (0, .class_ 24), (0, .nameAndType 25 26), (0, u "com/example/hedgerow/hedgerow/algorithm/CandidateBeatsPinLaw"), (0, u "key"), (0, u "(II)J"), (0, .methodref 16 28), (0, .nameAndType 29 30), (0, u "beats"), (0, u "(Lcom/example/hedgerow/hedgerow/algorithm/Candidate;)Z"), (2, u "law"), (0, u "(IIIII)Z")] 3

def k1m0 : Method := { name := "<init>", desc := "()V", sig := { parameters := [], returnType := none }, accessFlags := 1, code := none }
def k1c1 : Code := { maxStack := 4, maxLocals := 6, code := method_2_code, exceptionTable := #[], attributes := #[] }
def k1m1 : Method := { name := "key", desc := "(II)J", sig := { parameters := [.int, .int], returnType := some .long }, accessFlags := 10, code := some k1c1 }
def k1c2 : Code := { maxStack := 5, maxLocals := 17, code := code, exceptionTable := #[], attributes := #[] }
def k1m2 : Method := { name := "law", desc := "(IIIII)Z", sig := { parameters := [.int, .int, .int, .int, .int], returnType := some .boolean }, accessFlags := 9, code := some k1c2 }
/-- com/example/hedgerow/hedgerow/algorithm/CandidateBeatsPinLaw -/
def k1 : Class := { plain "com/example/hedgerow/hedgerow/algorithm/CandidateBeatsPinLaw" (some 0) with
  accessFlags := 49
  interfaces := #[]
  cf := some (fileOf pool1 22 #[] #[{ accessFlags := 1, nameIndex := 5, descriptorIndex := 6, attributes := #[] }, { accessFlags := 10, nameIndex := 25, descriptorIndex := 26, attributes := #[] }, { accessFlags := 9, nameIndex := 33, descriptorIndex := 34, attributes := #[] }] 49 2 #[] #[])
  fields := #[]
  methods := #[k1m0, k1m1, k1m2]
  instanceTypes := #[]
  staticTypes := #[]
  resolved := Array.replicate 38 none
  statics := none }

def pool2 : Array CpInfo := pool [(1, .class_ 2), (0, u "java/io/Serializable"), (0, .class_ 4), (0, u "java/lang/Object")] 2

/-- java/io/Serializable -/
def k2 : Class := { plain "java/io/Serializable" (some 0) with
  accessFlags := 1537
  interfaces := #[]
  cf := some (fileOf pool2 1 #[] #[] 1537 3 #[] #[])
  fields := #[]
  methods := #[]
  instanceTypes := #[]
  staticTypes := #[]
  resolved := Array.replicate 7 none
  statics := none }

def pool3 : Array CpInfo := pool [(1, .class_ 2), (0, u "java/lang/Comparable"), (0, .class_ 4), (0, u "java/lang/Object")] 7

/-- java/lang/Comparable -/
def k3 : Class := { plain "java/lang/Comparable" (some 0) with
  accessFlags := 1537
  interfaces := #[]
  cf := some (fileOf pool3 1 #[] #[] 1537 3 #[] #[])
  fields := #[]
  methods := #[]
  instanceTypes := #[]
  staticTypes := #[]
  resolved := Array.replicate 12 none
  statics := none }

def pool4 : Array CpInfo := pool [(2, .class_ 4), (1, u "java/lang/CharSequence"), (42, .class_ 48), (0, u "java/lang/CharSequence$1CodePointIterator"), (10, .class_ 60), (0, u "java/lang/CharSequence$1CharIterator"), (5, .class_ 67), (0, u "java/lang/Object")] 63

/-- java/lang/CharSequence -/
def k4 : Class := { plain "java/lang/CharSequence" (some 0) with
  accessFlags := 1537
  interfaces := #[]
  cf := some (fileOf pool4 2 #[.nestMembers #[47, 59]] #[] 1537 66 #[] #[])
  fields := #[]
  methods := #[]
  instanceTypes := #[]
  staticTypes := #[]
  resolved := Array.replicate 131 none
  statics := none }

def pool5 : Array CpInfo := pool [(1, .class_ 2), (0, u "java/lang/constant/Constable"), (0, .class_ 4), (0, u "java/lang/Object")] 6

/-- java/lang/constant/Constable -/
def k5 : Class := { plain "java/lang/constant/Constable" (some 0) with
  accessFlags := 1537
  interfaces := #[]
  cf := some (fileOf pool5 1 #[] #[] 1537 3 #[] #[])
  fields := #[]
  methods := #[]
  instanceTypes := #[]
  staticTypes := #[]
  resolved := Array.replicate 11 none
  statics := none }

def pool6 : Array CpInfo := pool [(1, .class_ 2), (0, u "java/lang/constant/ConstantDesc"), (0, .class_ 4), (0, u "java/lang/Object")] 32

/-- java/lang/constant/ConstantDesc -/
def k6 : Class := { plain "java/lang/constant/ConstantDesc" (some 0) with
  accessFlags := 1537
  interfaces := #[]
  cf := some (fileOf pool6 1 #[] #[] 1537 3 #[] #[])
  fields := #[]
  methods := #[]
  instanceTypes := #[]
  staticTypes := #[]
  resolved := Array.replicate 37 none
  statics := none }

def pool7 : Array CpInfo := pool [(1, .methodref 2 3), (0, .class_ 4), (0, .nameAndType 5 6), (0, u "java/lang/Object"), (0, u "<init>"), (0, u "()V"), (2, .fieldref 10 11), (0, .class_ 12), (0, .nameAndType 13 14), (0, u "java/lang/String"), (0, u "value"), (0, u "[B"), (0, .fieldref 10 16), (0, .nameAndType 17 18), (0, u "coder"), (0, u "B"), (2, u "hash"), (0, u "I"), (2, u "hashIsZero"), (0, u "Z"), (11, .fieldref 10 39), (0, .nameAndType 40 26), (0, u "COMPACT_STRINGS"), (12, u "toBytes"), (53, .class_ 109), (1, u "java/lang/StringLatin1"), (99, .methodref 10 210), (0, .nameAndType 5 211), (0, u "([BB)V"), (157, u "(C)Z"), (205, .class_ 576), (0, u "java/lang/CharSequence"), (22, u "CASE_INSENSITIVE_ORDER"), (0, u "Ljava/util/Comparator;"), (181, u "valueOf"), (0, u "(C)Ljava/lang/String;"), (231, .methodref 107 1016), (0, .nameAndType 1017 369), (0, u "canEncode"), (0, .methodref 107 1019), (0, .nameAndType 53 1020), (0, u "(C)[B"), (80, u "serialPersistentFields"), (0, u "[Ljava/io/ObjectStreamField;"), (0, .class_ 1104), (0, u "java/lang/String$CaseInsensitiveComparator"), (1, .class_ 1107), (0, u "java/io/Serializable"), (0, .class_ 1109), (0, u "java/lang/Comparable"), (0, .class_ 1111), (0, u "java/lang/constant/Constable"), (0, .class_ 1113), (0, u "java/lang/constant/ConstantDesc"), (2, u "serialVersionUID"), (0, u "J"), (3, u "REPL"), (0, u "C"), (2, u "LATIN1"), (1, u "UTF16")] 323

def k7m0 : Method := { name := "<init>", desc := "()V", sig := { parameters := [], returnType := none }, accessFlags := 1, code := none }
def k7c1 : Code := { maxStack := 4, maxLocals := 1, code := jdk_42_method_139_code, exceptionTable := #[], attributes := #[] }
def k7m1 : Method := { name := "valueOf", desc := "(C)Ljava/lang/String;", sig := { parameters := [.char], returnType := some (.object "java/lang/String") }, accessFlags := 9, code := some k7c1 }
def k7c2 : Code := { maxStack := 2, maxLocals := 3, code := jdk_42_method_151_code, exceptionTable := #[], attributes := #[] }
def k7m2 : Method := { name := "<init>", desc := "([BB)V", sig := { parameters := [(.array .byte), .byte], returnType := none }, accessFlags := 0, code := some k7c2 }
/-- java/lang/String -/
def k7 : Class := { plain "java/lang/String" (some 0) with
  accessFlags := 49
  interfaces := #[2, 3, 4, 5, 6]
  cf := some (fileOf pool7 10 #[.nestMembers #[1103]] #[{ accessFlags := 1, nameIndex := 5, descriptorIndex := 6, attributes := #[] }, { accessFlags := 9, nameIndex := 782, descriptorIndex := 783, attributes := #[] }, { accessFlags := 0, nameIndex := 5, descriptorIndex := 211, attributes := #[] }] 49 2 #[1106, 1108, 575, 1110, 1112] #[{ accessFlags := 18, nameIndex := 13, descriptorIndex := 14, attributes := #[] }, { accessFlags := 18, nameIndex := 17, descriptorIndex := 18, attributes := #[] }, { accessFlags := 2, nameIndex := 21, descriptorIndex := 22, attributes := #[] }, { accessFlags := 2, nameIndex := 25, descriptorIndex := 26, attributes := #[] }, { accessFlags := 26, nameIndex := 1116, descriptorIndex := 1117, attributes := #[] }, { accessFlags := 24, nameIndex := 40, descriptorIndex := 26, attributes := #[] }, { accessFlags := 26, nameIndex := 1101, descriptorIndex := 1102, attributes := #[] }, { accessFlags := 26, nameIndex := 1121, descriptorIndex := 1122, attributes := #[] }, { accessFlags := 25, nameIndex := 599, descriptorIndex := 600, attributes := #[] }, { accessFlags := 24, nameIndex := 1125, descriptorIndex := 18, attributes := #[] }, { accessFlags := 24, nameIndex := 1127, descriptorIndex := 18, attributes := #[] }])
  fields := #[{ name := "value", type := (.array .byte), accessFlags := 18, slot := 0, constantValue := 0 }, { name := "coder", type := .byte, accessFlags := 18, slot := 1, constantValue := 0 }, { name := "hash", type := .int, accessFlags := 2, slot := 2, constantValue := 0 }, { name := "hashIsZero", type := .boolean, accessFlags := 2, slot := 3, constantValue := 0 }, { name := "serialVersionUID", type := .long, accessFlags := 26, slot := 0, constantValue := 0 }, { name := "COMPACT_STRINGS", type := .boolean, accessFlags := 24, slot := 1, constantValue := 0 }, { name := "serialPersistentFields", type := (.array (.object "java/io/ObjectStreamField")), accessFlags := 26, slot := 2, constantValue := 0 }, { name := "REPL", type := .char, accessFlags := 26, slot := 3, constantValue := 0 }, { name := "CASE_INSENSITIVE_ORDER", type := (.object "java/util/Comparator"), accessFlags := 25, slot := 4, constantValue := 0 }, { name := "LATIN1", type := .byte, accessFlags := 24, slot := 5, constantValue := 0 }, { name := "UTF16", type := .byte, accessFlags := 24, slot := 6, constantValue := 0 }]
  methods := #[k7m0, k7m1, k7m2]
  instanceTypes := #[(.array .byte), .byte, .int, .boolean]
  staticTypes := #[.long, .boolean, (.array (.object "java/io/ObjectStreamField")), .char, (.object "java/util/Comparator"), .byte, .byte]
  resolved := Array.replicate 1451 none
  statics := some 0 }

def pool8 : Array CpInfo := pool [(4, .class_ 6), (1, u "java/lang/Object"), (0, u "<init>"), (0, u "()V"), (5, .class_ 16), (1, u "java/lang/StringLatin1"), (73, u "canEncode"), (14, u "(C)Z"), (15, u "$assertionsDisabled"), (0, u "Z"), (98, .class_ 223), (1, u "java/lang/StringLatin1$LinesSpliterator"), (156, u "toBytes"), (1, u "(C)[B"), (7, .class_ 391), (0, u "java/lang/StringLatin1$CharsSpliterator")] 3

def k8m0 : Method := { name := "<init>", desc := "()V", sig := { parameters := [], returnType := none }, accessFlags := 0, code := none }
def k8c1 : Code := { maxStack := 2, maxLocals := 1, code := jdk_43_method_3_code, exceptionTable := #[], attributes := #[] }
def k8m1 : Method := { name := "canEncode", desc := "(C)Z", sig := { parameters := [.char], returnType := some .boolean }, accessFlags := 9, code := some k8c1 }
def k8c2 : Code := { maxStack := 4, maxLocals := 1, code := jdk_43_method_46_code, exceptionTable := #[], attributes := #[] }
def k8m2 : Method := { name := "toBytes", desc := "(C)[B", sig := { parameters := [.char], returnType := some (.array .byte) }, accessFlags := 9, code := some k8c2 }
/-- java/lang/StringLatin1 -/
def k8 : Class := { plain "java/lang/StringLatin1" (some 0) with
  accessFlags := 48
  interfaces := #[]
  cf := some (fileOf pool8 14 #[.nestMembers #[390, 221]] #[{ accessFlags := 0, nameIndex := 7, descriptorIndex := 8, attributes := #[] }, { accessFlags := 9, nameIndex := 90, descriptorIndex := 105, attributes := #[] }, { accessFlags := 9, nameIndex := 380, descriptorIndex := 382, attributes := #[] }] 48 4 #[] #[{ accessFlags := 4120, nameIndex := 121, descriptorIndex := 122, attributes := #[] }])
  fields := #[{ name := "$assertionsDisabled", type := .boolean, accessFlags := 4120, slot := 0, constantValue := 0 }]
  methods := #[k8m0, k8m1, k8m2]
  instanceTypes := #[]
  staticTypes := #[.boolean]
  resolved := Array.replicate 395 none
  statics := none }

def pool9 : Array CpInfo := pool [(1, .methodref 2 3), (0, .class_ 4), (0, .nameAndType 5 6), (0, u "java/lang/Object"), (0, u "<init>"), (0, u "()V"), (0, .class_ 8), (0, u "java/lang/Record")] 13

def k9c0 : Code := { maxStack := 1, maxLocals := 1, code := jdk_30_method_1_code, exceptionTable := #[], attributes := #[] }
def k9m0 : Method := { name := "<init>", desc := "()V", sig := { parameters := [], returnType := none }, accessFlags := 4, code := some k9c0 }
/-- java/lang/Record -/
def k9 : Class := { plain "java/lang/Record" (some 0) with
  accessFlags := 1057
  interfaces := #[]
  cf := some (fileOf pool9 7 #[] #[{ accessFlags := 4, nameIndex := 5, descriptorIndex := 6, attributes := #[] }] 1057 2 #[] #[])
  fields := #[]
  methods := #[k9m0]
  instanceTypes := #[]
  staticTypes := #[]
  resolved := Array.replicate 22 none
  statics := none }

def pool10 : Array CpInfo := pool [(1, .methodref 2 3), (0, .class_ 4), (0, .nameAndType 5 6), (0, u "java/lang/Record"), (0, u "<init>"), (0, u "()V"), (0, .fieldref 8 9), (0, .class_ 10), (0, .nameAndType 11 12), (0, u "com/example/hedgerow/hedgerow/algorithm/Candidate"), (0, u "name"), (0, u "Ljava/lang/String;"), (0, .fieldref 8 14), (0, .nameAndType 15 16), (0, u "degree"), (0, u "I"), (0, .fieldref 8 18), (0, .nameAndType 19 16), (0, u "rank"), (12, u "(Ljava/lang/String;II)V"), (3, u "beats"), (0, u "(Lcom/example/hedgerow/hedgerow/algorithm/Candidate;)Z")] 26

def k10c0 : Code := { maxStack := 2, maxLocals := 4, code := prog_21_method_1_code, exceptionTable := #[], attributes := #[] }
def k10m0 : Method := { name := "<init>", desc := "(Ljava/lang/String;II)V", sig := { parameters := [(.object "java/lang/String"), .int, .int], returnType := none }, accessFlags := 0, code := some k10c0 }
def k10c1 : Code := { maxStack := 2, maxLocals := 2, code := prog_21_method_2_code, exceptionTable := #[], attributes := #[] }
def k10m1 : Method := { name := "beats", desc := "(Lcom/example/hedgerow/hedgerow/algorithm/Candidate;)Z", sig := { parameters := [(.object "com/example/hedgerow/hedgerow/algorithm/Candidate")], returnType := some .boolean }, accessFlags := 0, code := some k10c1 }
/-- com/example/hedgerow/hedgerow/algorithm/Candidate -/
def k10 : Class := { plain "com/example/hedgerow/hedgerow/algorithm/Candidate" (some 9) with
  accessFlags := 48
  interfaces := #[]
  cf := some (fileOf pool10 8 #[] #[{ accessFlags := 0, nameIndex := 5, descriptorIndex := 32, attributes := #[] }, { accessFlags := 0, nameIndex := 36, descriptorIndex := 37, attributes := #[] }] 48 2 #[] #[{ accessFlags := 18, nameIndex := 11, descriptorIndex := 12, attributes := #[] }, { accessFlags := 18, nameIndex := 15, descriptorIndex := 16, attributes := #[] }, { accessFlags := 18, nameIndex := 19, descriptorIndex := 16, attributes := #[] }])
  fields := #[{ name := "name", type := (.object "java/lang/String"), accessFlags := 18, slot := 0, constantValue := 0 }, { name := "degree", type := .int, accessFlags := 18, slot := 1, constantValue := 0 }, { name := "rank", type := .int, accessFlags := 18, slot := 2, constantValue := 0 }]
  methods := #[k10m0, k10m1]
  instanceTypes := #[(.object "java/lang/String"), .int, .int]
  staticTypes := #[]
  resolved := Array.replicate 64 none
  statics := none }

def pool11 : Array CpInfo := pool [(2, .class_ 4), (1, u "java/lang/Object"), (0, u "<init>"), (0, u "()V"), (17, .class_ 26), (1, u "jdk/internal/util/Preconditions"), (28, .class_ 56), (0, u "jdk/internal/util/Preconditions$4"), (57, .class_ 115), (0, u "jdk/internal/util/Preconditions$1"), (7, u "SIOOBE_FORMATTER"), (0, u "Ljava/util/function/BiFunction;"), (0, .class_ 126), (0, u "jdk/internal/util/Preconditions$2"), (3, u "AIOOBE_FORMATTER"), (0, .class_ 132), (0, u "jdk/internal/util/Preconditions$3"), (3, u "IOOBE_FORMATTER")] 57

def k11m0 : Method := { name := "<init>", desc := "()V", sig := { parameters := [], returnType := none }, accessFlags := 1, code := none }
/-- jdk/internal/util/Preconditions -/
def k11 : Class := { plain "jdk/internal/util/Preconditions" (some 0) with
  accessFlags := 33
  interfaces := #[]
  cf := some (fileOf pool11 24 #[.nestMembers #[55, 131, 125, 114]] #[{ accessFlags := 1, nameIndex := 5, descriptorIndex := 6, attributes := #[] }] 33 2 #[] #[{ accessFlags := 25, nameIndex := 123, descriptorIndex := 124, attributes := #[] }, { accessFlags := 25, nameIndex := 130, descriptorIndex := 124, attributes := #[] }, { accessFlags := 25, nameIndex := 136, descriptorIndex := 124, attributes := #[] }])
  fields := #[{ name := "SIOOBE_FORMATTER", type := (.object "java/util/function/BiFunction"), accessFlags := 25, slot := 0, constantValue := 0 }, { name := "AIOOBE_FORMATTER", type := (.object "java/util/function/BiFunction"), accessFlags := 25, slot := 1, constantValue := 0 }, { name := "IOOBE_FORMATTER", type := (.object "java/util/function/BiFunction"), accessFlags := 25, slot := 2, constantValue := 0 }]
  methods := #[k11m0]
  instanceTypes := #[]
  staticTypes := #[(.object "java/util/function/BiFunction"), (.object "java/util/function/BiFunction"), (.object "java/util/function/BiFunction")]
  resolved := Array.replicate 194 none
  statics := some 1 }

def pool12 : Array CpInfo := pool [(9, u "<init>"), (6, .class_ 18), (1, u "java/lang/Object"), (0, u "()V"), (1, .class_ 23), (1, u "jdk/internal/util/ArraysSupport"), (0, u "LOG2_ARRAY_LONG_INDEX_SCALE"), (0, u "I"), (2, u "U"), (0, u "Ljdk/internal/misc/Unsafe;"), (8, u "BIG_ENDIAN"), (0, u "Z"), (8, u "LOG2_BYTE_BIT_SIZE"), (4, u "LOG2_ARRAY_INT_INDEX_SCALE"), (54, u "JLA"), (0, u "Ljdk/internal/access/JavaLangAccess;"), (11, u "LOG2_ARRAY_BOOLEAN_INDEX_SCALE"), (9, u "LOG2_ARRAY_BYTE_INDEX_SCALE"), (5, u "LOG2_ARRAY_CHAR_INDEX_SCALE"), (5, u "LOG2_ARRAY_SHORT_INDEX_SCALE"), (18, u "LOG2_ARRAY_FLOAT_INDEX_SCALE"), (24, u "LOG2_ARRAY_DOUBLE_INDEX_SCALE"), (89, u "T_BOOLEAN"), (2, u "T_CHAR"), (1, u "T_FLOAT"), (1, u "T_DOUBLE"), (1, u "T_BYTE"), (1, u "T_SHORT"), (1, u "T_INT"), (1, u "T_LONG"), (1, u "SOFT_MAX_ARRAY_LENGTH")] 83

def k12m0 : Method := { name := "<init>", desc := "()V", sig := { parameters := [], returnType := none }, accessFlags := 2, code := none }
/-- jdk/internal/util/ArraysSupport -/
def k12 : Class := { plain "jdk/internal/util/ArraysSupport" (some 0) with
  accessFlags := 33
  interfaces := #[]
  cf := some (fileOf pool12 21 #[] #[{ accessFlags := 2, nameIndex := 9, descriptorIndex := 19, attributes := #[] }] 33 16 #[] #[{ accessFlags := 24, nameIndex := 28, descriptorIndex := 29, attributes := #[] }, { accessFlags := 26, nameIndex := 38, descriptorIndex := 39, attributes := #[] }, { accessFlags := 25, nameIndex := 121, descriptorIndex := 25, attributes := #[] }, { accessFlags := 25, nameIndex := 131, descriptorIndex := 25, attributes := #[] }, { accessFlags := 25, nameIndex := 137, descriptorIndex := 25, attributes := #[] }, { accessFlags := 25, nameIndex := 143, descriptorIndex := 25, attributes := #[] }, { accessFlags := 25, nameIndex := 53, descriptorIndex := 25, attributes := #[] }, { accessFlags := 25, nameIndex := 24, descriptorIndex := 25, attributes := #[] }, { accessFlags := 25, nameIndex := 162, descriptorIndex := 25, attributes := #[] }, { accessFlags := 25, nameIndex := 187, descriptorIndex := 25, attributes := #[] }, { accessFlags := 26, nameIndex := 48, descriptorIndex := 25, attributes := #[] }, { accessFlags := 25, nameIndex := 277, descriptorIndex := 25, attributes := #[] }, { accessFlags := 25, nameIndex := 280, descriptorIndex := 25, attributes := #[] }, { accessFlags := 25, nameIndex := 282, descriptorIndex := 25, attributes := #[] }, { accessFlags := 25, nameIndex := 284, descriptorIndex := 25, attributes := #[] }, { accessFlags := 25, nameIndex := 286, descriptorIndex := 25, attributes := #[] }, { accessFlags := 25, nameIndex := 288, descriptorIndex := 25, attributes := #[] }, { accessFlags := 25, nameIndex := 290, descriptorIndex := 25, attributes := #[] }, { accessFlags := 25, nameIndex := 292, descriptorIndex := 25, attributes := #[] }, { accessFlags := 26, nameIndex := 108, descriptorIndex := 109, attributes := #[] }, { accessFlags := 25, nameIndex := 294, descriptorIndex := 25, attributes := #[] }])
  fields := #[{ name := "U", type := (.object "jdk/internal/misc/Unsafe"), accessFlags := 24, slot := 0, constantValue := 0 }, { name := "BIG_ENDIAN", type := .boolean, accessFlags := 26, slot := 1, constantValue := 0 }, { name := "LOG2_ARRAY_BOOLEAN_INDEX_SCALE", type := .int, accessFlags := 25, slot := 2, constantValue := 0 }, { name := "LOG2_ARRAY_BYTE_INDEX_SCALE", type := .int, accessFlags := 25, slot := 3, constantValue := 0 }, { name := "LOG2_ARRAY_CHAR_INDEX_SCALE", type := .int, accessFlags := 25, slot := 4, constantValue := 0 }, { name := "LOG2_ARRAY_SHORT_INDEX_SCALE", type := .int, accessFlags := 25, slot := 5, constantValue := 0 }, { name := "LOG2_ARRAY_INT_INDEX_SCALE", type := .int, accessFlags := 25, slot := 6, constantValue := 0 }, { name := "LOG2_ARRAY_LONG_INDEX_SCALE", type := .int, accessFlags := 25, slot := 7, constantValue := 0 }, { name := "LOG2_ARRAY_FLOAT_INDEX_SCALE", type := .int, accessFlags := 25, slot := 8, constantValue := 0 }, { name := "LOG2_ARRAY_DOUBLE_INDEX_SCALE", type := .int, accessFlags := 25, slot := 9, constantValue := 0 }, { name := "LOG2_BYTE_BIT_SIZE", type := .int, accessFlags := 26, slot := 10, constantValue := 0 }, { name := "T_BOOLEAN", type := .int, accessFlags := 25, slot := 11, constantValue := 0 }, { name := "T_CHAR", type := .int, accessFlags := 25, slot := 12, constantValue := 0 }, { name := "T_FLOAT", type := .int, accessFlags := 25, slot := 13, constantValue := 0 }, { name := "T_DOUBLE", type := .int, accessFlags := 25, slot := 14, constantValue := 0 }, { name := "T_BYTE", type := .int, accessFlags := 25, slot := 15, constantValue := 0 }, { name := "T_SHORT", type := .int, accessFlags := 25, slot := 16, constantValue := 0 }, { name := "T_INT", type := .int, accessFlags := 25, slot := 17, constantValue := 0 }, { name := "T_LONG", type := .int, accessFlags := 25, slot := 18, constantValue := 0 }, { name := "JLA", type := (.object "jdk/internal/access/JavaLangAccess"), accessFlags := 26, slot := 19, constantValue := 0 }, { name := "SOFT_MAX_ARRAY_LENGTH", type := .int, accessFlags := 25, slot := 20, constantValue := 0 }]
  methods := #[k12m0]
  instanceTypes := #[]
  staticTypes := #[(.object "jdk/internal/misc/Unsafe"), .boolean, .int, .int, .int, .int, .int, .int, .int, .int, .int, .int, .int, .int, .int, .int, .int, .int, .int, (.object "jdk/internal/access/JavaLangAccess"), .int]
  resolved := Array.replicate 378 none
  statics := none }

def pool13 : Array CpInfo := pool [(1, u "java/lang/Cloneable"), (0, .class_ 1), (0, u "java/lang/Object"), (0, .class_ 3)] 3

/-- java/lang/Cloneable -/
def k13 : Class := { plain "java/lang/Cloneable" (some 0) with
  accessFlags := 1537
  interfaces := #[]
  cf := some (fileOf pool13 2 #[] #[] 1537 4 #[] #[])
  fields := #[]
  methods := #[]
  instanceTypes := #[]
  staticTypes := #[]
  resolved := Array.replicate 8 none
  statics := none }

/-- the primitive byte -/
def k14 : Class := { plain "byte" none with kind := .primitive 'B', accessFlags := 0x411 }
/-- [B -/
def k15 : Class := { plain "[B" (some 0) with kind := .array 14 .byte, interfaces := #[13, 2], accessFlags := 1041 }

/-- the primitive int -/
def k16 : Class := { plain "int" none with kind := .primitive 'I', accessFlags := 0x411 }
/-- [I -/
def k17 : Class := { plain "[I" (some 0) with kind := .array 16 .int, interfaces := #[13, 2], accessFlags := 1041 }

def heap : Heap := #[{ cls := 7, slots := #[.long 0, .int 1, .null, .int 0, .null, .int 0, .int 0], vm := .statics 7 },
  { cls := 11, slots := #[.null, .null, .null], vm := .statics 11 }]
def classes : Array Class := #[k0, k1, k2, k3, k4, k5, k6, k7, k8, k9, k10, k11, k12, k13, k14, k15, k16, k17]
def interned : List (Array UInt16 × Addr) := []
def slotsUsed : Nat := 10
def theMethod : MethodId := ⟨1, 2⟩
def args0 : Array Value := #[.int 5, .int 5, .int 5, .int 5, .int 5]
def aboutOver (below : List Frame) : State where
  vm := { classes := classes, interned := interned.toArray }
  heap := heap
  slotsUsed := slotsUsed
  threads := #[{ frames := .invoking theMethod args0 :: below }]
def below0 : List Frame := [.native { method := ⟨0, 0⟩, args := #[] }]
def about1 : State := aboutOver below0
def p0 : Program := .bare "" "" ""
def e0 : Env := launch0.env 0 0 0
theorem w_frames : about1.frames = Frame.invoking theMethod args0 :: below0 := rfl
set_option maxRecDepth 65536 in
theorem w_args : argsFit about1.vm theMethod args0 = true := by decide +kernel
set_option maxRecDepth 65536 in
theorem w_heap : heapFits about1 = true := by decide +kernel
set_option maxRecDepth 65536 in
theorem w_runnable : about1.curStatus? = some .runnable := by decide +kernel
set_option maxRecDepth 65536 in
theorem w_alone : about1.alone = true := by decide +kernel
set_option maxRecDepth 65536 in
theorem w_named : about1.methodNamed? x = some theMethod := by decide +kernel
set_option maxRecDepth 65536 in
theorem w_hears : about1.hears theMethod below0 = true := by decide +kernel
set_option maxRecDepth 65536 in
theorem w_ripe : about1.ripe theMethod args0 below0 = true := by decide +kernel
theorem w_running : about1.status = .running := rfl
set_option maxRecDepth 65536 in
theorem w_room : about1.hasRoom e0.platform room_1 = true :=
  launch0.hasRoom_least _ room_1 (by decide +kernel) (by decide +kernel) (by decide +kernel) (by decide +kernel) (by decide +kernel) (by decide +kernel)
theorem allAtoms_all (ts : List Jvm.Cond) (a : Array Jvm.Value) (st : Jvm.State) : (allAtoms ts).before a st = ts.all (fun c => c.before a st) := by
  induction ts with
  | nil => rfl
  | cons c t ih =>
    show (Jvm.Cond.and c (allAtoms t)).before a st = _
    rw [Jvm.Cond.before_and, ih, List.all_cons]
def words1 : List Jvm.Cond := Jvm.Cond.code x code maxLocals ret :: tables_1
/-- a 'code' word, met by the world's own term for the bytes: nothing is compared byte by byte -/
theorem code_word {y : MethodName} {bytes : ByteArray} {mx : Nat} {rt : Option FieldType} {a : Array Value} {s : State} {m : MethodId} {meth : Method} {c : Code} (h1 : s.methodNamed? y = some m) (h2 : s.vm.method? m = some meth) (h3 : meth.code = some c) (h4 : c.code = bytes)
    (h5 : (c.maxLocals == mx && c.exceptionTable.isEmpty && decide (c.maxStack ≤ mostOperands) && decide (meth.sig.returnType = rt) && !meth.locks && decide (parseMethodDescriptor y.desc = some meth.sig)) = true) : (Jvm.Cond.code y bytes mx rt).before a s = true := by
  simp only [Bool.and_eq_true, beq_iff_eq, Bool.not_eq_true', decide_eq_true_eq] at h5
  obtain ⟨⟨⟨⟨⟨g1, g2⟩, g3⟩, g4⟩, g5⟩, g6⟩ := h5
  simp [Cond.before, Cond.holds, Cond.value, h1, h2, h3, h4, g1, g2, g3, g4, g5, g6]
def isCode : Jvm.Cond → Bool
  | .code _ _ _ _ => true
  | _ => false
theorem all_split {L : List Jvm.Cond} {P : Jvm.Cond → Bool} (h1 : L.all (fun c => isCode c || P c) = true) (h2 : ∀ c ∈ L.filter isCode, P c = true) : L.all P = true := by
  refine List.all_eq_true.mpr fun c hc => ?_
  have h := List.all_eq_true.mp h1 c hc
  rcases Bool.eq_false_or_eq_true (isCode c) with hi | hi
  · exact h2 c (List.mem_filter.mpr ⟨hc, hi⟩)
  · simpa [hi] using h
set_option maxRecDepth 65536 in
theorem w_c0 : (Jvm.Cond.code x code maxLocals ret).before args0 about1 = true := code_word (m := ⟨1, 2⟩) (meth := k1m2) (c := k1c2) (by decide +kernel) rfl rfl rfl (by decide +kernel)
set_option maxRecDepth 65536 in
theorem w_c1 : (Jvm.Cond.code ({ cls := "java/lang/String", name := "valueOf", desc := "(C)Ljava/lang/String;" } : Jvm.MethodName) jdk_42_method_139_code (1 : Nat) (Option.some (Jvm.ClassFile.FieldType.object "java/lang/String"))).before args0 about1 = true := code_word (m := ⟨7, 1⟩) (meth := k7m1) (c := k7c1) (by decide +kernel) rfl rfl rfl (by decide +kernel)
set_option maxRecDepth 65536 in
theorem w_c2 : (Jvm.Cond.code ({ cls := "java/lang/StringLatin1", name := "canEncode", desc := "(C)Z" } : Jvm.MethodName) jdk_43_method_3_code (1 : Nat) (Option.some Jvm.ClassFile.FieldType.boolean)).before args0 about1 = true := code_word (m := ⟨8, 1⟩) (meth := k8m1) (c := k8c1) (by decide +kernel) rfl rfl rfl (by decide +kernel)
set_option maxRecDepth 65536 in
theorem w_c3 : (Jvm.Cond.code ({ cls := "java/lang/StringLatin1", name := "toBytes", desc := "(C)[B" } : Jvm.MethodName) jdk_43_method_46_code (1 : Nat) (Option.some (Jvm.ClassFile.FieldType.array Jvm.ClassFile.FieldType.byte))).before args0 about1 = true := code_word (m := ⟨8, 2⟩) (meth := k8m2) (c := k8c2) (by decide +kernel) rfl rfl rfl (by decide +kernel)
set_option maxRecDepth 65536 in
theorem w_c4 : (Jvm.Cond.code ({ cls := "java/lang/String", name := "<init>", desc := "([BB)V" } : Jvm.MethodName) jdk_42_method_151_code (3 : Nat) (Option.none : Option Jvm.ClassFile.FieldType)).before args0 about1 = true := code_word (m := ⟨7, 2⟩) (meth := k7m2) (c := k7c2) (by decide +kernel) rfl rfl rfl (by decide +kernel)
set_option maxRecDepth 65536 in
theorem w_c5 : (Jvm.Cond.code ({ cls := "java/lang/Object", name := "<init>", desc := "()V" } : Jvm.MethodName) object_method_1_code (1 : Nat) (Option.none : Option Jvm.ClassFile.FieldType)).before args0 about1 = true := code_word (m := ⟨0, 0⟩) (meth := k0m0) (c := k0c0) (by decide +kernel) rfl rfl rfl (by decide +kernel)
set_option maxRecDepth 65536 in
theorem w_c6 : (Jvm.Cond.code ({ cls := "com/example/hedgerow/hedgerow/algorithm/Candidate", name := "<init>", desc := "(Ljava/lang/String;II)V" } : Jvm.MethodName) prog_21_method_1_code (4 : Nat) (Option.none : Option Jvm.ClassFile.FieldType)).before args0 about1 = true := code_word (m := ⟨10, 0⟩) (meth := k10m0) (c := k10c0) (by decide +kernel) rfl rfl rfl (by decide +kernel)
set_option maxRecDepth 65536 in
theorem w_c7 : (Jvm.Cond.code ({ cls := "java/lang/Record", name := "<init>", desc := "()V" } : Jvm.MethodName) jdk_30_method_1_code (1 : Nat) (Option.none : Option Jvm.ClassFile.FieldType)).before args0 about1 = true := code_word (m := ⟨9, 0⟩) (meth := k9m0) (c := k9c0) (by decide +kernel) rfl rfl rfl (by decide +kernel)
set_option maxRecDepth 65536 in
theorem w_c8 : (Jvm.Cond.code ({ cls := "com/example/hedgerow/hedgerow/algorithm/CandidateBeatsPinLaw", name := "key", desc := "(II)J" } : Jvm.MethodName) method_2_code (6 : Nat) (Option.some Jvm.ClassFile.FieldType.long)).before args0 about1 = true := code_word (m := ⟨1, 1⟩) (meth := k1m1) (c := k1c1) (by decide +kernel) rfl rfl rfl (by decide +kernel)
set_option maxRecDepth 65536 in
theorem w_c9 : (Jvm.Cond.code ({ cls := "com/example/hedgerow/hedgerow/algorithm/Candidate", name := "beats", desc := "(Lcom/example/hedgerow/hedgerow/algorithm/Candidate;)Z" } : Jvm.MethodName) prog_21_method_2_code (2 : Nat) (Option.some Jvm.ClassFile.FieldType.boolean)).before args0 about1 = true := code_word (m := ⟨10, 1⟩) (meth := k10m1) (c := k10c1) (by decide +kernel) rfl rfl rfl (by decide +kernel)
def codes1 : List Jvm.Cond := [Jvm.Cond.code x code maxLocals ret, Jvm.Cond.code ({ cls := "java/lang/String", name := "valueOf", desc := "(C)Ljava/lang/String;" } : Jvm.MethodName) jdk_42_method_139_code (1 : Nat) (Option.some (Jvm.ClassFile.FieldType.object "java/lang/String")), Jvm.Cond.code ({ cls := "java/lang/StringLatin1", name := "canEncode", desc := "(C)Z" } : Jvm.MethodName) jdk_43_method_3_code (1 : Nat) (Option.some Jvm.ClassFile.FieldType.boolean), Jvm.Cond.code ({ cls := "java/lang/StringLatin1", name := "toBytes", desc := "(C)[B" } : Jvm.MethodName) jdk_43_method_46_code (1 : Nat) (Option.some (Jvm.ClassFile.FieldType.array Jvm.ClassFile.FieldType.byte)), Jvm.Cond.code ({ cls := "java/lang/String", name := "<init>", desc := "([BB)V" } : Jvm.MethodName) jdk_42_method_151_code (3 : Nat) (Option.none : Option Jvm.ClassFile.FieldType), Jvm.Cond.code ({ cls := "java/lang/Object", name := "<init>", desc := "()V" } : Jvm.MethodName) object_method_1_code (1 : Nat) (Option.none : Option Jvm.ClassFile.FieldType), Jvm.Cond.code ({ cls := "com/example/hedgerow/hedgerow/algorithm/Candidate", name := "<init>", desc := "(Ljava/lang/String;II)V" } : Jvm.MethodName) prog_21_method_1_code (4 : Nat) (Option.none : Option Jvm.ClassFile.FieldType), Jvm.Cond.code ({ cls := "java/lang/Record", name := "<init>", desc := "()V" } : Jvm.MethodName) jdk_30_method_1_code (1 : Nat) (Option.none : Option Jvm.ClassFile.FieldType), Jvm.Cond.code ({ cls := "com/example/hedgerow/hedgerow/algorithm/CandidateBeatsPinLaw", name := "key", desc := "(II)J" } : Jvm.MethodName) method_2_code (6 : Nat) (Option.some Jvm.ClassFile.FieldType.long), Jvm.Cond.code ({ cls := "com/example/hedgerow/hedgerow/algorithm/Candidate", name := "beats", desc := "(Lcom/example/hedgerow/hedgerow/algorithm/Candidate;)Z" } : Jvm.MethodName) prog_21_method_2_code (2 : Nat) (Option.some Jvm.ClassFile.FieldType.boolean)]
set_option maxRecDepth 65536 in
theorem codes_eq : words1.filter isCode = codes1 := rfl
theorem w_codes : ∀ c ∈ words1.filter isCode, c.before args0 about1 = true := by
  rw [codes_eq]
  intro c hc
  simp only [codes1, List.mem_cons, List.not_mem_nil, or_false] at hc
  rcases hc with rfl | rfl | rfl | rfl | rfl | rfl | rfl | rfl | rfl | rfl
  · exact w_c0
  · exact w_c1
  · exact w_c2
  · exact w_c3
  · exact w_c4
  · exact w_c5
  · exact w_c6
  · exact w_c7
  · exact w_c8
  · exact w_c9
set_option maxRecDepth 65536 in
theorem w_t1 : (words1.take 24).all (fun c => isCode c || c.before args0 about1) = true := by decide +kernel
set_option maxRecDepth 65536 in
theorem w_t2 : ((words1.drop 24).take 24).all (fun c => isCode c || c.before args0 about1) = true := by decide +kernel
set_option maxRecDepth 65536 in
theorem w_t3 : ((words1.drop 24).drop 24).all (fun c => isCode c || c.before args0 about1) = true := by decide +kernel
theorem w_tables : (allAtoms (Jvm.Cond.code x code maxLocals ret :: tables_1)).before args0 about1 = true := by
  rw [allAtoms_all]
  show words1.all (fun c => c.before args0 about1) = true
  refine all_split ?_ w_codes
  rw [← List.take_append_drop 24 words1, List.all_append, w_t1, ← List.take_append_drop 24 (words1.drop 24), List.all_append, w_t2, w_t3]
  rfl
set_option maxRecDepth 65536 in
theorem w_rest : rest_1_c.before args0 about1 = true := by decide +kernel
set_option maxRecDepth 65536 in
theorem w_case : (Jvm.Cond.and given_1 narrow_1).before args0 about1 = true := by decide +kernel
theorem w_applies : (headSpec (Jvm.Cond.code x code maxLocals ret :: tables_1) room_1).applies x e0.platform about1 = true :=
  (Spec.applies_iff w_frames).mpr ⟨w_running, w_runnable, w_alone, w_named, w_hears, w_ripe, w_room, w_tables⟩
theorem atStart : AtStart classFile x code maxLocals ret World_1 tables_1 room_1 Calls_1 rest_1 Pre_1 launch0 p0 e0 about1 theMethod args0 below0 :=
  ⟨lists_1, trivial, launch0.admits_env _ _ _, launch0.least_env, fairChoices_fair.cas, fairChoices_fair.clock, w_frames, w_args, w_heap, w_applies, trivial, w_rest, w_case⟩
end start1
theorem witness_1 : WitnessClaimed_1 := ⟨start1.p0, start1.e0, start1.about1, start1.theMethod, start1.args0, start1.below0, start1.atStart⟩
end Jvm.Pilot.@@N@@
