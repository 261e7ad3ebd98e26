import JvmDerived
import JvmDerived.Pilot.@@N@@Statement
import JvmDerived.Pilot.@@N@@Code
set_option linter.unusedVariables false
set_option linter.unusedSimpArgs false
namespace Jvm.RoadKit
open Sem ClassFile Op Lib Jvm.Stand Jvm.Free Jvm.LawKit
section New
variable {p : Program} {l : Launch} {e : Env} {R : Room} {s : State} {m : MethodId} {args : Array Value} {below : List Frame} {meth : Method} {c : Code} {T : State} {locs : List Loc} {cells slots : Nat}
theorem retI (X : Stand p l e R s m args below meth c T locs cells slots) (hx : p.tables.exec = Jvm.exec) {pc : Nat} {Ls : Array Slot} {z : Int32} {rest : List Value} (hret : meth.sig.returnType = some .int) (hd : decode c.code pc = .ok (.ireturn, 1)) {fs : List Frame}
    (hl : ∀ (f : JFrame) (acts : List Action), f.method = m → f.locked = none → f.entered = [] → (doReturn e (T.setTop f) acts (some (.int z))).1 = T.setFrames fs) : Steps p.tables e below (T.setTop (mkF m pc Ls (.int z :: rest))) (T.setFrames fs) := by
  have hm' : T.vm.method? m = some meth := X.method'
  have hn : narrow .int (.int z) = .int z := rfl
  show Steps p.tables e below (T.setTop { method := m, pc := pc, locals := Ls, stack := _ :: rest, locked := none }) _
  jvm_step X.here [X.here.top, hx, hd, hm', hret, hn]
  first | (intro acts; rw [hl _ acts rfl rfl rfl]) | rw [hl _ _ rfl rfl rfl]
  exact Steps.refl _
/-- the run from A comes to its end, and there Q holds -/
def own_G (tb : Tables) (e : Env) (below : List Frame) (s : State) (Q : Option Value → Heap → List Loc → Prop) (C S : Nat) (A : State) : Prop :=
  ∃ s₂ o, Steps tb e below A s₂ ∧ s₂.status = .running ∧ Ended s₂ below o ∧ ∃ v L, o = .returned v ∧ Q v s₂.heap L ∧ FrameEnd s o s₂ L C S
theorem own_by {tb : Tables} {Q : Option Value → Heap → List Loc → Prop} {C S : Nat} {A B : State} (st : ∀ t, Steps tb e below B t → Steps tb e below A t) (k : own_G tb e below s Q C S B) : own_G tb e below s Q C S A := by
  obtain ⟨s₂, o, h, r⟩ := k
  exact ⟨s₂, o, st _ h, r⟩
theorem own_end (X : Stand p l e R s m args below meth c T locs cells slots) {v : Option Value} (hv : meth.sig.returnType = none → v = none) (hlk : meth.locks = false) {Q : Option Value → Heap → List Loc → Prop} {C S : Nat} {A : State}
    (st : ∀ fs, (∀ (f : JFrame) (acts : List Action), f.method = m → f.locked = none → f.entered = [] → (doReturn e (T.setTop f) acts v).1 = T.setFrames fs) → Steps p.tables e below A (T.setFrames fs))
    (hQ : Q v T.heap locs) (hc : cells ≤ C) (hs : slots ≤ S) : own_G p.tables e below s Q C S A := by
  obtain ⟨fs, hr, hrun, hended, hW, hsame⟩ := X.leave hv hlk
  exact ⟨_, _, st fs hr, hrun, hended, _, _, rfl, hQ, ⟨_, rfl⟩, hW, hsame.mono hc hs⟩
theorem own_lremM {tb : Tables} [Ours tb] {target : State} {g : JFrame} (h : At T m c below) (hx : tb.exec = Jvm.exec) (hg : g.method = m) {x y : Int64} {rest : List Value} (hd : decode c.code g.pc = .ok (.lrem, 1)) (hs : g.stack = .long y :: .long x :: rest) (hy : y ≠ 0)
    (hr : Steps tb e below (T.setTop { g with pc := g.pc + 1, stack := .long (x % y) :: rest }) target) : Steps tb e below (T.setTop g) target := by
  have q : x - x / y * y = x % y := lrem_mod x y
  exact XT.lrem h hx hg hd hs hy (by rw [q]; exact hr)
variable {Z : State} {a0 : Array Value} {h h' : Heap} {a b : Addr} {ty : FieldType} {n : Nat} {f : Nat → Value} {sl : Nat} {v : Value} {ws : List Addr}
/-- the array at a has n places, place k holds f k -/
def own_A (Z : State) (h : Heap) (a : Addr) (ty : FieldType) (n : Nat) (f : Nat → Value) : Prop := ∃ c : Cell, Arr Z h a c ty ∧ c.slots.size = n ∧ ∀ k, k < n → c.slots[k]? = some (f k)
abbrev own_AJ (Z : State) (h : Heap) (a : Addr) (n : Nat) (F : Nat → Int64) : Prop := own_A Z h a .long n (fun k => .long (F k))
abbrev own_AI (Z : State) (h : Heap) (a : Addr) (n : Nat) (F : Nat → Int32) : Prop := own_A Z h a .int n (fun k => .int (F k))
abbrev own_AB (Z : State) (h : Heap) (a : Addr) (n : Nat) (F : Nat → Int32) : Prop := own_A Z h a .byte n (fun k => .int (F k))
def own_upd {α : Type} (f : Nat → α) (k : Nat) (x : α) : Nat → α := fun i => if i = k then x else f i
theorem own_A.lt (F : own_A Z h a ty n f) : a < h.size := by obtain ⟨c, A, -⟩ := F; exact A.lt
theorem own_A.ext (F : own_A Z h a ty n f) (E : Ext h h') : own_A Z h' a ty n f := by obtain ⟨c, A, r⟩ := F; exact ⟨c, A.ext E, r⟩
theorem own_A.other (F : own_A Z h b ty n f) (W : Wr h h' a sl v) (q : b ≠ a) : own_A Z h' b ty n f := by obtain ⟨c, A, r⟩ := F; exact ⟨c, A.other W q, r⟩
theorem own_A.keep (F : own_A Z h a ty n f) (K : Keep h h' ws) (q : a ∉ ws) : own_A Z h' a ty n f := by obtain ⟨c, A, r⟩ := F; exact ⟨c, ⟨K.2.1 a c A.1 q, A.2⟩, r⟩
theorem own_A.cast {f' : Nat → Value} (F : own_A Z h a ty n f) (q : ∀ k, k < n → f k = f' k) : own_A Z h a ty n f' := by obtain ⟨c, A, S, H⟩ := F; exact ⟨c, A, S, fun k hk => by rw [H k hk, q k hk]⟩
theorem own_idx {j : Int32} {k n : Nat} (hk : j.toInt = k) (hn : k < n) {c : Cell} (S : c.slots.size = n) : ¬ (j < 0 ∨ c.slots.size ≤ j.toNatClampNeg) ∧ j.toNatClampNeg = k := by
  have e : j.toNatClampNeg = k := by show j.toInt.toNat = k; rw [hk]; rfl
  refine ⟨?_, e⟩
  rw [e, S]
  rintro (q | q)
  · rw [Int32.lt_iff_toInt_lt] at q; have : (0 : Int32).toInt = 0 := by decide
    omega
  · omega
theorem own_A.set {c : Cell} (A : Arr Z h a c ty) (S : c.slots.size = n) (H : ∀ k, k < n → c.slots[k]? = some (f k)) {j : Nat} (W : Wr h h' a j v) (hj : j < n) {f' : Nat → Value} (q : ∀ k, k < n → f' k = if k = j then v else f k) : own_A Z h' a ty n f' := by
  refine ⟨c.setSlot j v, A.same W, by rw [sz_set]; exact S, fun i hi => ?_⟩
  rw [q i hi]
  by_cases e : i = j
  · subst e; simp [Cell.setSlot, S, hi]
  · rw [if_neg e, ← H i hi]; show (c.slots.setIfInBounds j v)[i]? = _; exact Array.getElem?_setIfInBounds_ne (Ne.symm e)
theorem own_ldJ (X : Stand p l e R s m args below meth c T locs cells slots) (hx : p.tables.exec = Jvm.exec) (hZ : Z.Warmed39 s.vm) (eT : T.heap = h) {F : Nat → Int64} (V : own_AJ Z h a n F) {j : Int32} {k : Nat} (hk : j.toInt = k) (hn : k < n) {g : JFrame} (hg : g.method = m) {rest : List Value} (hs : g.stack = .int j :: .ref a :: rest) (hd : decode c.code g.pc = .ok (.laload, 1)) :
    ∀ target, Steps p.tables e below (T.setTop { g with pc := g.pc + 1, stack := .long (F k) :: rest }) target → Steps p.tables e below (T.setTop g) target := by
  obtain ⟨c, A, S, H⟩ := V
  obtain ⟨q, e'⟩ := own_idx hk hn S
  intro target hr
  exact X.laload hx (by rw [eT]; exact A.1) (State.isArrayOf_alike hZ.alike A.2.1) A.2.2 q (v := .long (F k)) (by rw [e']; exact H k hn) hg hs hd target hr
theorem own_ldI (X : Stand p l e R s m args below meth c T locs cells slots) (hx : p.tables.exec = Jvm.exec) (hZ : Z.Warmed39 s.vm) (eT : T.heap = h) {F : Nat → Int32} (V : own_AI Z h a n F) {j : Int32} {k : Nat} (hk : j.toInt = k) (hn : k < n) {g : JFrame} (hg : g.method = m) {rest : List Value} (hs : g.stack = .int j :: .ref a :: rest) (hd : decode c.code g.pc = .ok (.iaload, 1)) :
    ∀ target, Steps p.tables e below (T.setTop { g with pc := g.pc + 1, stack := .int (F k) :: rest }) target → Steps p.tables e below (T.setTop g) target := by
  obtain ⟨c, A, S, H⟩ := V
  obtain ⟨q, e'⟩ := own_idx hk hn S
  intro target hr
  exact X.iaload hx (by rw [eT]; exact A.1) (State.isArrayOf_alike hZ.alike A.2.1) A.2.2 q (v := .int (F k)) (by rw [e']; exact H k hn) hg hs hd target hr
theorem own_ldB (X : Stand p l e R s m args below meth c T locs cells slots) (hx : p.tables.exec = Jvm.exec) (hZ : Z.Warmed39 s.vm) (eT : T.heap = h) {F : Nat → Int32} (V : own_AB Z h a n F) {j : Int32} {k : Nat} (hk : j.toInt = k) (hn : k < n) {g : JFrame} (hg : g.method = m) {rest : List Value} (hs : g.stack = .int j :: .ref a :: rest) (hd : decode c.code g.pc = .ok (.baload, 1)) :
    ∀ target, Steps p.tables e below (T.setTop { g with pc := g.pc + 1, stack := .int (F k) :: rest }) target → Steps p.tables e below (T.setTop g) target := by
  obtain ⟨c, A, S, H⟩ := V
  obtain ⟨q, e'⟩ := own_idx hk hn S
  intro target hr
  exact X.baloadBytes hx (by rw [eT]; exact A.1) (State.isArrayOf_alike hZ.alike A.2.1) A.2.2 q (v := .int (F k)) (by rw [e']; exact H k hn) hg hs hd target hr
theorem own_stJ (X : Stand p l e R s m args below meth c T locs cells slots) (hx : p.tables.exec = Jvm.exec) (hZ : Z.Warmed39 s.vm) (eT : T.heap = h) {F : Nat → Int64} (V : own_AJ Z h a n F) {j : Int32} {x : Int64} {k : Nat} (hk : j.toInt = k) (hn : k < n) {g : JFrame} (hg : g.method = m) {rest : List Value} (hs : g.stack = .long x :: .int j :: .ref a :: rest) (hd : decode c.code g.pc = .ok (.lastore, 1)) :
    ∃ T' h', Stand p l e R s m args below meth c T' (locs ++ [⟨a, j.toNatClampNeg⟩]) cells slots ∧ T'.heap = h' ∧ Wr h h' a j.toNatClampNeg (.long x) ∧ own_AJ Z h' a n (own_upd F k x) ∧ ∀ target, Steps p.tables e below (T'.setTop { g with pc := g.pc + 1, stack := rest }) target → Steps p.tables e below (T.setTop g) target := by
  obtain ⟨c, A, S, H⟩ := V
  obtain ⟨q, e'⟩ := own_idx hk hn S
  obtain ⟨T', h', X', e1, W, st⟩ := stJ X hx hZ eT A q hg hs hd
  exact ⟨T', h', X', e1, W, own_A.set A S H W (by rw [e']; exact hn) (fun i _ => by rw [e']; show Value.long (if i = k then x else F i) = _; by_cases z : i = k <;> simp [z]), st⟩
theorem own_stI (X : Stand p l e R s m args below meth c T locs cells slots) (hx : p.tables.exec = Jvm.exec) (hZ : Z.Warmed39 s.vm) (eT : T.heap = h) {F : Nat → Int32} (V : own_AI Z h a n F) {j : Int32} {x : Int32} {k : Nat} (hk : j.toInt = k) (hn : k < n) {g : JFrame} (hg : g.method = m) {rest : List Value} (hs : g.stack = .int x :: .int j :: .ref a :: rest) (hd : decode c.code g.pc = .ok (.iastore, 1)) :
    ∃ T' h', Stand p l e R s m args below meth c T' (locs ++ [⟨a, j.toNatClampNeg⟩]) cells slots ∧ T'.heap = h' ∧ Wr h h' a j.toNatClampNeg (.int x) ∧ own_AI Z h' a n (own_upd F k x) ∧ ∀ target, Steps p.tables e below (T'.setTop { g with pc := g.pc + 1, stack := rest }) target → Steps p.tables e below (T.setTop g) target := by
  obtain ⟨c, A, S, H⟩ := V
  obtain ⟨q, e'⟩ := own_idx hk hn S
  obtain ⟨T', h', X', e1, W, st⟩ := stI X hx hZ eT A q hg hs hd
  exact ⟨T', h', X', e1, W, own_A.set A S H W (by rw [e']; exact hn) (fun i _ => by rw [e']; show Value.int (if i = k then x else F i) = _; by_cases z : i = k <;> simp [z]), st⟩
theorem own_stB (X : Stand p l e R s m args below meth c T locs cells slots) (hx : p.tables.exec = Jvm.exec) (hZ : Z.Warmed39 s.vm) (eT : T.heap = h) {F : Nat → Int32} (V : own_AB Z h a n F) {j : Int32} {x : Int32} {k : Nat} (hk : j.toInt = k) (hn : k < n) {g : JFrame} (hg : g.method = m) {rest : List Value} (hs : g.stack = .int x :: .int j :: .ref a :: rest) (hd : decode c.code g.pc = .ok (.bastore, 1)) :
    ∃ T' h', Stand p l e R s m args below meth c T' (locs ++ [⟨a, j.toNatClampNeg⟩]) cells slots ∧ T'.heap = h' ∧ Wr h h' a j.toNatClampNeg (.int (nar .byte x)) ∧ own_AB Z h' a n (own_upd F k (nar .byte x)) ∧ ∀ target, Steps p.tables e below (T'.setTop { g with pc := g.pc + 1, stack := rest }) target → Steps p.tables e below (T.setTop g) target := by
  obtain ⟨c, A, S, H⟩ := V
  obtain ⟨q, e'⟩ := own_idx hk hn S
  obtain ⟨T', h', X', e1, W, st⟩ := stB X hx hZ eT A q hg hs hd
  exact ⟨T', h', X', e1, W, own_A.set A S H W (by rw [e']; exact hn) (fun i _ => by rw [e']; show Value.int (if i = k then nar .byte x else F i) = _; by_cases z : i = k <;> simp [z]), st⟩
theorem own_newA {cA : ClassId} {z : Int32} {N : Nat} (A : Arr Z h a (newA cA ty z) ty) (hz : z.toInt = N) : own_A Z h a ty N (fun _ => defaultValue ty) := by
  have e : z.toNatClampNeg = N := by show z.toInt.toNat = N; rw [hz]; rfl
  refine ⟨_, A, by rw [sz_new]; exact e, fun k hk => ?_⟩
  show (Array.replicate z.toNatClampNeg (defaultValue ty))[k]? = _
  rw [e]; simp [hk]
theorem own_neg {z : Int32} {N : Nat} (hz : z.toInt = N) : ¬ z < 0 ∧ z.toNatClampNeg = N := by
  refine ⟨fun q => ?_, by show z.toInt.toNat = N; rw [hz]; rfl⟩
  rw [Int32.lt_iff_toInt_lt] at q; have : (0 : Int32).toInt = 0 := by decide
  omega
theorem own_newJ (X : Stand p l e R s m args below meth c T locs cells slots) (hx : p.tables.exec = Jvm.exec) (hZ : Z.Warmed39 s.vm) (w : (Cond.arrayClass .long).before a0 Z = true) (eT : T.heap = h) {g : JFrame} (hg : g.method = m) (hd : decode c.code g.pc = .ok (.newarray .long, 2)) {z : Int32} {rest : List Value} (hs : g.stack = .int z :: rest)
    {N : Nat} (hz : z.toInt = N) {cap : Nat} (hcap : N ≤ cap) (hb : cap * 8 ≤ 536870912) (hc : cells + 1 ≤ R.cells) (hl : slots + cap ≤ R.slots) :
    ∃ T' h', Stand p l e R s m args below meth c T' locs (cells + 1) (slots + cap) ∧ T'.heap = h' ∧ Ext h h' ∧ own_AJ Z h' h.size N (fun _ => 0) ∧ ∀ target, Steps p.tables e below (T'.setTop { g with pc := g.pc + 2, stack := .ref h.size :: rest }) target → Steps p.tables e below (T.setTop g) target := by
  obtain ⟨q1, q2⟩ := own_neg hz
  obtain ⟨T', h', cA, X', e1, E, A, st⟩ := newP X hx hZ (aty := .long) w eT hg hd hs q1 (cap := cap) (by rw [q2]; exact hcap) hb hc hl
  exact ⟨T', h', X', e1, E, own_newA A hz, st⟩
theorem own_newI (X : Stand p l e R s m args below meth c T locs cells slots) (hx : p.tables.exec = Jvm.exec) (hZ : Z.Warmed39 s.vm) (w : (Cond.arrayClass .int).before a0 Z = true) (eT : T.heap = h) {g : JFrame} (hg : g.method = m) (hd : decode c.code g.pc = .ok (.newarray .int, 2)) {z : Int32} {rest : List Value} (hs : g.stack = .int z :: rest)
    {N : Nat} (hz : z.toInt = N) {cap : Nat} (hcap : N ≤ cap) (hb : cap * 8 ≤ 536870912) (hc : cells + 1 ≤ R.cells) (hl : slots + cap ≤ R.slots) :
    ∃ T' h', Stand p l e R s m args below meth c T' locs (cells + 1) (slots + cap) ∧ T'.heap = h' ∧ Ext h h' ∧ own_AI Z h' h.size N (fun _ => 0) ∧ ∀ target, Steps p.tables e below (T'.setTop { g with pc := g.pc + 2, stack := .ref h.size :: rest }) target → Steps p.tables e below (T.setTop g) target := by
  obtain ⟨q1, q2⟩ := own_neg hz
  obtain ⟨T', h', cA, X', e1, E, A, st⟩ := newP X hx hZ (aty := .int) w eT hg hd hs q1 (cap := cap) (by rw [q2]; exact hcap) hb hc hl
  exact ⟨T', h', X', e1, E, own_newA A hz, st⟩
theorem own_newB (X : Stand p l e R s m args below meth c T locs cells slots) (hx : p.tables.exec = Jvm.exec) (hZ : Z.Warmed39 s.vm) (w : (Cond.arrayClass .byte).before a0 Z = true) (eT : T.heap = h) {g : JFrame} (hg : g.method = m) (hd : decode c.code g.pc = .ok (.newarray .byte, 2)) {z : Int32} {rest : List Value} (hs : g.stack = .int z :: rest)
    {N : Nat} (hz : z.toInt = N) {cap : Nat} (hcap : N ≤ cap) (hb : cap * 8 ≤ 536870912) (hc : cells + 1 ≤ R.cells) (hl : slots + cap ≤ R.slots) :
    ∃ T' h', Stand p l e R s m args below meth c T' locs (cells + 1) (slots + cap) ∧ T'.heap = h' ∧ Ext h h' ∧ own_AB Z h' h.size N (fun _ => 0) ∧ ∀ target, Steps p.tables e below (T'.setTop { g with pc := g.pc + 2, stack := .ref h.size :: rest }) target → Steps p.tables e below (T.setTop g) target := by
  obtain ⟨q1, q2⟩ := own_neg hz
  obtain ⟨T', h', cA, X', e1, E, A, st⟩ := newP X hx hZ (aty := .byte) w eT hg hd hs q1 (cap := cap) (by rw [q2]; exact hcap) hb hc hl
  exact ⟨T', h', X', e1, E, own_newA A hz, st⟩
theorem own_len (X : Stand p l e R s m args below meth c T locs cells slots) (hx : p.tables.exec = Jvm.exec) (hZ : Z.Warmed39 s.vm) (eT : T.heap = h) (V : own_A Z h a ty n f) {z : Int32} (hz : z.toInt = n) {g : JFrame} (hg : g.method = m) {rest : List Value} (hs : g.stack = .ref a :: rest) (hd : decode c.code g.pc = .ok (.arraylength, 1)) :
    ∀ target, Steps p.tables e below (T.setTop { g with pc := g.pc + 1, stack := .int z :: rest }) target → Steps p.tables e below (T.setTop g) target := by
  obtain ⟨c, A, S, H⟩ := V
  obtain ⟨q1, q2⟩ := own_neg hz
  intro target hr
  exact X.arraylength hx (by rw [eT]; exact A.1) (State.isArrayOf_alike hZ.alike A.2.1) hg hs hd target (by rw [len_of (S.trans q2.symm) q1]; exact hr)
end New
end Jvm.RoadKit
namespace Jvm.Pilot.@@N@@
open Jvm Jvm.ClassFile Sem Op Lib Jvm.Free Jvm.Stand Jvm.LawKit Jvm.RoadKit Bundle Jvm.Pilot.@@N@@.Jvm.D
theorem own_nat {x : Int32} {a : Nat} (h : x.toInt = a) : x = Int32.ofNat a := by
  have r := rng32 x
  rw [← Int32.toInt_inj, h, Int32.toInt_ofNat_of_lt (by omega)]
theorem own_ushrL_def (x : Int64) (y : Int32) : XT.ushrL x y = (x.toUInt64 >>> (y.toInt64.toUInt64 &&& Int64.toUInt64 63)).toInt64 := rfl
theorem own_k64 : ∀ k : Fin 64, ((Int32.ofNat k.val).toInt64.toUInt64 &&& Int64.toUInt64 63).toBitVec = BitVec.ofNat 64 k.val ∧ (((Int32.ofNat k.val).toInt64 &&& 63).toBitVec.smod 64) = BitVec.ofNat 64 k.val ∧ (((1 : Int64) <<< ((Int32.ofNat k.val).toInt64 &&& 63)) - (1 : Int64)).toBitVec = BitVec.ofNat 64 (2 ^ k.val - 1) := by decide +kernel
theorem own_ushr (x : Int64) {y : Int32} {k : Nat} (h : y.toInt = k) (hk : k < 64) : (XT.ushrL x y).toBitVec = x.toBitVec >>> k := by
  have q := (own_k64 ⟨k, hk⟩).1
  rw [own_nat h, own_ushrL_def]
  show ((x.toUInt64 >>> ((Int32.ofNat k).toInt64.toUInt64 &&& Int64.toUInt64 63))).toBitVec = _
  rw [UInt64.toBitVec_shiftRight, q, BitVec.ushiftRight_eq', BitVec.toNat_umod, BitVec.toNat_ofNat]
  show x.toBitVec >>> (k % 2 ^ 64 % 64) = _
  rw [Nat.mod_eq_of_lt (show k < 2 ^ 64 by omega), Nat.mod_eq_of_lt hk]
theorem own_shl (x : Int64) {y : Int32} {k : Nat} (h : y.toInt = k) (hk : k < 64) : (x <<< (y.toInt64 &&& 63)).toBitVec = x.toBitVec <<< k := by
  have q := (own_k64 ⟨k, hk⟩).2.1
  rw [own_nat h, Int64.toBitVec_shiftLeft, q, BitVec.shiftLeft_eq', BitVec.toNat_ofNat, Nat.mod_eq_of_lt (show k < 2 ^ 64 by omega)]
theorem own_m1 {y : Int32} {k : Nat} (h : y.toInt = k) (hk : k < 64) (i : Nat) : (((1 : Int64) <<< (y.toInt64 &&& 63)) - (1 : Int64)).toBitVec.getLsbD i = (decide (i < k)) := by
  rw [own_nat h, (own_k64 ⟨k, hk⟩).2.2, BitVec.getLsbD_ofNat, Nat.testBit_two_pow_sub_one]
  by_cases a : i < k
  · simp [a, show i < 64 by omega]
  · simp [a]
/-- the bit b of a row of words -/
def own_at (F : Nat → Int64) (b : Nat) : Bool := (F (b / 64)).toBitVec.getLsbD (b % 64)
theorem own_bitJ (x : Int64) {y : Int32} {k : Nat} (h : y.toInt = k) (hk : k < 64) : (XT.ushrL x y &&& (1 : Int64)) = if x.toBitVec.getLsbD k then 1 else 0 := by
  rw [← Int64.toBitVec_inj, Int64.toBitVec_and, own_ushr x h hk]
  show (x.toBitVec >>> k) &&& 1#64 = _
  rw [BitVec.and_one_eq_setWidth_ofBool_getLsbD, BitVec.getLsbD_ushiftRight, Nat.add_zero]
  cases x.toBitVec.getLsbD k <;> decide
theorem own_ext {x y : Int64} (h : ∀ i, i < 64 → x.toBitVec.getLsbD i = y.toBitVec.getLsbD i) : x = y := by
  rw [← Int64.toBitVec_inj]
  exact BitVec.eq_of_getLsbD_eq h
theorem own_of {k : Nat} (h : k < 2147483648) : (Int32.ofNat k).toInt = k := Int32.toInt_ofNat_of_lt h
theorem own_lt {x y : Int32} {a b : Nat} (hx : x.toInt = a) (hy : y.toInt = b) : x < y ↔ a < b := by
  rw [Int32.lt_iff_toInt_lt]; omega
theorem own_add {x y : Int32} {a b : Nat} (hx : x.toInt = a) (hy : y.toInt = b) (h : a + b < 2147483648) : (x + y).toInt = ((a + b : Nat) : Int) := by
  have q := c_iadd x y
  have r := rng32 (x + y)
  omega
theorem own_sub {x y : Int32} {a b : Nat} (hx : x.toInt = a) (hy : y.toInt = b) (h : b ≤ a) : (x - y).toInt = ((a - b : Nat) : Int) := by
  have q := c_isub x y
  have r := rng32 (x - y)
  have r1 := rng32 x
  omega
theorem own_addJ {x y : Int64} {a b : Nat} (hx : x.toInt = a) (hy : y.toInt = b) (h : a + b < 2147483648) : (x + y).toInt = ((a + b : Nat) : Int) := by
  have q := c_ladd x y
  have r := rng64 (x + y)
  omega
theorem own_subJ {x y : Int64} {a b : Nat} (hx : x.toInt = a) (hy : y.toInt = b) (h : b ≤ a) (h2 : a < 2147483648) : (x - y).toInt = ((a - b : Nat) : Int) := by
  have q := c_lsub x y
  have r := rng64 (x - y)
  omega
def own_abs (x : Int64) : Int64 := if x < (0 : Int64) then (-x) else x
theorem own_hmF : ∀ k : Fin 65, (XT.ushrL (own_abs (72 : Int64) ||| own_abs (Int32.ofNat k.val).toInt64) (31 : Int32)) = (0 : Int64) := by decide +kernel
theorem own_hm {q : Int64} {p : Int32} {w : Nat} (hq : q.toInt = 72) (hp : p.toInt = w) (h : w ≤ 64) : (XT.ushrL (own_abs q ||| own_abs p.toInt64) (31 : Int32)) = (0 : Int64) := by
  have e : q = (72 : Int64) := by rw [← Int64.toInt_inj, hq]; decide
  rw [e, own_nat hp]; exact own_hmF ⟨w, by omega⟩
theorem own_nw {q : Int64} {p : Int32} {w : Nat} (hq : q.toInt = 72) (hp : p.toInt = w) (h : w ≤ 64) : (((((q * p.toInt64) + (64 : Int64)) - (1 : Int64)) / (64 : Int64)) + (1 : Int64)).toInt = (((72 * w + 63) / 64 + 1 : Nat) : Int) := by
  have k1 : (64 : Int64).toInt = 64 := by decide
  have k2 : (1 : Int64).toInt = 1 := by decide
  have e1 : (q * p.toInt64).toInt = 72 * (w : Int) := by rw [XT.mul64 (by rw [c_i2l, hq, hp]; exact ⟨by omega, by omega⟩), c_i2l, hq, hp]
  have e2 : ((q * p.toInt64) + (64 : Int64)).toInt = 72 * (w : Int) + 64 := by rw [XT.add64 (by rw [e1, k1]; exact ⟨by omega, by omega⟩), e1, k1]
  have e3 : (((q * p.toInt64) + (64 : Int64)) - (1 : Int64)).toInt = 72 * (w : Int) + 64 - 1 := by rw [XT.sub64 (by rw [e2, k2]; exact ⟨by omega, by omega⟩), e2, k2]
  have e4 := (c_ldiv (((q * p.toInt64) + (64 : Int64)) - (1 : Int64)) (64 : Int64) 64 (by decide) (by decide)).1 (by rw [e3]; omega)
  rw [e3] at e4
  rw [XT.add64 (by rw [e4, k2]; exact ⟨by omega, by omega⟩), e4, k2]
  omega
theorem own_l2i {x : Int64} {a : Nat} (h : x.toInt = a) (ha : a < 2147483648) : x.toInt32.toInt = a := by
  have q := c_l2i x
  have r := rng32 x.toInt32
  omega
theorem own_ff {i : Nat} (h : i < 64) : (-1 : Int64).toBitVec.getLsbD i = true := by
  rw [show (-1 : Int64).toBitVec = BitVec.allOnes 64 by decide, BitVec.getLsbD_allOnes]; simp [h]
theorem own_mkA {p : Int32} {w : Nat} (hp : p.toInt = w) (h : p = (64 : Int32)) : ∀ i, i < 64 → (-1 : Int64).toBitVec.getLsbD i = decide (i < w) := fun i hi => by
  have e : w = 64 := by rw [h, show (64 : Int32).toInt = 64 by decide] at hp; omega
  rw [own_ff hi, e]; simp [hi]
theorem own_mkB {p : Int32} {w : Nat} (hp : p.toInt = w) (h1 : w ≤ 64) (h : ¬ p = (64 : Int32)) : ∀ i, i < 64 → (((1 : Int64) <<< (p.toInt64 &&& 63)) - (1 : Int64)).toBitVec.getLsbD i = decide (i < w) := fun i hi => by
  have e : w ≠ 64 := fun e => h (by rw [← Int32.toInt_inj, hp, e]; decide)
  exact own_m1 hp (by omega) i
theorem own_ushr6 (x : Int64) {X : Nat} (h : x.toInt = X) : (XT.ushrL x (6 : Int32)).toInt = ((X / 64 : Nat) : Int) := by
  have e : XT.ushrL x (6 : Int32) = (x.toUInt64 >>> ((6 : Int32) &&& 0x3f).toInt64.toUInt64).toInt64 := by
    rw [own_ushrL_def]; exact congrArg (fun z => (x.toUInt64 >>> z).toInt64) (by decide)
  have q := c_lushr x (6 : Int32) 6 (by decide) (by decide)
  have r := rng64 x
  rw [e]; omega
theorem own_bt {q : Int64} {p : Int32} {X : Nat} (h : q.toInt * p.toInt = (X : Int)) (hX : X < 8192) : (q * p.toInt64).toInt = (X : Int) := by
  rw [XT.mul64 (by rw [c_i2l p, h]; exact ⟨by omega, by omega⟩), c_i2l p, h]
theorem own_wd {x : Int64} {X : Nat} (h : x.toInt = X) (hX : X < 8192) : (XT.ushrL x (6 : Int32)).toInt32.toInt = ((X / 64 : Nat) : Int) := own_l2i (own_ushr6 x h) (by omega)
theorem own_sh {x : Int64} {X : Nat} (h : x.toInt = X) (hX : X < 8192) : (x.toInt32 &&& (63 : Int32)).toInt = ((X % 64 : Nat) : Int) := by
  have q := own_l2i h (by omega)
  have m := c_mask x.toInt32 (63 : Int32) 6 (by decide) (by decide)
  omega
theorem own_wbit {x v mk : Int64} {w S : Nat} {sh : Int32} (hsh : sh.toInt = S) (hS : S < 64) (hmk : ∀ i, i < 64 → mk.toBitVec.getLsbD i = decide (i < w)) {k : Nat} (hk : k < 64) :
    ((x &&& ((mk <<< (sh.toInt64 &&& 63)) ^^^ (-1 : Int64))) ||| ((v &&& mk) <<< (sh.toInt64 &&& 63))).toBitVec.getLsbD k = if S ≤ k ∧ k - S < w then v.toBitVec.getLsbD (k - S) else x.toBitVec.getLsbD k := by
  rw [Int64.toBitVec_or, Int64.toBitVec_and, Int64.toBitVec_xor, BitVec.getLsbD_or, BitVec.getLsbD_and, BitVec.getLsbD_xor, own_shl _ hsh hS, own_shl _ hsh hS, BitVec.getLsbD_shiftLeft, BitVec.getLsbD_shiftLeft, Int64.toBitVec_and, BitVec.getLsbD_and, own_ff hk, hmk (k - S) (by omega)]
  by_cases a : k < S
  · simp [a, show ¬ S ≤ k by omega]
  · by_cases b : k - S < w
    · simp [a, b, hk, show S ≤ k by omega]
    · simp [a, b, hk]
theorem own_wbit2 {x v mk : Int64} {w S : Nat} {sh : Int32} (hsh : sh.toInt = S) (hS : S < 64) (hw : w ≤ 64) (hmk : ∀ i, i < 64 → mk.toBitVec.getLsbD i = decide (i < w)) {k : Nat} (hk : k < 64) :
    ((x &&& ((XT.ushrL mk sh) ^^^ (-1 : Int64))) ||| (XT.ushrL (v &&& mk) sh)).toBitVec.getLsbD k = if k + S < w then v.toBitVec.getLsbD (k + S) else x.toBitVec.getLsbD k := by
  rw [Int64.toBitVec_or, Int64.toBitVec_and, Int64.toBitVec_xor, BitVec.getLsbD_or, BitVec.getLsbD_and, BitVec.getLsbD_xor, own_ushr _ hsh hS, own_ushr _ hsh hS, BitVec.getLsbD_ushiftRight, BitVec.getLsbD_ushiftRight, Int64.toBitVec_and, BitVec.getLsbD_and, own_ff hk, Nat.add_comm S k]
  by_cases a : k + S < 64
  · rw [hmk _ a]
    by_cases b : k + S < w
    · simp [b]
    · simp [b]
  · rw [BitVec.getLsbD_of_ge mk.toBitVec _ (show 64 ≤ k + S by omega), if_neg (by omega)]; simp
def own_w1 (x v mk : Int64) (sh : Int32) : Int64 := ((x &&& ((mk <<< (sh.toInt64 &&& 63)) ^^^ (-1 : Int64))) ||| ((v &&& mk) <<< (sh.toInt64 &&& 63)))
def own_w2 (x v mk : Int64) (sh : Int32) : Int64 := ((x &&& ((XT.ushrL mk sh) ^^^ (-1 : Int64))) ||| (XT.ushrL (v &&& mk) sh))
theorem own_upd_at (F : Nat → Int64) (k : Nat) (x : Int64) (b : Nat) : own_at (own_upd F k x) b = if b / 64 = k then x.toBitVec.getLsbD (b % 64) else own_at F b := by
  unfold own_at own_upd
  by_cases e : b / 64 = k <;> simp [e]
theorem own_set1 (F : Nat → Int64) (v mk : Int64) (w X : Nat) {sh : Int32} (hsh : sh.toInt = ((X % 64 : Nat) : Int)) (hmk : ∀ i, i < 64 → mk.toBitVec.getLsbD i = decide (i < w)) (hno : ¬ 64 < X % 64 + w) (b : Nat) :
    own_at (own_upd F (X / 64) (own_w1 (F (X / 64)) v mk sh)) b = if X ≤ b ∧ b < X + w then v.toBitVec.getLsbD (b - X) else own_at F b := by
  rw [own_upd_at]
  by_cases e : b / 64 = X / 64
  · rw [if_pos e, own_w1, own_wbit hsh (Nat.mod_lt _ (by decide)) hmk (Nat.mod_lt _ (by decide))]
    by_cases d : X ≤ b ∧ b < X + w
    · rw [if_pos (show X % 64 ≤ b % 64 ∧ b % 64 - X % 64 < w by omega), if_pos d, show b % 64 - X % 64 = b - X by omega]
    · rw [if_neg (show ¬ (X % 64 ≤ b % 64 ∧ b % 64 - X % 64 < w) by omega), if_neg d, ← e]; rfl
  · rw [if_neg e, if_neg (show ¬ (X ≤ b ∧ b < X + w) by omega)]
theorem own_set2 (F : Nat → Int64) (v mk : Int64) (w X : Nat) {sh lo : Int32} (hsh : sh.toInt = ((X % 64 : Nat) : Int)) (hlo : lo.toInt = ((64 - X % 64 : Nat) : Int)) (hw : w ≤ 64) (hmk : ∀ i, i < 64 → mk.toBitVec.getLsbD i = decide (i < w)) (hyes : 64 < X % 64 + w) (b : Nat) :
    own_at (own_upd (own_upd F (X / 64) (own_w1 (F (X / 64)) v mk sh)) (X / 64 + 1) (own_w2 ((own_upd F (X / 64) (own_w1 (F (X / 64)) v mk sh)) (X / 64 + 1)) v mk lo)) b = if X ≤ b ∧ b < X + w then v.toBitVec.getLsbD (b - X) else own_at F b := by
  rw [own_upd_at, show (own_upd F (X / 64) (own_w1 (F (X / 64)) v mk sh)) (X / 64 + 1) = F (X / 64 + 1) by unfold own_upd; rw [if_neg (by omega)]]
  by_cases e : b / 64 = X / 64 + 1
  · rw [if_pos e, own_w2, own_wbit2 hlo (by omega) hw hmk (Nat.mod_lt _ (by decide))]
    by_cases d : X ≤ b ∧ b < X + w
    · rw [if_pos (show b % 64 + (64 - X % 64) < w by omega), if_pos d, show b % 64 + (64 - X % 64) = b - X by omega]
    · rw [if_neg (show ¬ (b % 64 + (64 - X % 64) < w) by omega), if_neg d, ← e]; rfl
  · rw [if_neg e, own_upd_at]
    by_cases e2 : b / 64 = X / 64
    · rw [if_pos e2, own_w1, own_wbit hsh (Nat.mod_lt _ (by decide)) hmk (Nat.mod_lt _ (by decide))]
      by_cases d : X ≤ b ∧ b < X + w
      · rw [if_pos (show X % 64 ≤ b % 64 ∧ b % 64 - X % 64 < w by omega), if_pos d, show b % 64 - X % 64 = b - X by omega]
      · rw [if_neg (show ¬ (X % 64 ≤ b % 64 ∧ b % 64 - X % 64 < w) by omega), if_neg d, ← e2]; rfl
    · rw [if_neg e2, if_neg (show ¬ (X ≤ b ∧ b < X + w) by omega)]
def own_getv (F : Nat → Int64) (X : Nat) (mk : Int64) : Int64 := ((XT.ushrL (F (X / 64)) (Int32.ofNat (X % 64))) ||| (((F (X / 64 + 1)) <<< ((1 : Int32).toInt64 &&& 63)) <<< (((63 : Int32) - Int32.ofNat (X % 64)).toInt64 &&& 63))) &&& mk
theorem own_get_bit (F : Nat → Int64) (X w : Nat) {mk : Int64} (hmk : ∀ i, i < 64 → mk.toBitVec.getLsbD i = decide (i < w)) {k : Nat} (hk : k < 64) : (own_getv F X mk).toBitVec.getLsbD k = (decide (k < w) && own_at F (X + k)) := by
  have hs : X % 64 < 64 := Nat.mod_lt _ (by decide)
  unfold own_getv
  rw [Int64.toBitVec_and, BitVec.getLsbD_and, hmk k hk, Int64.toBitVec_or, BitVec.getLsbD_or, own_ushr _ (own_of (k := X % 64) (by omega)) hs,
    own_shl _ (own_sub (show (63 : Int32).toInt = (63 : Nat) by decide) (own_of (k := X % 64) (by omega)) (by omega)) (by omega), own_shl _ (show (1 : Int32).toInt = (1 : Nat) by decide) (by decide), BitVec.getLsbD_ushiftRight, BitVec.getLsbD_shiftLeft, BitVec.getLsbD_shiftLeft, Bool.and_comm]
  congr 1
  unfold own_at
  by_cases d : X % 64 + k < 64
  · rw [show (X + k) / 64 = X / 64 by omega, show (X + k) % 64 = X % 64 + k by omega]
    by_cases e : k < 63 - X % 64
    · simp [e]
    · simp [e, show k - (63 - X % 64) < 1 by omega]
  · rw [BitVec.getLsbD_of_ge _ _ (show 64 ≤ X % 64 + k by omega), show (X + k) / 64 = X / 64 + 1 by omega, show (X + k) % 64 = k - (63 - X % 64) - 1 by omega]
    simp [show ¬ k < 63 - X % 64 by omega, show ¬ k - (63 - X % 64) < 1 by omega, hk, show k - (63 - X % 64) < 64 by omega]
theorem own_prod {q : Int64} {p : Int32} {I w X : Nat} (hq : q.toInt = I) (hp : p.toInt = w) (h : I * w = X) : q.toInt * p.toInt = (X : Int) := by rw [hq, hp, ← h, Int.natCast_mul]
theorem own_w64 (x : Int32) : ∃ w : Nat, ((x &&& (63 : Int32)) + (1 : Int32)).toInt = w ∧ 1 ≤ w ∧ w ≤ 64 := by
  have h := c_mask x (63 : Int32) 6 (by decide) (by decide)
  have q := c_iadd (x &&& (63 : Int32)) (1 : Int32)
  have r := rng32 ((x &&& (63 : Int32)) + (1 : Int32))
  have k : (1 : Int32).toInt = 1 := by decide
  exact ⟨((x &&& (63 : Int32)) + (1 : Int32)).toInt.toNat, by omega, by omega, by omega⟩
theorem own_chk {F : Nat → Int64} {X w : Nat} {mk r : Int64} (hmk : ∀ i, i < 64 → mk.toBitVec.getLsbD i = decide (i < w)) (hr : ∀ k, k < 64 → r.toBitVec.getLsbD k = (decide (k < w) && own_at F (X + k))) : own_getv F X mk = r := by
  apply own_ext
  intro k hk
  rw [own_get_bit F X w hmk hk, hr k hk]
theorem own_d5_0 : decode jdk_29_method_61_code 0 = .ok (.lload_n 0, 1) := by decide +kernel
theorem own_d5_1 : decode jdk_29_method_61_code 1 = .ok (.lconst 0, 1) := by decide +kernel
theorem own_d5_2 : decode jdk_29_method_61_code 2 = .ok (.lcmp, 1) := by decide +kernel
theorem own_d5_3 : decode jdk_29_method_61_code 3 = .ok (.ifCond .ge 8, 3) := by decide +kernel
theorem own_d5_6 : decode jdk_29_method_61_code 6 = .ok (.lload_n 0, 1) := by decide +kernel
theorem own_d5_7 : decode jdk_29_method_61_code 7 = .ok (.lneg, 1) := by decide +kernel
theorem own_d5_8 : decode jdk_29_method_61_code 8 = .ok (.goto 4, 3) := by decide +kernel
theorem own_d5_12 : decode jdk_29_method_61_code 12 = .ok (.lreturn, 1) := by decide +kernel
theorem own_d5_11 : decode jdk_29_method_61_code 11 = .ok (.lload_n 0, 1) := by decide +kernel
theorem own_ef1 (m : MethodId) (x0 : Int64) : entryFrame m #[(.long x0)] 2 = mkF m 0 #[.val (.long x0), .second] [] := by first | (simp [entryFrame, mkF, argsToLocals, Value.category]; done) | rfl
def own_Q1 (Z : State) (q0 : Int64) (h0 : Heap) (n0 : Nat) (v : Option Value) (h : Heap) (L : List Loc) : Prop := v = some (.long (own_abs q0)) ∧ Fr n0 L ∧ h = h0
set_option maxRecDepth 65536 in
set_option maxHeartbeats 40000000 in
theorem rm1 (l : Launch) (Z : State) (aw : Array Value) (hw : ∀ d ∈ tables_1, d.before aw Z = true) (ws : List Jvm.Cond) (q0 : Int64) (h0 : Heap) (n0 : Nat) (Z0 : n0 ≤ h0.size) :
    MetFree l (⟨"java/lang/Math", "abs", "(J)J"⟩ : MethodName) (head1 (Jvm.Cond.code (⟨"java/lang/Math", "abs", "(J)J"⟩ : MethodName) jdk_29_method_61_code 2 (some .long) :: ws) ({ frames := 0, cells := 0, slots := 0, locals := 0 } : Room)) (fun a U => a = #[(.long q0)] ∧ Z.Warmed39 U.vm ∧ U.heap = h0) (fun _ _ _ _ _ => True) (fun _ U o U' => ∃ v L, o = .returned v ∧ own_Q1 Z q0 h0 n0 v U'.heap L ∧ FrameEnd U o U' L ({ frames := 0, cells := 0, slots := 0, locals := 0 } : Room).cells ({ frames := 0, cells := 0, slots := 0, locals := 0 } : Room).slots) := by
  refine MetFree.of_bodySF (Jvm.Free.JP.mathPlain rfl (by decide +kernel)) hisR ?_
  intro p e s m args below meth c s₁ Bd hml0 hP hK
  obtain ⟨rfl, hZ, hh⟩ := hP
  have hx := Bd.exec
  have hby := Bd.bytes
  have hml : c.maxLocals = 2 := hml0
  have hown : s.vm.findClass "java/lang/Math" = some m.cls := findClass_of_methodNamed Bd.named
  have hnm := (name_of_methodNamed Bd.named Bd.method).1
  have X0 : Stand p l e ({ frames := 0, cells := 0, slots := 0, locals := 0 } : Room) s m #[(.long q0)] below meth c s₁ [] 0 0 := Stand.of_body Bd
  have e0 : s₁.heap = h0 := by rw [← hh, Bd.state]; rfl
  have N0 := Fr.nil n0
  show own_G p.tables e below s (own_Q1 Z q0 h0 n0) ({ frames := 0, cells := 0, slots := 0, locals := 0 } : Room).cells ({ frames := 0, cells := 0, slots := 0, locals := 0 } : Room).slots (s₁.setTop (entryFrame m #[(.long q0)] 2))
  refine own_by (fun _ k => castTop (own_ef1 m q0) k) ?_
  show own_G _ _ _ _ _ _ _ (s₁.setTop (mkF m 0 #[.val (.long q0), .second] []))
  refine own_by (fun _ k => XT.lloadN X0.here hx rfl (hb hby own_d5_0) rfl  k) ?_
  show own_G _ _ _ _ _ _ _ (s₁.setTop (mkF m 1 #[.val (.long q0), .second] [(.long q0)]))
  refine own_by (fun _ k => XT.lconst X0.here hx rfl (hb hby own_d5_1) k) ?_
  show own_G _ _ _ _ _ _ _ (s₁.setTop (mkF m 2 #[.val (.long q0), .second] [(.long (0 : Int64)), (.long q0)]))
  refine own_by (fun _ k => XT.lcmp X0.here hx rfl (hb hby own_d5_2) rfl k) ?_
  show own_G _ _ _ _ _ _ _ (s₁.setTop (mkF m 3 #[.val (.long q0), .second] [(.int (XT.cmpL q0 (0 : Int64)))]))
  by_cases hc3 : q0 < (0 : Int64)
  · refine own_by (fun _ k => XS.ifNo X0.here hx rfl (hb hby own_d5_3) rfl (XT.ll_ge_f hc3) k) ?_
    show own_G _ _ _ _ _ _ _ (s₁.setTop (mkF m 6 #[.val (.long q0), .second] []))
    refine own_by (fun _ k => XT.lloadN X0.here hx rfl (hb hby own_d5_6) rfl  k) ?_
    show own_G _ _ _ _ _ _ _ (s₁.setTop (mkF m 7 #[.val (.long q0), .second] [(.long q0)]))
    refine own_by (fun _ k => XT.lneg X0.here hx rfl (hb hby own_d5_7) rfl k) ?_
    show own_G _ _ _ _ _ _ _ (s₁.setTop (mkF m 8 #[.val (.long q0), .second] [(.long (-q0))]))
    refine own_by (fun _ k => XS.goto X0.here hx rfl (pc0 := 8) (pc' := 12) rfl (hb hby own_d5_8) (by decide) (by decide) k) ?_
    show own_G _ _ _ _ _ _ _ (s₁.setTop (mkF m 12 #[.val (.long q0), .second] [(.long (-q0))]))
    exact own_end X0 (v := some (.long (-q0))) (fun h => by rw [Bd.returns] at h; cases h) (BodyLoose.notSynchronized Bd) (fun fs hr => X0.lreturnOut hx Bd.returns (hb hby own_d5_12) hr) (by rw [e0]; exact ⟨(by simp only [own_abs, if_pos hc3]; first | done | rfl), N0, rfl⟩) (by decide) (by decide)
  · refine own_by (fun _ k => XS.ifYes X0.here hx rfl (pc0 := 3) (pc' := 11) rfl (hb hby own_d5_3) rfl (XT.ll_ge_t hc3) (by decide) (by decide) k) ?_
    show own_G _ _ _ _ _ _ _ (s₁.setTop (mkF m 11 #[.val (.long q0), .second] []))
    refine own_by (fun _ k => XT.lloadN X0.here hx rfl (hb hby own_d5_11) rfl  k) ?_
    show own_G _ _ _ _ _ _ _ (s₁.setTop (mkF m 12 #[.val (.long q0), .second] [(.long q0)]))
    exact own_end X0 (v := some (.long q0)) (fun h => by rw [Bd.returns] at h; cases h) (BodyLoose.notSynchronized Bd) (fun fs hr => X0.lreturnOut hx Bd.returns (hb hby own_d5_12) hr) (by rw [e0]; exact ⟨(by simp only [own_abs, if_neg hc3]; first | done | rfl), N0, rfl⟩) (by decide) (by decide)
theorem own_d4_0 : decode jdk_29_method_30_code 0 = .ok (.lload_n 0, 1) := by decide +kernel
theorem own_d4_1 : decode jdk_29_method_30_code 1 = .ok (.lload_n 2, 1) := by decide +kernel
theorem own_d4_2 : decode jdk_29_method_30_code 2 = .ok (.lmul, 1) := by decide +kernel
theorem own_d4_3 : decode jdk_29_method_30_code 3 = .ok (.lstore 4, 2) := by decide +kernel
theorem own_d4_5 : decode jdk_29_method_30_code 5 = .ok (.lload_n 0, 1) := by decide +kernel
theorem own_d4_6 : decode jdk_29_method_30_code 6 = .ok (.invokestatic 122, 3) := by decide +kernel
theorem own_pd0 : parseMethodDescriptor "(J)J" = some ⟨[.long], some .long⟩ := by decide +kernel
theorem own_d4_9 : decode jdk_29_method_30_code 9 = .ok (.lstore 6, 2) := by decide +kernel
theorem own_d4_11 : decode jdk_29_method_30_code 11 = .ok (.lload_n 2, 1) := by decide +kernel
theorem own_d4_12 : decode jdk_29_method_30_code 12 = .ok (.invokestatic 122, 3) := by decide +kernel
theorem own_d4_15 : decode jdk_29_method_30_code 15 = .ok (.lstore 8, 2) := by decide +kernel
theorem own_d4_17 : decode jdk_29_method_30_code 17 = .ok (.lload 6, 2) := by decide +kernel
theorem own_d4_19 : decode jdk_29_method_30_code 19 = .ok (.lload 8, 2) := by decide +kernel
theorem own_d4_21 : decode jdk_29_method_30_code 21 = .ok (.lor, 1) := by decide +kernel
theorem own_d4_22 : decode jdk_29_method_30_code 22 = .ok (.bipush 31, 2) := by decide +kernel
theorem own_d4_24 : decode jdk_29_method_30_code 24 = .ok (.lushr, 1) := by decide +kernel
theorem own_d4_25 : decode jdk_29_method_30_code 25 = .ok (.lconst 0, 1) := by decide +kernel
theorem own_d4_26 : decode jdk_29_method_30_code 26 = .ok (.lcmp, 1) := by decide +kernel
theorem own_d4_27 : decode jdk_29_method_30_code 27 = .ok (.ifCond .eq 44, 3) := by decide +kernel
theorem own_d4_71 : decode jdk_29_method_30_code 71 = .ok (.lload 4, 2) := by decide +kernel
theorem own_d4_73 : decode jdk_29_method_30_code 73 = .ok (.lreturn, 1) := by decide +kernel
theorem own_ef2 (m : MethodId) (x0 : Int64) (x1 : Int64) : entryFrame m #[(.long x0), (.long x1)] 10 = mkF m 0 #[.val (.long x0), .second, .val (.long x1), .second, .unset, .unset, .unset, .unset, .unset, .unset] [] := by first | (simp [entryFrame, mkF, argsToLocals, Value.category]; done) | rfl
def own_Q2 (Z : State) (q0 : Int64) (q1 : Int64) (h0 : Heap) (n0 : Nat) (v : Option Value) (h : Heap) (L : List Loc) : Prop := v = some (.long (q0 * q1)) ∧ Fr n0 L ∧ h = h0
set_option maxRecDepth 65536 in
set_option maxHeartbeats 40000000 in
theorem rm2 (l : Launch) (Z : State) (aw : Array Value) (hw : ∀ d ∈ tables_1, d.before aw Z = true) (ws : List Jvm.Cond) (q0 : Int64) (q1 : Int64) (h0 : Heap) (n0 : Nat) (Z0 : n0 ≤ h0.size) (hm : (XT.ushrL ((own_abs q0) ||| (own_abs q1)) (31 : Int32)) = (0 : Int64)) :
    MetFree l (⟨"java/lang/Math", "multiplyExact", "(JJ)J"⟩ : MethodName) (head1 (Jvm.Cond.code (⟨"java/lang/Math", "multiplyExact", "(JJ)J"⟩ : MethodName) jdk_29_method_30_code 10 (some .long) :: ws) ({ frames := 1, cells := 0, slots := 0, locals := 13 } : Room)) (fun a U => a = #[(.long q0), (.long q1)] ∧ Z.Warmed39 U.vm ∧ U.heap = h0) (fun _ _ _ _ _ => True) (fun _ U o U' => ∃ v L, o = .returned v ∧ own_Q2 Z q0 q1 h0 n0 v U'.heap L ∧ FrameEnd U o U' L ({ frames := 1, cells := 0, slots := 0, locals := 13 } : Room).cells ({ frames := 1, cells := 0, slots := 0, locals := 13 } : Room).slots) := by
  refine MetFree.of_bodySF (Jvm.Free.JP.mathPlain rfl (by decide +kernel)) hisR ?_
  intro p e s m args below meth c s₁ Bd hml0 hP hK
  obtain ⟨rfl, hZ, hh⟩ := hP
  have hx := Bd.exec
  have hby := Bd.bytes
  have hml : c.maxLocals = 10 := hml0
  have hown : s.vm.findClass "java/lang/Math" = some m.cls := findClass_of_methodNamed Bd.named
  have hnm := (name_of_methodNamed Bd.named Bd.method).1
  have X0 : Stand p l e ({ frames := 1, cells := 0, slots := 0, locals := 13 } : Room) s m #[(.long q0), (.long q1)] below meth c s₁ [] 0 0 := Stand.of_body Bd
  have e0 : s₁.heap = h0 := by rw [← hh, Bd.state]; rfl
  have N0 := Fr.nil n0
  show own_G p.tables e below s (own_Q2 Z q0 q1 h0 n0) ({ frames := 1, cells := 0, slots := 0, locals := 13 } : Room).cells ({ frames := 1, cells := 0, slots := 0, locals := 13 } : Room).slots (s₁.setTop (entryFrame m #[(.long q0), (.long q1)] 10))
  refine own_by (fun _ k => castTop (own_ef2 m q0 q1) k) ?_
  show own_G _ _ _ _ _ _ _ (s₁.setTop (mkF m 0 #[.val (.long q0), .second, .val (.long q1), .second, .unset, .unset, .unset, .unset, .unset, .unset] []))
  refine own_by (fun _ k => XT.lloadN X0.here hx rfl (hb hby own_d4_0) rfl  k) ?_
  show own_G _ _ _ _ _ _ _ (s₁.setTop (mkF m 1 #[.val (.long q0), .second, .val (.long q1), .second, .unset, .unset, .unset, .unset, .unset, .unset] [(.long q0)]))
  refine own_by (fun _ k => XT.lloadN X0.here hx rfl (hb hby own_d4_1) rfl  k) ?_
  show own_G _ _ _ _ _ _ _ (s₁.setTop (mkF m 2 #[.val (.long q0), .second, .val (.long q1), .second, .unset, .unset, .unset, .unset, .unset, .unset] [(.long q1), (.long q0)]))
  refine own_by (fun _ k => XT.lmul X0.here hx rfl (hb hby own_d4_2) rfl k) ?_
  show own_G _ _ _ _ _ _ _ (s₁.setTop (mkF m 3 #[.val (.long q0), .second, .val (.long q1), .second, .unset, .unset, .unset, .unset, .unset, .unset] [(.long (q0 * q1))]))
  refine own_by (fun _ k => XT.lstore X0.here hx rfl (hb hby own_d4_3) rfl (l' := #[.val (.long q0), .second, .val (.long q1), .second, .val (.long (q0 * q1)), .second, .unset, .unset, .unset, .unset]) rfl k) ?_
  show own_G _ _ _ _ _ _ _ (s₁.setTop (mkF m 5 #[.val (.long q0), .second, .val (.long q1), .second, .val (.long (q0 * q1)), .second, .unset, .unset, .unset, .unset] []))
  refine own_by (fun _ k => XT.lloadN X0.here hx rfl (hb hby own_d4_5) rfl  k) ?_
  show own_G _ _ _ _ _ _ _ (s₁.setTop (mkF m 6 #[.val (.long q0), .second, .val (.long q1), .second, .val (.long (q0 * q1)), .second, .unset, .unset, .unset, .unset] [(.long q0)]))
  obtain ⟨_, _, ⟨T1, L1, k1, n1⟩, -, X1, ⟨Lc1, hQ1, l1, y1, z1⟩, st1⟩ := Jvm.LawKit.callS X0 hx (y := (⟨"java/lang/Math", "abs", "(J)J"⟩ : MethodName)) hown (mvT hZ (hw _ (List.mem_of_getElem? (i := 19) rfl))) (mvT hZ (hw _ (List.mem_of_getElem? (i := 20) rfl))) (mvT hZ (hw _ (List.mem_of_getElem? (i := 14) rfl))) (mvT hZ (hw _ (List.mem_of_getElem? (i := 21) rfl))) (by decide) (backOf (W := 0) (rm1 l Z aw hw [] q0 h0 n0 Z0 ) hZ (hw _ (List.mem_of_getElem? (i := 21) rfl)) (hw _ (List.mem_of_getElem? (i := 14) rfl)) (by decide) (by decide)) (g := (mkF m 6 #[.val (.long q0), .second, .val (.long q1), .second, .val (.long (q0 * q1)), .second, .unset, .unset, .unset, .unset] [(.long q0)])) rfl (by rw [hml]; rfl) (argsL := [(.long q0)]) (rest := []) (lenOf own_pd0 rfl) rfl (by show 2 * 0 + _ ≤ _; exact Nat.le_of_eq rfl) (hb hby own_d4_6) (fun _ _ => ⟨rfl, e0, (by decide : 0 + 0 ≤ _), (by decide : 0 + 0 ≤ _)⟩)
  dsimp only [Pt.U, Pt.locs, Pt.cells, Pt.slots] at X1 l1 y1 z1 st1 hQ1
  subst l1 y1 z1
  obtain ⟨rfl, Nq1, e1⟩ := hQ1
  have N1 := Fr.app N0 Nq1
  refine own_by (fun _ k => st1 _ k) ?_
  show own_G _ _ _ _ _ _ _ (T1.setTop (mkF m 9 #[.val (.long q0), .second, .val (.long q1), .second, .val (.long (q0 * q1)), .second, .unset, .unset, .unset, .unset] [(.long (own_abs q0))]))
  refine own_by (fun _ k => XT.lstore X1.here hx rfl (hb hby own_d4_9) rfl (l' := #[.val (.long q0), .second, .val (.long q1), .second, .val (.long (q0 * q1)), .second, .val (.long (own_abs q0)), .second, .unset, .unset]) rfl k) ?_
  show own_G _ _ _ _ _ _ _ (T1.setTop (mkF m 11 #[.val (.long q0), .second, .val (.long q1), .second, .val (.long (q0 * q1)), .second, .val (.long (own_abs q0)), .second, .unset, .unset] []))
  refine own_by (fun _ k => XT.lloadN X1.here hx rfl (hb hby own_d4_11) rfl  k) ?_
  show own_G _ _ _ _ _ _ _ (T1.setTop (mkF m 12 #[.val (.long q0), .second, .val (.long q1), .second, .val (.long (q0 * q1)), .second, .val (.long (own_abs q0)), .second, .unset, .unset] [(.long q1)]))
  obtain ⟨_, _, ⟨T2, L2, k2, n2⟩, -, X2, ⟨Lc2, hQ2, l2, y2, z2⟩, st2⟩ := Jvm.LawKit.callS X1 hx (y := (⟨"java/lang/Math", "abs", "(J)J"⟩ : MethodName)) hown (mvT hZ (hw _ (List.mem_of_getElem? (i := 19) rfl))) (mvT hZ (hw _ (List.mem_of_getElem? (i := 20) rfl))) (mvT hZ (hw _ (List.mem_of_getElem? (i := 14) rfl))) (mvT hZ (hw _ (List.mem_of_getElem? (i := 21) rfl))) (by decide) (backOf (W := 0) (rm1 l Z aw hw [] q1 h0 n0 Z0 ) hZ (hw _ (List.mem_of_getElem? (i := 21) rfl)) (hw _ (List.mem_of_getElem? (i := 14) rfl)) (by decide) (by decide)) (g := (mkF m 12 #[.val (.long q0), .second, .val (.long q1), .second, .val (.long (q0 * q1)), .second, .val (.long (own_abs q0)), .second, .unset, .unset] [(.long q1)])) rfl (by rw [hml]; rfl) (argsL := [(.long q1)]) (rest := []) (lenOf own_pd0 rfl) rfl (by show 2 * 0 + _ ≤ _; exact Nat.le_of_eq rfl) (hb hby own_d4_12) (fun _ _ => ⟨rfl, e1, (by decide : 0 + 0 ≤ _), (by decide : 0 + 0 ≤ _)⟩)
  dsimp only [Pt.U, Pt.locs, Pt.cells, Pt.slots] at X2 l2 y2 z2 st2 hQ2
  subst l2 y2 z2
  obtain ⟨rfl, Nq2, e2⟩ := hQ2
  have N2 := Fr.app N1 Nq2
  refine own_by (fun _ k => st2 _ k) ?_
  show own_G _ _ _ _ _ _ _ (T2.setTop (mkF m 15 #[.val (.long q0), .second, .val (.long q1), .second, .val (.long (q0 * q1)), .second, .val (.long (own_abs q0)), .second, .unset, .unset] [(.long (own_abs q1))]))
  refine own_by (fun _ k => XT.lstore X2.here hx rfl (hb hby own_d4_15) rfl (l' := #[.val (.long q0), .second, .val (.long q1), .second, .val (.long (q0 * q1)), .second, .val (.long (own_abs q0)), .second, .val (.long (own_abs q1)), .second]) rfl k) ?_
  show own_G _ _ _ _ _ _ _ (T2.setTop (mkF m 17 #[.val (.long q0), .second, .val (.long q1), .second, .val (.long (q0 * q1)), .second, .val (.long (own_abs q0)), .second, .val (.long (own_abs q1)), .second] []))
  refine own_by (fun _ k => XT.lload X2.here hx rfl (hb hby own_d4_17) rfl  k) ?_
  show own_G _ _ _ _ _ _ _ (T2.setTop (mkF m 19 #[.val (.long q0), .second, .val (.long q1), .second, .val (.long (q0 * q1)), .second, .val (.long (own_abs q0)), .second, .val (.long (own_abs q1)), .second] [(.long (own_abs q0))]))
  refine own_by (fun _ k => XT.lload X2.here hx rfl (hb hby own_d4_19) rfl  k) ?_
  show own_G _ _ _ _ _ _ _ (T2.setTop (mkF m 21 #[.val (.long q0), .second, .val (.long q1), .second, .val (.long (q0 * q1)), .second, .val (.long (own_abs q0)), .second, .val (.long (own_abs q1)), .second] [(.long (own_abs q1)), (.long (own_abs q0))]))
  refine own_by (fun _ k => XT.lor X2.here hx rfl (hb hby own_d4_21) rfl k) ?_
  show own_G _ _ _ _ _ _ _ (T2.setTop (mkF m 22 #[.val (.long q0), .second, .val (.long q1), .second, .val (.long (q0 * q1)), .second, .val (.long (own_abs q0)), .second, .val (.long (own_abs q1)), .second] [(.long ((own_abs q0) ||| (own_abs q1)))]))
  refine own_by (fun _ k => XS.bipush X2.here hx rfl (hb hby own_d4_22) k) ?_
  show own_G _ _ _ _ _ _ _ (T2.setTop (mkF m 24 #[.val (.long q0), .second, .val (.long q1), .second, .val (.long (q0 * q1)), .second, .val (.long (own_abs q0)), .second, .val (.long (own_abs q1)), .second] [(.int (31 : Int32)), (.long ((own_abs q0) ||| (own_abs q1)))]))
  refine own_by (fun _ k => XT.lushr X2.here hx rfl (hb hby own_d4_24) rfl k) ?_
  show own_G _ _ _ _ _ _ _ (T2.setTop (mkF m 25 #[.val (.long q0), .second, .val (.long q1), .second, .val (.long (q0 * q1)), .second, .val (.long (own_abs q0)), .second, .val (.long (own_abs q1)), .second] [(.long (XT.ushrL ((own_abs q0) ||| (own_abs q1)) (31 : Int32)))]))
  refine own_by (fun _ k => XT.lconst X2.here hx rfl (hb hby own_d4_25) k) ?_
  show own_G _ _ _ _ _ _ _ (T2.setTop (mkF m 26 #[.val (.long q0), .second, .val (.long q1), .second, .val (.long (q0 * q1)), .second, .val (.long (own_abs q0)), .second, .val (.long (own_abs q1)), .second] [(.long (0 : Int64)), (.long (XT.ushrL ((own_abs q0) ||| (own_abs q1)) (31 : Int32)))]))
  refine own_by (fun _ k => XT.lcmp X2.here hx rfl (hb hby own_d4_26) rfl k) ?_
  show own_G _ _ _ _ _ _ _ (T2.setTop (mkF m 27 #[.val (.long q0), .second, .val (.long q1), .second, .val (.long (q0 * q1)), .second, .val (.long (own_abs q0)), .second, .val (.long (own_abs q1)), .second] [(.int (XT.cmpL (XT.ushrL ((own_abs q0) ||| (own_abs q1)) (31 : Int32)) (0 : Int64)))]))
  have hc27 : (XT.ushrL ((own_abs q0) ||| (own_abs q1)) (31 : Int32)) = (0 : Int64) := hm
  refine own_by (fun _ k => XS.ifYes X2.here hx rfl (pc0 := 27) (pc' := 71) rfl (hb hby own_d4_27) rfl (XT.ll_eq_t hc27) (by decide) (by decide) k) ?_
  show own_G _ _ _ _ _ _ _ (T2.setTop (mkF m 71 #[.val (.long q0), .second, .val (.long q1), .second, .val (.long (q0 * q1)), .second, .val (.long (own_abs q0)), .second, .val (.long (own_abs q1)), .second] []))
  refine own_by (fun _ k => XT.lload X2.here hx rfl (hb hby own_d4_71) rfl  k) ?_
  show own_G _ _ _ _ _ _ _ (T2.setTop (mkF m 73 #[.val (.long q0), .second, .val (.long q1), .second, .val (.long (q0 * q1)), .second, .val (.long (own_abs q0)), .second, .val (.long (own_abs q1)), .second] [(.long (q0 * q1))]))
  exact own_end X2 (v := some (.long (q0 * q1))) (fun h => by rw [Bd.returns] at h; cases h) (BodyLoose.notSynchronized Bd) (fun fs hr => X2.lreturnOut hx Bd.returns (hb hby own_d4_73) hr) (by rw [e2]; exact ⟨rfl, N2, rfl⟩) (by decide) (by decide)
theorem own_d3_0 : decode jdk_29_method_29_code 0 = .ok (.lload_n 0, 1) := by decide +kernel
theorem own_d3_1 : decode jdk_29_method_29_code 1 = .ok (.iload_n 2, 1) := by decide +kernel
theorem own_d3_2 : decode jdk_29_method_29_code 2 = .ok (.i2l, 1) := by decide +kernel
theorem own_d3_3 : decode jdk_29_method_29_code 3 = .ok (.invokestatic 118, 3) := by decide +kernel
theorem own_pd1 : parseMethodDescriptor "(JJ)J" = some ⟨[.long, .long], some .long⟩ := by decide +kernel
theorem own_d3_6 : decode jdk_29_method_29_code 6 = .ok (.lreturn, 1) := by decide +kernel
theorem own_ef3 (m : MethodId) (x0 : Int64) (x1 : Int32) : entryFrame m #[(.long x0), (.int x1)] 3 = mkF m 0 #[.val (.long x0), .second, .val (.int x1)] [] := by first | (simp [entryFrame, mkF, argsToLocals, Value.category]; done) | rfl
def own_Q3 (Z : State) (q0 : Int64) (p1 : Int32) (h0 : Heap) (n0 : Nat) (v : Option Value) (h : Heap) (L : List Loc) : Prop := v = some (.long (q0 * p1.toInt64)) ∧ Fr n0 L ∧ h = h0
set_option maxRecDepth 65536 in
set_option maxHeartbeats 40000000 in
theorem rm3 (l : Launch) (Z : State) (aw : Array Value) (hw : ∀ d ∈ tables_1, d.before aw Z = true) (ws : List Jvm.Cond) (q0 : Int64) (p1 : Int32) (h0 : Heap) (n0 : Nat) (Z0 : n0 ≤ h0.size) (hm : (XT.ushrL ((own_abs q0) ||| (own_abs p1.toInt64)) (31 : Int32)) = (0 : Int64)) :
    MetFree l (⟨"java/lang/Math", "multiplyExact", "(JI)J"⟩ : MethodName) (head1 (Jvm.Cond.code (⟨"java/lang/Math", "multiplyExact", "(JI)J"⟩ : MethodName) jdk_29_method_29_code 3 (some .long) :: ws) ({ frames := 2, cells := 0, slots := 0, locals := 34 } : Room)) (fun a U => a = #[(.long q0), (.int p1)] ∧ Z.Warmed39 U.vm ∧ U.heap = h0) (fun _ _ _ _ _ => True) (fun _ U o U' => ∃ v L, o = .returned v ∧ own_Q3 Z q0 p1 h0 n0 v U'.heap L ∧ FrameEnd U o U' L ({ frames := 2, cells := 0, slots := 0, locals := 34 } : Room).cells ({ frames := 2, cells := 0, slots := 0, locals := 34 } : Room).slots) := by
  refine MetFree.of_bodySF (Jvm.Free.JP.mathPlain rfl (by decide +kernel)) hisR ?_
  intro p e s m args below meth c s₁ Bd hml0 hP hK
  obtain ⟨rfl, hZ, hh⟩ := hP
  have hx := Bd.exec
  have hby := Bd.bytes
  have hml : c.maxLocals = 3 := hml0
  have hown : s.vm.findClass "java/lang/Math" = some m.cls := findClass_of_methodNamed Bd.named
  have hnm := (name_of_methodNamed Bd.named Bd.method).1
  have X0 : Stand p l e ({ frames := 2, cells := 0, slots := 0, locals := 34 } : Room) s m #[(.long q0), (.int p1)] below meth c s₁ [] 0 0 := Stand.of_body Bd
  have e0 : s₁.heap = h0 := by rw [← hh, Bd.state]; rfl
  have N0 := Fr.nil n0
  show own_G p.tables e below s (own_Q3 Z q0 p1 h0 n0) ({ frames := 2, cells := 0, slots := 0, locals := 34 } : Room).cells ({ frames := 2, cells := 0, slots := 0, locals := 34 } : Room).slots (s₁.setTop (entryFrame m #[(.long q0), (.int p1)] 3))
  refine own_by (fun _ k => castTop (own_ef3 m q0 p1) k) ?_
  show own_G _ _ _ _ _ _ _ (s₁.setTop (mkF m 0 #[.val (.long q0), .second, .val (.int p1)] []))
  refine own_by (fun _ k => XT.lloadN X0.here hx rfl (hb hby own_d3_0) rfl  k) ?_
  show own_G _ _ _ _ _ _ _ (s₁.setTop (mkF m 1 #[.val (.long q0), .second, .val (.int p1)] [(.long q0)]))
  refine own_by (fun _ k => XS.iloadN X0.here hx rfl (hb hby own_d3_1) rfl  k) ?_
  show own_G _ _ _ _ _ _ _ (s₁.setTop (mkF m 2 #[.val (.long q0), .second, .val (.int p1)] [(.int p1), (.long q0)]))
  refine own_by (fun _ k => XT.i2l X0.here hx rfl (hb hby own_d3_2) rfl k) ?_
  show own_G _ _ _ _ _ _ _ (s₁.setTop (mkF m 3 #[.val (.long q0), .second, .val (.int p1)] [(.long p1.toInt64), (.long q0)]))
  obtain ⟨_, _, ⟨T3, L3, k3, n3⟩, -, X3, ⟨Lc3, hQ3, l3, y3, z3⟩, st3⟩ := Jvm.LawKit.callS X0 hx (y := (⟨"java/lang/Math", "multiplyExact", "(JJ)J"⟩ : MethodName)) hown (mvT hZ (hw _ (List.mem_of_getElem? (i := 16) rfl))) (mvT hZ (hw _ (List.mem_of_getElem? (i := 17) rfl))) (mvT hZ (hw _ (List.mem_of_getElem? (i := 14) rfl))) (mvT hZ (hw _ (List.mem_of_getElem? (i := 18) rfl))) (by decide) (backOf (W := 0) (rm2 l Z aw hw [] q0 p1.toInt64 h0 n0 Z0 hm) hZ (hw _ (List.mem_of_getElem? (i := 18) rfl)) (hw _ (List.mem_of_getElem? (i := 14) rfl)) (by decide) (by decide)) (g := (mkF m 3 #[.val (.long q0), .second, .val (.int p1)] [(.long p1.toInt64), (.long q0)])) rfl (by rw [hml]; rfl) (argsL := [(.long q0), (.long p1.toInt64)]) (rest := []) (lenOf own_pd1 rfl) rfl (by show 2 * 0 + _ ≤ _; exact Nat.le_of_eq rfl) (hb hby own_d3_3) (fun _ _ => ⟨rfl, e0, (by decide : 0 + 0 ≤ _), (by decide : 0 + 0 ≤ _)⟩)
  dsimp only [Pt.U, Pt.locs, Pt.cells, Pt.slots] at X3 l3 y3 z3 st3 hQ3
  subst l3 y3 z3
  obtain ⟨rfl, Nq3, e3⟩ := hQ3
  have N3 := Fr.app N0 Nq3
  refine own_by (fun _ k => st3 _ k) ?_
  show own_G _ _ _ _ _ _ _ (T3.setTop (mkF m 6 #[.val (.long q0), .second, .val (.int p1)] [(.long (q0 * p1.toInt64))]))
  exact own_end X3 (v := some (.long (q0 * p1.toInt64))) (fun h => by rw [Bd.returns] at h; cases h) (BodyLoose.notSynchronized Bd) (fun fs hr => X3.lreturnOut hx Bd.returns (hb hby own_d3_6) hr) (by rw [e3]; exact ⟨rfl, N3, rfl⟩) (by decide) (by decide)
theorem own_d1_0 : decode prog_37_method_1_code 0 = .ok (.aload_n 0, 1) := by decide +kernel
theorem own_d1_1 : decode prog_37_method_1_code 1 = .ok (.invokespecial 1, 3) := by decide +kernel
theorem own_d1_4 : decode prog_37_method_1_code 4 = .ok (.iload_n 3, 1) := by decide +kernel
theorem own_d1_5 : decode prog_37_method_1_code 5 = .ok (.iconst 1, 1) := by decide +kernel
theorem own_d1_6 : decode prog_37_method_1_code 6 = .ok (.if_icmp .lt 9, 3) := by decide +kernel
theorem own_d1_9 : decode prog_37_method_1_code 9 = .ok (.iload_n 3, 1) := by decide +kernel
theorem own_d1_10 : decode prog_37_method_1_code 10 = .ok (.bipush 64, 2) := by decide +kernel
theorem own_d1_12 : decode prog_37_method_1_code 12 = .ok (.if_icmp .le 17, 3) := by decide +kernel
theorem own_d1_29 : decode prog_37_method_1_code 29 = .ok (.lload_n 1, 1) := by decide +kernel
theorem own_d1_30 : decode prog_37_method_1_code 30 = .ok (.iload_n 3, 1) := by decide +kernel
theorem own_d1_31 : decode prog_37_method_1_code 31 = .ok (.invokestatic 18, 3) := by decide +kernel
theorem own_pd2 : parseMethodDescriptor "(JI)J" = some ⟨[.long, .int], some .long⟩ := by decide +kernel
theorem own_d1_34 : decode prog_37_method_1_code 34 = .ok (.ldc2_w 24, 3) := by decide +kernel
theorem own_d1_37 : decode prog_37_method_1_code 37 = .ok (.ladd, 1) := by decide +kernel
theorem own_d1_38 : decode prog_37_method_1_code 38 = .ok (.lconst 1, 1) := by decide +kernel
theorem own_d1_39 : decode prog_37_method_1_code 39 = .ok (.lsub, 1) := by decide +kernel
theorem own_d1_40 : decode prog_37_method_1_code 40 = .ok (.ldc2_w 24, 3) := by decide +kernel
theorem own_d1_43 : decode prog_37_method_1_code 43 = .ok (.ldiv, 1) := by decide +kernel
theorem own_d1_44 : decode prog_37_method_1_code 44 = .ok (.lconst 1, 1) := by decide +kernel
theorem own_d1_45 : decode prog_37_method_1_code 45 = .ok (.ladd, 1) := by decide +kernel
theorem own_d1_46 : decode prog_37_method_1_code 46 = .ok (.lstore 4, 2) := by decide +kernel
theorem own_d1_48 : decode prog_37_method_1_code 48 = .ok (.lload 4, 2) := by decide +kernel
theorem own_d1_50 : decode prog_37_method_1_code 50 = .ok (.ldc2_w 28, 3) := by decide +kernel
theorem own_d1_53 : decode prog_37_method_1_code 53 = .ok (.lcmp, 1) := by decide +kernel
theorem own_d1_54 : decode prog_37_method_1_code 54 = .ok (.ifCond .le 18, 3) := by decide +kernel
theorem own_d1_72 : decode prog_37_method_1_code 72 = .ok (.aload_n 0, 1) := by decide +kernel
theorem own_d1_73 : decode prog_37_method_1_code 73 = .ok (.lload 4, 2) := by decide +kernel
theorem own_d1_75 : decode prog_37_method_1_code 75 = .ok (.l2i, 1) := by decide +kernel
theorem own_d1_76 : decode prog_37_method_1_code 76 = .ok (.newarray .long, 2) := by decide +kernel
theorem own_d1_78 : decode prog_37_method_1_code 78 = .ok (.putfield 33, 3) := by decide +kernel
theorem own_d1_81 : decode prog_37_method_1_code 81 = .ok (.aload_n 0, 1) := by decide +kernel
theorem own_d1_82 : decode prog_37_method_1_code 82 = .ok (.iload_n 3, 1) := by decide +kernel
theorem own_d1_83 : decode prog_37_method_1_code 83 = .ok (.putfield 39, 3) := by decide +kernel
theorem own_d1_86 : decode prog_37_method_1_code 86 = .ok (.aload_n 0, 1) := by decide +kernel
theorem own_d1_104 : decode prog_37_method_1_code 104 = .ok (.putfield 45, 3) := by decide +kernel
theorem own_d1_107 : decode prog_37_method_1_code 107 = .ok (.return_, 1) := by decide +kernel
theorem own_d1_87 : decode prog_37_method_1_code 87 = .ok (.iload_n 3, 1) := by decide +kernel
theorem own_d1_88 : decode prog_37_method_1_code 88 = .ok (.bipush 64, 2) := by decide +kernel
theorem own_d1_90 : decode prog_37_method_1_code 90 = .ok (.if_icmp .ne 9, 3) := by decide +kernel
theorem own_d1_93 : decode prog_37_method_1_code 93 = .ok (.ldc2_w 43, 3) := by decide +kernel
theorem own_d1_96 : decode prog_37_method_1_code 96 = .ok (.goto 8, 3) := by decide +kernel
theorem own_d1_99 : decode prog_37_method_1_code 99 = .ok (.lconst 1, 1) := by decide +kernel
theorem own_d1_100 : decode prog_37_method_1_code 100 = .ok (.iload_n 3, 1) := by decide +kernel
theorem own_d1_101 : decode prog_37_method_1_code 101 = .ok (.lshl, 1) := by decide +kernel
theorem own_d1_102 : decode prog_37_method_1_code 102 = .ok (.lconst 1, 1) := by decide +kernel
theorem own_d1_103 : decode prog_37_method_1_code 103 = .ok (.lsub, 1) := by decide +kernel
theorem own_pn0 : plainName "com/example/constellate/constellate/engine/PackedArray" = true := by first | (simp [plainName, overriddenIn]; done) | decide +kernel
theorem own_ef4 (m : MethodId) (x0 : Addr) (x1 : Int64) (x2 : Int32) : entryFrame m #[(.ref x0), (.long x1), (.int x2)] 6 = mkF m 0 #[.val (.ref x0), .val (.long x1), .second, .val (.int x2), .unset, .unset] [] := by first | (simp [entryFrame, mkF, argsToLocals, Value.category]; done) | rfl
def own_Q4 (Z : State) (a0 : Addr) (q1 : Int64) (p2 : Int32) (w : Nat) (h0 : Heap) (n0 : Nat) (v : Option Value) (h : Heap) (L : List Loc) : Prop := ∃ (ar : Addr) (mk : Int64), v = none ∧ Fr n0 L ∧ Keep h0 h [a0] ∧ Exa Z h a0 "com/example/constellate/constellate/engine/PackedArray" ∧ Fld Z h a0 "com/example/constellate/constellate/engine/PackedArray" "words" "[J" (.ref ar) ∧ Fld Z h a0 "com/example/constellate/constellate/engine/PackedArray" "width" "I" (.int p2) ∧ Fld Z h a0 "com/example/constellate/constellate/engine/PackedArray" "mask" "J" (.long mk) ∧ own_AJ Z h ar ((72 * w + 63) / 64 + 1) (fun _ => 0) ∧ n0 ≤ ar ∧ a0 ≠ ar ∧ (∀ i, i < 64 → mk.toBitVec.getLsbD i = decide (i < w))
set_option maxRecDepth 65536 in
set_option maxHeartbeats 40000000 in
theorem rm4 (l : Launch) (Z : State) (aw : Array Value) (hw : ∀ d ∈ tables_1, d.before aw Z = true) (ws : List Jvm.Cond) (a0 : Addr) (q1 : Int64) (p2 : Int32) (w : Nat) (h0 : Heap) (n0 : Nat) (Z0 : n0 ≤ h0.size) (E_a : Exa Z h0 a0 "com/example/constellate/constellate/engine/PackedArray") (F_words : Fld Z h0 a0 "com/example/constellate/constellate/engine/PackedArray" "words" "[J" .null) (F_width : Fld Z h0 a0 "com/example/constellate/constellate/engine/PackedArray" "width" "I" (.int (0 : Int32))) (F_mask : Fld Z h0 a0 "com/example/constellate/constellate/engine/PackedArray" "mask" "J" (.long (0 : Int64))) (g_a : n0 ≤ a0) (hq : q1.toInt = 72) (hpw : p2.toInt = w) (hw1 : 1 ≤ w) (hw64 : w ≤ 64) :
    MetFree l (⟨"com/example/constellate/constellate/engine/PackedArray", "<init>", "(JI)V"⟩ : MethodName) (head1 (Jvm.Cond.code (⟨"com/example/constellate/constellate/engine/PackedArray", "<init>", "(JI)V"⟩ : MethodName) prog_37_method_1_code 6 none :: ws) ({ frames := 3, cells := 1, slots := 73, locals := 48 } : Room)) (fun a U => a = #[(.ref a0), (.long q1), (.int p2)] ∧ Z.Warmed39 U.vm ∧ U.heap = h0) (fun _ _ _ _ _ => True) (fun _ U o U' => ∃ v L, o = .returned v ∧ own_Q4 Z a0 q1 p2 w h0 n0 v U'.heap L ∧ FrameEnd U o U' L ({ frames := 3, cells := 1, slots := 73, locals := 48 } : Room).cells ({ frames := 3, cells := 1, slots := 73, locals := 48 } : Room).slots) := by
  refine MetFree.of_bodySF (plainFor_of_name own_pn0) hisR ?_
  intro p e s m args below meth c s₁ Bd hml0 hP hK
  obtain ⟨rfl, hZ, hh⟩ := hP
  have hx := Bd.exec
  have hby := Bd.bytes
  have hml : c.maxLocals = 6 := hml0
  have hown : s.vm.findClass "com/example/constellate/constellate/engine/PackedArray" = some m.cls := findClass_of_methodNamed Bd.named
  have hnm := (name_of_methodNamed Bd.named Bd.method).1
  have X0 : Stand p l e ({ frames := 3, cells := 1, slots := 73, locals := 48 } : Room) s m #[(.ref a0), (.long q1), (.int p2)] below meth c s₁ [] 0 0 := Stand.of_body Bd
  have e0 : s₁.heap = h0 := by rw [← hh, Bd.state]; rfl
  have N0 := Fr.nil n0
  show own_G p.tables e below s (own_Q4 Z a0 q1 p2 w h0 n0) ({ frames := 3, cells := 1, slots := 73, locals := 48 } : Room).cells ({ frames := 3, cells := 1, slots := 73, locals := 48 } : Room).slots (s₁.setTop (entryFrame m #[(.ref a0), (.long q1), (.int p2)] 6))
  refine own_by (fun _ k => castTop (own_ef4 m a0 q1 p2) k) ?_
  show own_G _ _ _ _ _ _ _ (s₁.setTop (mkF m 0 #[.val (.ref a0), .val (.long q1), .second, .val (.int p2), .unset, .unset] []))
  refine own_by (fun _ k => XS.aloadN X0.here hx rfl (hb hby own_d1_0) rfl rfl k) ?_
  show own_G _ _ _ _ _ _ _ (s₁.setTop (mkF m 1 #[.val (.ref a0), .val (.long q1), .second, .val (.int p2), .unset, .unset] [(.ref a0)]))
  obtain ⟨T4, X4, e4, st4⟩ := initO X0 hx hZ hown (hw _ (List.mem_of_getElem? (i := 9) rfl)) (hw _ (List.mem_of_getElem? (i := 10) rfl)) (hw _ (List.mem_of_getElem? (i := 11) rfl)) e0 (g := (mkF m 1 #[.val (.ref a0), .val (.long q1), .second, .val (.int p2), .unset, .unset] [(.ref a0)])) rfl (by rw [hml]; rfl) rfl (hb hby own_d1_1) (by decide) (W := 0) (by show 2 * 0 + _ ≤ _; exact Nat.le_of_eq rfl) (by decide)
  refine own_by st4 ?_
  show own_G _ _ _ _ _ _ _ (T4.setTop (mkF m 4 #[.val (.ref a0), .val (.long q1), .second, .val (.int p2), .unset, .unset] []))
  refine own_by (fun _ k => XS.iloadN X4.here hx rfl (hb hby own_d1_4) rfl  k) ?_
  show own_G _ _ _ _ _ _ _ (T4.setTop (mkF m 5 #[.val (.ref a0), .val (.long q1), .second, .val (.int p2), .unset, .unset] [(.int p2)]))
  refine own_by (fun _ k => XS.iconst X4.here hx rfl (hb hby own_d1_5) k) ?_
  show own_G _ _ _ _ _ _ _ (T4.setTop (mkF m 6 #[.val (.ref a0), .val (.long q1), .second, .val (.int p2), .unset, .unset] [(.int (1 : Int32)), (.int p2)]))
  have hc6 : ¬ (p2 < (1 : Int32)) := (by rw [Int32.lt_iff_toInt_lt, hpw, show (1 : Int32).toInt = 1 by decide]; omega)
  refine own_by (fun _ k => XS.icmpNo X4.here hx rfl (hb hby own_d1_6) rfl (XT.ii_lt_f hc6) k) ?_
  show own_G _ _ _ _ _ _ _ (T4.setTop (mkF m 9 #[.val (.ref a0), .val (.long q1), .second, .val (.int p2), .unset, .unset] []))
  refine own_by (fun _ k => XS.iloadN X4.here hx rfl (hb hby own_d1_9) rfl  k) ?_
  show own_G _ _ _ _ _ _ _ (T4.setTop (mkF m 10 #[.val (.ref a0), .val (.long q1), .second, .val (.int p2), .unset, .unset] [(.int p2)]))
  refine own_by (fun _ k => XS.bipush X4.here hx rfl (hb hby own_d1_10) k) ?_
  show own_G _ _ _ _ _ _ _ (T4.setTop (mkF m 12 #[.val (.ref a0), .val (.long q1), .second, .val (.int p2), .unset, .unset] [(.int (64 : Int32)), (.int p2)]))
  have hc12 : ¬ ((64 : Int32) < p2) := (by rw [Int32.lt_iff_toInt_lt, hpw, show (64 : Int32).toInt = 64 by decide]; omega)
  refine own_by (fun _ k => XS.icmpYes X4.here hx rfl (pc0 := 12) (pc' := 29) rfl (hb hby own_d1_12) rfl (XT.ii_le_t hc12) (by decide) (by decide) k) ?_
  show own_G _ _ _ _ _ _ _ (T4.setTop (mkF m 29 #[.val (.ref a0), .val (.long q1), .second, .val (.int p2), .unset, .unset] []))
  refine own_by (fun _ k => XT.lloadN X4.here hx rfl (hb hby own_d1_29) rfl  k) ?_
  show own_G _ _ _ _ _ _ _ (T4.setTop (mkF m 30 #[.val (.ref a0), .val (.long q1), .second, .val (.int p2), .unset, .unset] [(.long q1)]))
  refine own_by (fun _ k => XS.iloadN X4.here hx rfl (hb hby own_d1_30) rfl  k) ?_
  show own_G _ _ _ _ _ _ _ (T4.setTop (mkF m 31 #[.val (.ref a0), .val (.long q1), .second, .val (.int p2), .unset, .unset] [(.int p2), (.long q1)]))
  obtain ⟨_, _, ⟨T5, L5, k5, n5⟩, -, X5, ⟨Lc5, hQ5, l5, y5, z5⟩, st5⟩ := Jvm.LawKit.callS X4 hx (y := (⟨"java/lang/Math", "multiplyExact", "(JI)J"⟩ : MethodName)) hown (mvT hZ (hw _ (List.mem_of_getElem? (i := 12) rfl))) (mvT hZ (hw _ (List.mem_of_getElem? (i := 13) rfl))) (mvT hZ (hw _ (List.mem_of_getElem? (i := 14) rfl))) (mvT hZ (hw _ (List.mem_of_getElem? (i := 15) rfl))) (by decide) (backOf (W := 0) (rm3 l Z aw hw [] q1 p2 h0 n0 Z0 (own_hm hq hpw hw64)) hZ (hw _ (List.mem_of_getElem? (i := 15) rfl)) (hw _ (List.mem_of_getElem? (i := 14) rfl)) (by decide) (by decide)) (g := (mkF m 31 #[.val (.ref a0), .val (.long q1), .second, .val (.int p2), .unset, .unset] [(.int p2), (.long q1)])) rfl (by rw [hml]; rfl) (argsL := [(.long q1), (.int p2)]) (rest := []) (lenOf own_pd2 rfl) rfl (by show 2 * 0 + _ ≤ _; exact Nat.le_of_eq rfl) (hb hby own_d1_31) (fun _ _ => ⟨rfl, e4, (by decide : 0 + 0 ≤ _), (by decide : 0 + 0 ≤ _)⟩)
  dsimp only [Pt.U, Pt.locs, Pt.cells, Pt.slots] at X5 l5 y5 z5 st5 hQ5
  subst l5 y5 z5
  obtain ⟨rfl, Nq5, e5⟩ := hQ5
  have N5 := Fr.app N0 Nq5
  refine own_by (fun _ k => st5 _ k) ?_
  show own_G _ _ _ _ _ _ _ (T5.setTop (mkF m 34 #[.val (.ref a0), .val (.long q1), .second, .val (.int p2), .unset, .unset] [(.long (q1 * p2.toInt64))]))
  refine own_by (X5.ldc2Long hx hown (mvT hZ (hw _ (List.mem_of_getElem? (i := 22) rfl))) (g := (mkF m 34 #[.val (.ref a0), .val (.long q1), .second, .val (.int p2), .unset, .unset] [(.long (q1 * p2.toInt64))])) rfl (hb hby own_d1_34)) ?_
  show own_G _ _ _ _ _ _ _ (T5.setTop (mkF m 37 #[.val (.ref a0), .val (.long q1), .second, .val (.int p2), .unset, .unset] [(.long (64 : Int64)), (.long (q1 * p2.toInt64))]))
  refine own_by (fun _ k => XT.ladd X5.here hx rfl (hb hby own_d1_37) rfl k) ?_
  show own_G _ _ _ _ _ _ _ (T5.setTop (mkF m 38 #[.val (.ref a0), .val (.long q1), .second, .val (.int p2), .unset, .unset] [(.long ((q1 * p2.toInt64) + (64 : Int64)))]))
  refine own_by (fun _ k => XT.lconst X5.here hx rfl (hb hby own_d1_38) k) ?_
  show own_G _ _ _ _ _ _ _ (T5.setTop (mkF m 39 #[.val (.ref a0), .val (.long q1), .second, .val (.int p2), .unset, .unset] [(.long (1 : Int64)), (.long ((q1 * p2.toInt64) + (64 : Int64)))]))
  refine own_by (fun _ k => XT.lsub X5.here hx rfl (hb hby own_d1_39) rfl k) ?_
  show own_G _ _ _ _ _ _ _ (T5.setTop (mkF m 40 #[.val (.ref a0), .val (.long q1), .second, .val (.int p2), .unset, .unset] [(.long (((q1 * p2.toInt64) + (64 : Int64)) - (1 : Int64)))]))
  refine own_by (X5.ldc2Long hx hown (mvT hZ (hw _ (List.mem_of_getElem? (i := 22) rfl))) (g := (mkF m 40 #[.val (.ref a0), .val (.long q1), .second, .val (.int p2), .unset, .unset] [(.long (((q1 * p2.toInt64) + (64 : Int64)) - (1 : Int64)))])) rfl (hb hby own_d1_40)) ?_
  show own_G _ _ _ _ _ _ _ (T5.setTop (mkF m 43 #[.val (.ref a0), .val (.long q1), .second, .val (.int p2), .unset, .unset] [(.long (64 : Int64)), (.long (((q1 * p2.toInt64) + (64 : Int64)) - (1 : Int64)))]))
  refine own_by (fun _ k => XT.ldiv X5.here hx rfl (hb hby own_d1_43) rfl (by decide) k) ?_
  show own_G _ _ _ _ _ _ _ (T5.setTop (mkF m 44 #[.val (.ref a0), .val (.long q1), .second, .val (.int p2), .unset, .unset] [(.long ((((q1 * p2.toInt64) + (64 : Int64)) - (1 : Int64)) / (64 : Int64)))]))
  refine own_by (fun _ k => XT.lconst X5.here hx rfl (hb hby own_d1_44) k) ?_
  show own_G _ _ _ _ _ _ _ (T5.setTop (mkF m 45 #[.val (.ref a0), .val (.long q1), .second, .val (.int p2), .unset, .unset] [(.long (1 : Int64)), (.long ((((q1 * p2.toInt64) + (64 : Int64)) - (1 : Int64)) / (64 : Int64)))]))
  refine own_by (fun _ k => XT.ladd X5.here hx rfl (hb hby own_d1_45) rfl k) ?_
  show own_G _ _ _ _ _ _ _ (T5.setTop (mkF m 46 #[.val (.ref a0), .val (.long q1), .second, .val (.int p2), .unset, .unset] [(.long (((((q1 * p2.toInt64) + (64 : Int64)) - (1 : Int64)) / (64 : Int64)) + (1 : Int64)))]))
  refine own_by (fun _ k => XT.lstore X5.here hx rfl (hb hby own_d1_46) rfl (l' := #[.val (.ref a0), .val (.long q1), .second, .val (.int p2), .val (.long (((((q1 * p2.toInt64) + (64 : Int64)) - (1 : Int64)) / (64 : Int64)) + (1 : Int64))), .second]) rfl k) ?_
  show own_G _ _ _ _ _ _ _ (T5.setTop (mkF m 48 #[.val (.ref a0), .val (.long q1), .second, .val (.int p2), .val (.long (((((q1 * p2.toInt64) + (64 : Int64)) - (1 : Int64)) / (64 : Int64)) + (1 : Int64))), .second] []))
  generalize hnnw : (((((q1 * p2.toInt64) + (64 : Int64)) - (1 : Int64)) / (64 : Int64)) + (1 : Int64)) = nw
  show own_G _ _ _ _ _ _ _ (T5.setTop (mkF m 48 #[.val (.ref a0), .val (.long q1), .second, .val (.int p2), .val (.long nw), .second] []))
  have hnwN : nw.toInt = ((((72 * w + 63) / 64 + 1) : Nat) : Int) := by rw [← hnnw]; exact own_nw hq hpw hw64
  refine own_by (fun _ k => XT.lload X5.here hx rfl (hb hby own_d1_48) rfl  k) ?_
  show own_G _ _ _ _ _ _ _ (T5.setTop (mkF m 50 #[.val (.ref a0), .val (.long q1), .second, .val (.int p2), .val (.long nw), .second] [(.long nw)]))
  refine own_by (X5.ldc2Long hx hown (mvT hZ (hw _ (List.mem_of_getElem? (i := 23) rfl))) (g := (mkF m 50 #[.val (.ref a0), .val (.long q1), .second, .val (.int p2), .val (.long nw), .second] [(.long nw)])) rfl (hb hby own_d1_50)) ?_
  show own_G _ _ _ _ _ _ _ (T5.setTop (mkF m 53 #[.val (.ref a0), .val (.long q1), .second, .val (.int p2), .val (.long nw), .second] [(.long (2147483639 : Int64)), (.long nw)]))
  refine own_by (fun _ k => XT.lcmp X5.here hx rfl (hb hby own_d1_53) rfl k) ?_
  show own_G _ _ _ _ _ _ _ (T5.setTop (mkF m 54 #[.val (.ref a0), .val (.long q1), .second, .val (.int p2), .val (.long nw), .second] [(.int (XT.cmpL nw (2147483639 : Int64)))]))
  have hc54 : ¬ ((2147483639 : Int64) < nw) := (by rw [Int64.lt_iff_toInt_lt, hnwN, show (2147483639 : Int64).toInt = 2147483639 by decide]; omega)
  refine own_by (fun _ k => XS.ifYes X5.here hx rfl (pc0 := 54) (pc' := 72) rfl (hb hby own_d1_54) rfl (XT.ll_le_t hc54) (by decide) (by decide) k) ?_
  show own_G _ _ _ _ _ _ _ (T5.setTop (mkF m 72 #[.val (.ref a0), .val (.long q1), .second, .val (.int p2), .val (.long nw), .second] []))
  refine own_by (fun _ k => XS.aloadN X5.here hx rfl (hb hby own_d1_72) rfl rfl k) ?_
  show own_G _ _ _ _ _ _ _ (T5.setTop (mkF m 73 #[.val (.ref a0), .val (.long q1), .second, .val (.int p2), .val (.long nw), .second] [(.ref a0)]))
  refine own_by (fun _ k => XT.lload X5.here hx rfl (hb hby own_d1_73) rfl  k) ?_
  show own_G _ _ _ _ _ _ _ (T5.setTop (mkF m 75 #[.val (.ref a0), .val (.long q1), .second, .val (.int p2), .val (.long nw), .second] [(.long nw), (.ref a0)]))
  refine own_by (fun _ k => XT.l2i X5.here hx rfl (hb hby own_d1_75) rfl k) ?_
  show own_G _ _ _ _ _ _ _ (T5.setTop (mkF m 76 #[.val (.ref a0), .val (.long q1), .second, .val (.int p2), .val (.long nw), .second] [(.int nw.toInt32), (.ref a0)]))
  obtain ⟨T6, h6, X6, e6, E6, A6, st6⟩ := own_newJ X5 hx hZ (hw _ (List.mem_of_getElem? (i := 24) rfl)) e5 (g := (mkF m 76 #[.val (.ref a0), .val (.long q1), .second, .val (.int p2), .val (.long nw), .second] [(.int nw.toInt32), (.ref a0)])) rfl (hb hby own_d1_76) rfl (N := ((72 * w + 63) / 64 + 1)) (own_l2i hnwN (by omega)) (cap := 73) (by omega) (by decide) (by decide) (by decide)
  obtain ⟨b6, g6⟩ : ∃ z, z = h0.size := ⟨_, rfl⟩
  rw [← g6] at A6 st6
  have ne_a0_b6 : a0 ≠ b6 := Nat.ne_of_lt (Nat.lt_of_lt_of_le E_a.lt (Nat.le_of_eq g6.symm))
  have g_b6 : n0 ≤ b6 := Nat.le_trans Z0 (Nat.le_of_eq g6.symm)
  have sz_b6 : h0.size ≤ b6 := Nat.le_trans (Keep.refl h0 [a0]).1 (Nat.le_of_eq g6.symm)
  refine own_by st6 ?_
  have F7_0 := E_a.ext E6
  have F7_1 := F_words.ext E6
  have F7_2 := F_width.ext E6
  have F7_3 := F_mask.ext E6
  have Z8 : n0 ≤ h6.size := Nat.le_trans Z0 E6.1
  have K6 := (Keep.refl h0 [a0]).ext E6
  show own_G _ _ _ _ _ _ _ (T6.setTop (mkF m 78 #[.val (.ref a0), .val (.long q1), .second, .val (.int p2), .val (.long nw), .second] [(.ref b6), (.ref a0)]))
  obtain ⟨T9, h9, X9, e9, W9, st9⟩ := putF X6 hx hZ hown (host := "") (Or.inl (hw _ (List.mem_of_getElem? (i := 25) rfl))) Via.refl e6 F7_1 F7_0 (Or.inr ⟨(hw _ (List.mem_of_getElem? (i := 26) rfl)), rfl, hnm⟩) (hw _ (List.mem_of_getElem? (i := 3) rfl)) (ty := (.array .long)) (by decide) rfl rfl (g := (mkF m 78 #[.val (.ref a0), .val (.long q1), .second, .val (.int p2), .val (.long nw), .second] [(.ref b6), (.ref a0)])) rfl rfl (hb hby own_d1_78)
  refine own_by st9 ?_
  have F10_0 := F7_0.wr W9
  have F10_1 := F7_1.same W9
  have F10_2 := F7_2.other W9 (Or.inr (slot_ne (Or.inr (hw _ (List.mem_of_getElem? (i := 28) rfl))) (Or.inr (hw _ (List.mem_of_getElem? (i := 26) rfl))) (by decide) (t := .int) (t' := (.array .long)) (by decide) (by decide)))
  have F10_3 := F7_3.other W9 (Or.inr (slot_ne (Or.inr (hw _ (List.mem_of_getElem? (i := 30) rfl))) (Or.inr (hw _ (List.mem_of_getElem? (i := 26) rfl))) (by decide) (t := .long) (t' := (.array .long)) (by decide) (by decide)))
  have F10_4 := A6.other W9 (Ne.symm ne_a0_b6)
  have N9 := Fr.snoc X9 N5 g_a
  have Z11 : n0 ≤ h9.size := Nat.le_trans Z8 (Nat.le_of_eq W9.size.symm)
  have K9 := K6.wr W9 (Or.inl (List.mem_of_getElem? (i := 0) rfl))
  show own_G _ _ _ _ _ _ _ (T9.setTop (mkF m 81 #[.val (.ref a0), .val (.long q1), .second, .val (.int p2), .val (.long nw), .second] []))
  refine own_by (fun _ k => XS.aloadN X9.here hx rfl (hb hby own_d1_81) rfl rfl k) ?_
  show own_G _ _ _ _ _ _ _ (T9.setTop (mkF m 82 #[.val (.ref a0), .val (.long q1), .second, .val (.int p2), .val (.long nw), .second] [(.ref a0)]))
  refine own_by (fun _ k => XS.iloadN X9.here hx rfl (hb hby own_d1_82) rfl  k) ?_
  show own_G _ _ _ _ _ _ _ (T9.setTop (mkF m 83 #[.val (.ref a0), .val (.long q1), .second, .val (.int p2), .val (.long nw), .second] [(.int p2), (.ref a0)]))
  obtain ⟨T12, h12, X12, e12, W12, st12⟩ := putF X9 hx hZ hown (host := "") (Or.inl (hw _ (List.mem_of_getElem? (i := 27) rfl))) Via.refl e9 F10_2 F10_0 (Or.inr ⟨(hw _ (List.mem_of_getElem? (i := 28) rfl)), rfl, hnm⟩) (hw _ (List.mem_of_getElem? (i := 3) rfl)) (ty := .int) (by decide) rfl rfl (g := (mkF m 83 #[.val (.ref a0), .val (.long q1), .second, .val (.int p2), .val (.long nw), .second] [(.int p2), (.ref a0)])) rfl rfl (hb hby own_d1_83)
  refine own_by st12 ?_
  have F13_0 := F10_0.wr W12
  have F13_1 := F10_1.other W12 (Or.inr (slot_ne (Or.inr (hw _ (List.mem_of_getElem? (i := 26) rfl))) (Or.inr (hw _ (List.mem_of_getElem? (i := 28) rfl))) (by decide) (t := (.array .long)) (t' := .int) (by decide) (by decide)))
  have F13_2 := F10_2.same W12
  have F13_3 := F10_3.other W12 (Or.inr (slot_ne (Or.inr (hw _ (List.mem_of_getElem? (i := 30) rfl))) (Or.inr (hw _ (List.mem_of_getElem? (i := 28) rfl))) (by decide) (t := .long) (t' := .int) (by decide) (by decide)))
  have F13_4 := F10_4.other W12 (Ne.symm ne_a0_b6)
  have N12 := Fr.snoc X12 N9 g_a
  have Z14 : n0 ≤ h12.size := Nat.le_trans Z11 (Nat.le_of_eq W12.size.symm)
  have K12 := K9.wr W12 (Or.inl (List.mem_of_getElem? (i := 0) rfl))
  show own_G _ _ _ _ _ _ _ (T12.setTop (mkF m 86 #[.val (.ref a0), .val (.long q1), .second, .val (.int p2), .val (.long nw), .second] []))
  refine own_by (fun _ k => XS.aloadN X12.here hx rfl (hb hby own_d1_86) rfl rfl k) ?_
  have J104 : ∀ (Tj15 : State) (lj15 : List Loc) (Xj15 : Stand p l e ({ frames := 3, cells := 1, slots := 73, locals := 48 } : Room) s m #[(.ref a0), (.long q1), (.int p2)] below meth c Tj15 lj15 1 73) (Nj15 : Fr n0 lj15) (ej15 : Tj15.heap = h12) (mk : Int64) (hmk : ∀ i, i < 64 → mk.toBitVec.getLsbD i = decide (i < w)), own_G p.tables e below s (own_Q4 Z a0 q1 p2 w h0 n0) ({ frames := 3, cells := 1, slots := 73, locals := 48 } : Room).cells ({ frames := 3, cells := 1, slots := 73, locals := 48 } : Room).slots (Tj15.setTop (mkF m 104 #[.val (.ref a0), .val (.long q1), .second, .val (.int p2), .val (.long nw), .second] [(.long mk), (.ref a0)])) := by
    intro Tj15 lj15 Xj15 Nj15 ej15 mk hmk
    show own_G _ _ _ _ _ _ _ (Tj15.setTop (mkF m 104 #[.val (.ref a0), .val (.long q1), .second, .val (.int p2), .val (.long nw), .second] [(.long mk), (.ref a0)]))
    obtain ⟨T16, h16, X16, e16, W16, st16⟩ := putF Xj15 hx hZ hown (host := "") (Or.inl (hw _ (List.mem_of_getElem? (i := 29) rfl))) Via.refl ej15 F13_3 F13_0 (Or.inr ⟨(hw _ (List.mem_of_getElem? (i := 30) rfl)), rfl, hnm⟩) (hw _ (List.mem_of_getElem? (i := 3) rfl)) (ty := .long) (by decide) rfl rfl (g := (mkF m 104 #[.val (.ref a0), .val (.long q1), .second, .val (.int p2), .val (.long nw), .second] [(.long mk), (.ref a0)])) rfl rfl (hb hby own_d1_104)
    refine own_by st16 ?_
    have F17_0 := F13_0.wr W16
    have F17_1 := F13_1.other W16 (Or.inr (slot_ne (Or.inr (hw _ (List.mem_of_getElem? (i := 26) rfl))) (Or.inr (hw _ (List.mem_of_getElem? (i := 30) rfl))) (by decide) (t := (.array .long)) (t' := .long) (by decide) (by decide)))
    have F17_2 := F13_2.other W16 (Or.inr (slot_ne (Or.inr (hw _ (List.mem_of_getElem? (i := 28) rfl))) (Or.inr (hw _ (List.mem_of_getElem? (i := 30) rfl))) (by decide) (t := .int) (t' := .long) (by decide) (by decide)))
    have F17_3 := F13_3.same W16
    have F17_4 := F13_4.other W16 (Ne.symm ne_a0_b6)
    have N16 := Fr.snoc X16 Nj15 g_a
    have Z18 : n0 ≤ h16.size := Nat.le_trans Z14 (Nat.le_of_eq W16.size.symm)
    have K16 := K12.wr W16 (Or.inl (List.mem_of_getElem? (i := 0) rfl))
    show own_G _ _ _ _ _ _ _ (T16.setTop (mkF m 107 #[.val (.ref a0), .val (.long q1), .second, .val (.int p2), .val (.long nw), .second] []))
    exact own_end X16 (v := none) (fun _ => rfl) (BodyLoose.notSynchronized Bd) (fun fs hr => X16.returnOut hx Bd.returns (hb hby own_d1_107) hr) (by rw [e16]; exact ⟨b6, mk, rfl, N16, K16, F17_0, F17_1, F17_2, F17_3, F17_4, g_b6, ne_a0_b6, hmk⟩) (by decide) (by decide)
  show own_G _ _ _ _ _ _ _ (T12.setTop (mkF m 87 #[.val (.ref a0), .val (.long q1), .second, .val (.int p2), .val (.long nw), .second] [(.ref a0)]))
  refine own_by (fun _ k => XS.iloadN X12.here hx rfl (hb hby own_d1_87) rfl  k) ?_
  show own_G _ _ _ _ _ _ _ (T12.setTop (mkF m 88 #[.val (.ref a0), .val (.long q1), .second, .val (.int p2), .val (.long nw), .second] [(.int p2), (.ref a0)]))
  refine own_by (fun _ k => XS.bipush X12.here hx rfl (hb hby own_d1_88) k) ?_
  show own_G _ _ _ _ _ _ _ (T12.setTop (mkF m 90 #[.val (.ref a0), .val (.long q1), .second, .val (.int p2), .val (.long nw), .second] [(.int (64 : Int32)), (.int p2), (.ref a0)]))
  by_cases hc90 : p2 = (64 : Int32)
  · refine own_by (fun _ k => XS.icmpNo X12.here hx rfl (hb hby own_d1_90) rfl (XT.ii_ne_f hc90) k) ?_
    show own_G _ _ _ _ _ _ _ (T12.setTop (mkF m 93 #[.val (.ref a0), .val (.long q1), .second, .val (.int p2), .val (.long nw), .second] [(.ref a0)]))
    refine own_by (X12.ldc2Long hx hown (mvT hZ (hw _ (List.mem_of_getElem? (i := 36) rfl))) (g := (mkF m 93 #[.val (.ref a0), .val (.long q1), .second, .val (.int p2), .val (.long nw), .second] [(.ref a0)])) rfl (hb hby own_d1_93)) ?_
    show own_G _ _ _ _ _ _ _ (T12.setTop (mkF m 96 #[.val (.ref a0), .val (.long q1), .second, .val (.int p2), .val (.long nw), .second] [(.long (-1 : Int64)), (.ref a0)]))
    refine own_by (fun _ k => XS.goto X12.here hx rfl (pc0 := 96) (pc' := 104) rfl (hb hby own_d1_96) (by decide) (by decide) k) ?_
    exact J104 T12 _ X12 N12 e12 (-1 : Int64) (own_mkA hpw hc90)
  · refine own_by (fun _ k => XS.icmpYes X12.here hx rfl (pc0 := 90) (pc' := 99) rfl (hb hby own_d1_90) rfl (XT.ii_ne_t hc90) (by decide) (by decide) k) ?_
    show own_G _ _ _ _ _ _ _ (T12.setTop (mkF m 99 #[.val (.ref a0), .val (.long q1), .second, .val (.int p2), .val (.long nw), .second] [(.ref a0)]))
    refine own_by (fun _ k => XT.lconst X12.here hx rfl (hb hby own_d1_99) k) ?_
    show own_G _ _ _ _ _ _ _ (T12.setTop (mkF m 100 #[.val (.ref a0), .val (.long q1), .second, .val (.int p2), .val (.long nw), .second] [(.long (1 : Int64)), (.ref a0)]))
    refine own_by (fun _ k => XS.iloadN X12.here hx rfl (hb hby own_d1_100) rfl  k) ?_
    show own_G _ _ _ _ _ _ _ (T12.setTop (mkF m 101 #[.val (.ref a0), .val (.long q1), .second, .val (.int p2), .val (.long nw), .second] [(.int p2), (.long (1 : Int64)), (.ref a0)]))
    refine own_by (fun _ k => XT.lshl X12.here hx rfl (hb hby own_d1_101) rfl k) ?_
    show own_G _ _ _ _ _ _ _ (T12.setTop (mkF m 102 #[.val (.ref a0), .val (.long q1), .second, .val (.int p2), .val (.long nw), .second] [(.long ((1 : Int64) <<< (p2.toInt64 &&& 63))), (.ref a0)]))
    refine own_by (fun _ k => XT.lconst X12.here hx rfl (hb hby own_d1_102) k) ?_
    show own_G _ _ _ _ _ _ _ (T12.setTop (mkF m 103 #[.val (.ref a0), .val (.long q1), .second, .val (.int p2), .val (.long nw), .second] [(.long (1 : Int64)), (.long ((1 : Int64) <<< (p2.toInt64 &&& 63))), (.ref a0)]))
    refine own_by (fun _ k => XT.lsub X12.here hx rfl (hb hby own_d1_103) rfl k) ?_
    exact J104 T12 _ X12 N12 e12 (((1 : Int64) <<< (p2.toInt64 &&& 63)) - (1 : Int64)) (own_mkB hpw hw64 hc90)
theorem own_d6_0 : decode prog_37_method_3_code 0 = .ok (.lload_n 1, 1) := by decide +kernel
theorem own_d6_1 : decode prog_37_method_3_code 1 = .ok (.aload_n 0, 1) := by decide +kernel
theorem own_d6_2 : decode prog_37_method_3_code 2 = .ok (.getfield 39, 3) := by decide +kernel
theorem own_d6_5 : decode prog_37_method_3_code 5 = .ok (.i2l, 1) := by decide +kernel
theorem own_d6_6 : decode prog_37_method_3_code 6 = .ok (.lmul, 1) := by decide +kernel
theorem own_d6_7 : decode prog_37_method_3_code 7 = .ok (.lstore 5, 2) := by decide +kernel
theorem own_d6_9 : decode prog_37_method_3_code 9 = .ok (.lload 5, 2) := by decide +kernel
theorem own_d6_11 : decode prog_37_method_3_code 11 = .ok (.bipush 6, 2) := by decide +kernel
theorem own_d6_13 : decode prog_37_method_3_code 13 = .ok (.lushr, 1) := by decide +kernel
theorem own_d6_14 : decode prog_37_method_3_code 14 = .ok (.l2i, 1) := by decide +kernel
theorem own_d6_15 : decode prog_37_method_3_code 15 = .ok (.istore 7, 2) := by decide +kernel
theorem own_d6_17 : decode prog_37_method_3_code 17 = .ok (.lload 5, 2) := by decide +kernel
theorem own_d6_19 : decode prog_37_method_3_code 19 = .ok (.l2i, 1) := by decide +kernel
theorem own_d6_20 : decode prog_37_method_3_code 20 = .ok (.bipush 63, 2) := by decide +kernel
theorem own_d6_22 : decode prog_37_method_3_code 22 = .ok (.iand, 1) := by decide +kernel
theorem own_d6_23 : decode prog_37_method_3_code 23 = .ok (.istore 8, 2) := by decide +kernel
theorem own_d6_25 : decode prog_37_method_3_code 25 = .ok (.aload_n 0, 1) := by decide +kernel
theorem own_d6_26 : decode prog_37_method_3_code 26 = .ok (.getfield 33, 3) := by decide +kernel
theorem own_d6_29 : decode prog_37_method_3_code 29 = .ok (.iload 7, 2) := by decide +kernel
theorem own_d6_31 : decode prog_37_method_3_code 31 = .ok (.aload_n 0, 1) := by decide +kernel
theorem own_d6_32 : decode prog_37_method_3_code 32 = .ok (.getfield 33, 3) := by decide +kernel
theorem own_d6_35 : decode prog_37_method_3_code 35 = .ok (.iload 7, 2) := by decide +kernel
theorem own_d6_37 : decode prog_37_method_3_code 37 = .ok (.laload, 1) := by decide +kernel
theorem own_d6_38 : decode prog_37_method_3_code 38 = .ok (.aload_n 0, 1) := by decide +kernel
theorem own_d6_39 : decode prog_37_method_3_code 39 = .ok (.getfield 45, 3) := by decide +kernel
theorem own_d6_42 : decode prog_37_method_3_code 42 = .ok (.iload 8, 2) := by decide +kernel
theorem own_d6_44 : decode prog_37_method_3_code 44 = .ok (.lshl, 1) := by decide +kernel
theorem own_d6_45 : decode prog_37_method_3_code 45 = .ok (.ldc2_w 43, 3) := by decide +kernel
theorem own_d6_48 : decode prog_37_method_3_code 48 = .ok (.lxor, 1) := by decide +kernel
theorem own_d6_49 : decode prog_37_method_3_code 49 = .ok (.land, 1) := by decide +kernel
theorem own_d6_50 : decode prog_37_method_3_code 50 = .ok (.lload_n 3, 1) := by decide +kernel
theorem own_d6_51 : decode prog_37_method_3_code 51 = .ok (.aload_n 0, 1) := by decide +kernel
theorem own_d6_52 : decode prog_37_method_3_code 52 = .ok (.getfield 45, 3) := by decide +kernel
theorem own_d6_55 : decode prog_37_method_3_code 55 = .ok (.land, 1) := by decide +kernel
theorem own_d6_56 : decode prog_37_method_3_code 56 = .ok (.iload 8, 2) := by decide +kernel
theorem own_d6_58 : decode prog_37_method_3_code 58 = .ok (.lshl, 1) := by decide +kernel
theorem own_d6_59 : decode prog_37_method_3_code 59 = .ok (.lor, 1) := by decide +kernel
theorem own_d6_60 : decode prog_37_method_3_code 60 = .ok (.lastore, 1) := by decide +kernel
theorem own_d6_61 : decode prog_37_method_3_code 61 = .ok (.iload 8, 2) := by decide +kernel
theorem own_d6_63 : decode prog_37_method_3_code 63 = .ok (.aload_n 0, 1) := by decide +kernel
theorem own_d6_64 : decode prog_37_method_3_code 64 = .ok (.getfield 39, 3) := by decide +kernel
theorem own_d6_67 : decode prog_37_method_3_code 67 = .ok (.iadd, 1) := by decide +kernel
theorem own_d6_68 : decode prog_37_method_3_code 68 = .ok (.bipush 64, 2) := by decide +kernel
theorem own_d6_70 : decode prog_37_method_3_code 70 = .ok (.if_icmp .le 50, 3) := by decide +kernel
theorem own_d6_73 : decode prog_37_method_3_code 73 = .ok (.bipush 64, 2) := by decide +kernel
theorem own_d6_75 : decode prog_37_method_3_code 75 = .ok (.iload 8, 2) := by decide +kernel
theorem own_d6_77 : decode prog_37_method_3_code 77 = .ok (.isub, 1) := by decide +kernel
theorem own_d6_78 : decode prog_37_method_3_code 78 = .ok (.istore 9, 2) := by decide +kernel
theorem own_d6_80 : decode prog_37_method_3_code 80 = .ok (.aload_n 0, 1) := by decide +kernel
theorem own_d6_81 : decode prog_37_method_3_code 81 = .ok (.getfield 33, 3) := by decide +kernel
theorem own_d6_84 : decode prog_37_method_3_code 84 = .ok (.iload 7, 2) := by decide +kernel
theorem own_d6_86 : decode prog_37_method_3_code 86 = .ok (.iconst 1, 1) := by decide +kernel
theorem own_d6_87 : decode prog_37_method_3_code 87 = .ok (.iadd, 1) := by decide +kernel
theorem own_d6_88 : decode prog_37_method_3_code 88 = .ok (.aload_n 0, 1) := by decide +kernel
theorem own_d6_89 : decode prog_37_method_3_code 89 = .ok (.getfield 33, 3) := by decide +kernel
theorem own_d6_92 : decode prog_37_method_3_code 92 = .ok (.iload 7, 2) := by decide +kernel
theorem own_d6_94 : decode prog_37_method_3_code 94 = .ok (.iconst 1, 1) := by decide +kernel
theorem own_d6_95 : decode prog_37_method_3_code 95 = .ok (.iadd, 1) := by decide +kernel
theorem own_d6_96 : decode prog_37_method_3_code 96 = .ok (.laload, 1) := by decide +kernel
theorem own_d6_97 : decode prog_37_method_3_code 97 = .ok (.aload_n 0, 1) := by decide +kernel
theorem own_d6_98 : decode prog_37_method_3_code 98 = .ok (.getfield 45, 3) := by decide +kernel
theorem own_d6_101 : decode prog_37_method_3_code 101 = .ok (.iload 9, 2) := by decide +kernel
theorem own_d6_103 : decode prog_37_method_3_code 103 = .ok (.lushr, 1) := by decide +kernel
theorem own_d6_104 : decode prog_37_method_3_code 104 = .ok (.ldc2_w 43, 3) := by decide +kernel
theorem own_d6_107 : decode prog_37_method_3_code 107 = .ok (.lxor, 1) := by decide +kernel
theorem own_d6_108 : decode prog_37_method_3_code 108 = .ok (.land, 1) := by decide +kernel
theorem own_d6_109 : decode prog_37_method_3_code 109 = .ok (.lload_n 3, 1) := by decide +kernel
theorem own_d6_110 : decode prog_37_method_3_code 110 = .ok (.aload_n 0, 1) := by decide +kernel
theorem own_d6_111 : decode prog_37_method_3_code 111 = .ok (.getfield 45, 3) := by decide +kernel
theorem own_d6_114 : decode prog_37_method_3_code 114 = .ok (.land, 1) := by decide +kernel
theorem own_d6_115 : decode prog_37_method_3_code 115 = .ok (.iload 9, 2) := by decide +kernel
theorem own_d6_117 : decode prog_37_method_3_code 117 = .ok (.lushr, 1) := by decide +kernel
theorem own_d6_118 : decode prog_37_method_3_code 118 = .ok (.lor, 1) := by decide +kernel
theorem own_d6_119 : decode prog_37_method_3_code 119 = .ok (.lastore, 1) := by decide +kernel
theorem own_d6_120 : decode prog_37_method_3_code 120 = .ok (.return_, 1) := by decide +kernel
theorem own_ef5 (m : MethodId) (x0 : Addr) (x1 : Int64) (x2 : Int64) : entryFrame m #[(.ref x0), (.long x1), (.long x2)] 10 = mkF m 0 #[.val (.ref x0), .val (.long x1), .second, .val (.long x2), .second, .unset, .unset, .unset, .unset, .unset] [] := by first | (simp [entryFrame, mkF, argsToLocals, Value.category]; done) | rfl
def own_Q5 (Z : State) (a0 : Addr) (q1 : Int64) (vv : Int64) (ar : Addr) (pw : Int32) (mk : Int64) (F : Nat → Int64) (w : Nat) (X : Nat) (NW : Nat) (h0 : Heap) (n0 : Nat) (v : Option Value) (h : Heap) (L : List Loc) : Prop := ∃ F' : Nat → Int64, v = none ∧ Fr n0 L ∧ Keep h0 h [ar] ∧ own_AJ Z h ar NW F' ∧ (∀ b, own_at F' b = if X ≤ b ∧ b < X + w then vv.toBitVec.getLsbD (b - X) else own_at F b)
set_option maxRecDepth 65536 in
set_option maxHeartbeats 40000000 in
theorem rm5 (l : Launch) (Z : State) (aw : Array Value) (hw : ∀ d ∈ tables_1, d.before aw Z = true) (ws : List Jvm.Cond) (a0 : Addr) (q1 : Int64) (vv : Int64) (ar : Addr) (pw : Int32) (mk : Int64) (F : Nat → Int64) (w : Nat) (X : Nat) (NW : Nat) (h0 : Heap) (n0 : Nat) (Z0 : n0 ≤ h0.size) (Fw : Fld Z h0 a0 "com/example/constellate/constellate/engine/PackedArray" "words" "[J" (.ref ar)) (Fi : Fld Z h0 a0 "com/example/constellate/constellate/engine/PackedArray" "width" "I" (.int pw)) (Fm : Fld Z h0 a0 "com/example/constellate/constellate/engine/PackedArray" "mask" "J" (.long mk)) (VA : own_AJ Z h0 ar NW F) (gar : n0 ≤ ar) (near : a0 ≠ ar) (hpw : pw.toInt = w) (hw64 : w ≤ 64) (hmk : ∀ i, i < 64 → mk.toBitVec.getLsbD i = decide (i < w)) (hXX : q1.toInt * pw.toInt = (X : Int)) (hX : X < 8192) (hN : X / 64 + 1 < NW) :
    MetFree l (⟨"com/example/constellate/constellate/engine/PackedArray", "set", "(JJ)V"⟩ : MethodName) (head1 (Jvm.Cond.code (⟨"com/example/constellate/constellate/engine/PackedArray", "set", "(JJ)V"⟩ : MethodName) prog_37_method_3_code 10 none :: ws) ({ frames := 0, cells := 0, slots := 0, locals := 0 } : Room)) (fun a U => a = #[(.ref a0), (.long q1), (.long vv)] ∧ Z.Warmed39 U.vm ∧ U.heap = h0) (fun _ _ _ _ _ => True) (fun _ U o U' => ∃ v L, o = .returned v ∧ own_Q5 Z a0 q1 vv ar pw mk F w X NW h0 n0 v U'.heap L ∧ FrameEnd U o U' L ({ frames := 0, cells := 0, slots := 0, locals := 0 } : Room).cells ({ frames := 0, cells := 0, slots := 0, locals := 0 } : Room).slots) := by
  refine MetFree.of_bodySF (plainFor_of_name own_pn0) hisR ?_
  intro p e s m args below meth c s₁ Bd hml0 hP hK
  obtain ⟨rfl, hZ, hh⟩ := hP
  have hx := Bd.exec
  have hby := Bd.bytes
  have hml : c.maxLocals = 10 := hml0
  have hown : s.vm.findClass "com/example/constellate/constellate/engine/PackedArray" = some m.cls := findClass_of_methodNamed Bd.named
  have hnm := (name_of_methodNamed Bd.named Bd.method).1
  have X0 : Stand p l e ({ frames := 0, cells := 0, slots := 0, locals := 0 } : Room) s m #[(.ref a0), (.long q1), (.long vv)] below meth c s₁ [] 0 0 := Stand.of_body Bd
  have e0 : s₁.heap = h0 := by rw [← hh, Bd.state]; rfl
  have N0 := Fr.nil n0
  show own_G p.tables e below s (own_Q5 Z a0 q1 vv ar pw mk F w X NW h0 n0) ({ frames := 0, cells := 0, slots := 0, locals := 0 } : Room).cells ({ frames := 0, cells := 0, slots := 0, locals := 0 } : Room).slots (s₁.setTop (entryFrame m #[(.ref a0), (.long q1), (.long vv)] 10))
  refine own_by (fun _ k => castTop (own_ef5 m a0 q1 vv) k) ?_
  show own_G _ _ _ _ _ _ _ (s₁.setTop (mkF m 0 #[.val (.ref a0), .val (.long q1), .second, .val (.long vv), .second, .unset, .unset, .unset, .unset, .unset] []))
  refine own_by (fun _ k => XT.lloadN X0.here hx rfl (hb hby own_d6_0) rfl  k) ?_
  show own_G _ _ _ _ _ _ _ (s₁.setTop (mkF m 1 #[.val (.ref a0), .val (.long q1), .second, .val (.long vv), .second, .unset, .unset, .unset, .unset, .unset] [(.long q1)]))
  refine own_by (fun _ k => XS.aloadN X0.here hx rfl (hb hby own_d6_1) rfl rfl k) ?_
  show own_G _ _ _ _ _ _ _ (s₁.setTop (mkF m 2 #[.val (.ref a0), .val (.long q1), .second, .val (.long vv), .second, .unset, .unset, .unset, .unset, .unset] [(.ref a0), (.long q1)]))
  obtain ⟨T19, X19, e19, st19⟩ := getF X0 hx hZ hown (host := "") (Or.inl (hw _ (List.mem_of_getElem? (i := 27) rfl))) Via.refl e0 Fi (g := (mkF m 2 #[.val (.ref a0), .val (.long q1), .second, .val (.long vv), .second, .unset, .unset, .unset, .unset, .unset] [(.ref a0), (.long q1)])) rfl rfl (hb hby own_d6_2)
  refine own_by st19 ?_
  show own_G _ _ _ _ _ _ _ (T19.setTop (mkF m 5 #[.val (.ref a0), .val (.long q1), .second, .val (.long vv), .second, .unset, .unset, .unset, .unset, .unset] [(.int pw), (.long q1)]))
  refine own_by (fun _ k => XT.i2l X19.here hx rfl (hb hby own_d6_5) rfl k) ?_
  show own_G _ _ _ _ _ _ _ (T19.setTop (mkF m 6 #[.val (.ref a0), .val (.long q1), .second, .val (.long vv), .second, .unset, .unset, .unset, .unset, .unset] [(.long pw.toInt64), (.long q1)]))
  refine own_by (fun _ k => XT.lmul X19.here hx rfl (hb hby own_d6_6) rfl k) ?_
  show own_G _ _ _ _ _ _ _ (T19.setTop (mkF m 7 #[.val (.ref a0), .val (.long q1), .second, .val (.long vv), .second, .unset, .unset, .unset, .unset, .unset] [(.long (q1 * pw.toInt64))]))
  refine own_by (fun _ k => XT.lstore X19.here hx rfl (hb hby own_d6_7) rfl (l' := #[.val (.ref a0), .val (.long q1), .second, .val (.long vv), .second, .val (.long (q1 * pw.toInt64)), .second, .unset, .unset, .unset]) rfl k) ?_
  show own_G _ _ _ _ _ _ _ (T19.setTop (mkF m 9 #[.val (.ref a0), .val (.long q1), .second, .val (.long vv), .second, .val (.long (q1 * pw.toInt64)), .second, .unset, .unset, .unset] []))
  generalize hnbt : (q1 * pw.toInt64) = bt
  show own_G _ _ _ _ _ _ _ (T19.setTop (mkF m 9 #[.val (.ref a0), .val (.long q1), .second, .val (.long vv), .second, .val (.long bt), .second, .unset, .unset, .unset] []))
  have hbt : bt.toInt = X := by rw [← hnbt]; exact own_bt hXX hX
  refine own_by (fun _ k => XT.lload X19.here hx rfl (hb hby own_d6_9) rfl  k) ?_
  show own_G _ _ _ _ _ _ _ (T19.setTop (mkF m 11 #[.val (.ref a0), .val (.long q1), .second, .val (.long vv), .second, .val (.long bt), .second, .unset, .unset, .unset] [(.long bt)]))
  refine own_by (fun _ k => XS.bipush X19.here hx rfl (hb hby own_d6_11) k) ?_
  show own_G _ _ _ _ _ _ _ (T19.setTop (mkF m 13 #[.val (.ref a0), .val (.long q1), .second, .val (.long vv), .second, .val (.long bt), .second, .unset, .unset, .unset] [(.int (6 : Int32)), (.long bt)]))
  refine own_by (fun _ k => XT.lushr X19.here hx rfl (hb hby own_d6_13) rfl k) ?_
  show own_G _ _ _ _ _ _ _ (T19.setTop (mkF m 14 #[.val (.ref a0), .val (.long q1), .second, .val (.long vv), .second, .val (.long bt), .second, .unset, .unset, .unset] [(.long (XT.ushrL bt (6 : Int32)))]))
  refine own_by (fun _ k => XT.l2i X19.here hx rfl (hb hby own_d6_14) rfl k) ?_
  show own_G _ _ _ _ _ _ _ (T19.setTop (mkF m 15 #[.val (.ref a0), .val (.long q1), .second, .val (.long vv), .second, .val (.long bt), .second, .unset, .unset, .unset] [(.int (XT.ushrL bt (6 : Int32)).toInt32)]))
  refine own_by (fun _ k => XS.istore X19.here hx rfl (hb hby own_d6_15) rfl (l' := #[.val (.ref a0), .val (.long q1), .second, .val (.long vv), .second, .val (.long bt), .second, .val (.int (XT.ushrL bt (6 : Int32)).toInt32), .unset, .unset]) rfl k) ?_
  show own_G _ _ _ _ _ _ _ (T19.setTop (mkF m 17 #[.val (.ref a0), .val (.long q1), .second, .val (.long vv), .second, .val (.long bt), .second, .val (.int (XT.ushrL bt (6 : Int32)).toInt32), .unset, .unset] []))
  generalize hnwd : (XT.ushrL bt (6 : Int32)).toInt32 = wd
  show own_G _ _ _ _ _ _ _ (T19.setTop (mkF m 17 #[.val (.ref a0), .val (.long q1), .second, .val (.long vv), .second, .val (.long bt), .second, .val (.int wd), .unset, .unset] []))
  have hwd : wd.toInt = ((X / 64 : Nat) : Int) := by rw [← hnwd]; exact own_wd hbt hX
  refine own_by (fun _ k => XT.lload X19.here hx rfl (hb hby own_d6_17) rfl  k) ?_
  show own_G _ _ _ _ _ _ _ (T19.setTop (mkF m 19 #[.val (.ref a0), .val (.long q1), .second, .val (.long vv), .second, .val (.long bt), .second, .val (.int wd), .unset, .unset] [(.long bt)]))
  refine own_by (fun _ k => XT.l2i X19.here hx rfl (hb hby own_d6_19) rfl k) ?_
  show own_G _ _ _ _ _ _ _ (T19.setTop (mkF m 20 #[.val (.ref a0), .val (.long q1), .second, .val (.long vv), .second, .val (.long bt), .second, .val (.int wd), .unset, .unset] [(.int bt.toInt32)]))
  refine own_by (fun _ k => XS.bipush X19.here hx rfl (hb hby own_d6_20) k) ?_
  show own_G _ _ _ _ _ _ _ (T19.setTop (mkF m 22 #[.val (.ref a0), .val (.long q1), .second, .val (.long vv), .second, .val (.long bt), .second, .val (.int wd), .unset, .unset] [(.int (63 : Int32)), (.int bt.toInt32)]))
  refine own_by (fun _ k => XS.iand X19.here hx rfl (hb hby own_d6_22) rfl k) ?_
  show own_G _ _ _ _ _ _ _ (T19.setTop (mkF m 23 #[.val (.ref a0), .val (.long q1), .second, .val (.long vv), .second, .val (.long bt), .second, .val (.int wd), .unset, .unset] [(.int (bt.toInt32 &&& (63 : Int32)))]))
  refine own_by (fun _ k => XS.istore X19.here hx rfl (hb hby own_d6_23) rfl (l' := #[.val (.ref a0), .val (.long q1), .second, .val (.long vv), .second, .val (.long bt), .second, .val (.int wd), .val (.int (bt.toInt32 &&& (63 : Int32))), .unset]) rfl k) ?_
  show own_G _ _ _ _ _ _ _ (T19.setTop (mkF m 25 #[.val (.ref a0), .val (.long q1), .second, .val (.long vv), .second, .val (.long bt), .second, .val (.int wd), .val (.int (bt.toInt32 &&& (63 : Int32))), .unset] []))
  generalize hnsh : (bt.toInt32 &&& (63 : Int32)) = sh
  show own_G _ _ _ _ _ _ _ (T19.setTop (mkF m 25 #[.val (.ref a0), .val (.long q1), .second, .val (.long vv), .second, .val (.long bt), .second, .val (.int wd), .val (.int sh), .unset] []))
  have hsh : sh.toInt = ((X % 64 : Nat) : Int) := by rw [← hnsh]; exact own_sh hbt hX
  refine own_by (fun _ k => XS.aloadN X19.here hx rfl (hb hby own_d6_25) rfl rfl k) ?_
  show own_G _ _ _ _ _ _ _ (T19.setTop (mkF m 26 #[.val (.ref a0), .val (.long q1), .second, .val (.long vv), .second, .val (.long bt), .second, .val (.int wd), .val (.int sh), .unset] [(.ref a0)]))
  obtain ⟨T20, X20, e20, st20⟩ := getF X19 hx hZ hown (host := "") (Or.inl (hw _ (List.mem_of_getElem? (i := 25) rfl))) Via.refl e19 Fw (g := (mkF m 26 #[.val (.ref a0), .val (.long q1), .second, .val (.long vv), .second, .val (.long bt), .second, .val (.int wd), .val (.int sh), .unset] [(.ref a0)])) rfl rfl (hb hby own_d6_26)
  refine own_by st20 ?_
  show own_G _ _ _ _ _ _ _ (T20.setTop (mkF m 29 #[.val (.ref a0), .val (.long q1), .second, .val (.long vv), .second, .val (.long bt), .second, .val (.int wd), .val (.int sh), .unset] [(.ref ar)]))
  refine own_by (fun _ k => XS.iload X20.here hx rfl (hb hby own_d6_29) rfl  k) ?_
  show own_G _ _ _ _ _ _ _ (T20.setTop (mkF m 31 #[.val (.ref a0), .val (.long q1), .second, .val (.long vv), .second, .val (.long bt), .second, .val (.int wd), .val (.int sh), .unset] [(.int wd), (.ref ar)]))
  refine own_by (fun _ k => XS.aloadN X20.here hx rfl (hb hby own_d6_31) rfl rfl k) ?_
  show own_G _ _ _ _ _ _ _ (T20.setTop (mkF m 32 #[.val (.ref a0), .val (.long q1), .second, .val (.long vv), .second, .val (.long bt), .second, .val (.int wd), .val (.int sh), .unset] [(.ref a0), (.int wd), (.ref ar)]))
  obtain ⟨T21, X21, e21, st21⟩ := getF X20 hx hZ hown (host := "") (Or.inl (hw _ (List.mem_of_getElem? (i := 25) rfl))) Via.refl e20 Fw (g := (mkF m 32 #[.val (.ref a0), .val (.long q1), .second, .val (.long vv), .second, .val (.long bt), .second, .val (.int wd), .val (.int sh), .unset] [(.ref a0), (.int wd), (.ref ar)])) rfl rfl (hb hby own_d6_32)
  refine own_by st21 ?_
  show own_G _ _ _ _ _ _ _ (T21.setTop (mkF m 35 #[.val (.ref a0), .val (.long q1), .second, .val (.long vv), .second, .val (.long bt), .second, .val (.int wd), .val (.int sh), .unset] [(.ref ar), (.int wd), (.ref ar)]))
  refine own_by (fun _ k => XS.iload X21.here hx rfl (hb hby own_d6_35) rfl  k) ?_
  show own_G _ _ _ _ _ _ _ (T21.setTop (mkF m 37 #[.val (.ref a0), .val (.long q1), .second, .val (.long vv), .second, .val (.long bt), .second, .val (.int wd), .val (.int sh), .unset] [(.int wd), (.ref ar), (.int wd), (.ref ar)]))
  refine own_by (own_ldJ X21 hx hZ e21 VA (k := (X / 64)) hwd (by omega) (g := (mkF m 37 #[.val (.ref a0), .val (.long q1), .second, .val (.long vv), .second, .val (.long bt), .second, .val (.int wd), .val (.int sh), .unset] [(.int wd), (.ref ar), (.int wd), (.ref ar)])) rfl rfl (hb hby own_d6_37)) ?_
  show own_G _ _ _ _ _ _ _ (T21.setTop (mkF m 38 #[.val (.ref a0), .val (.long q1), .second, .val (.long vv), .second, .val (.long bt), .second, .val (.int wd), .val (.int sh), .unset] [(.long (F (X / 64))), (.int wd), (.ref ar)]))
  refine own_by (fun _ k => XS.aloadN X21.here hx rfl (hb hby own_d6_38) rfl rfl k) ?_
  show own_G _ _ _ _ _ _ _ (T21.setTop (mkF m 39 #[.val (.ref a0), .val (.long q1), .second, .val (.long vv), .second, .val (.long bt), .second, .val (.int wd), .val (.int sh), .unset] [(.ref a0), (.long (F (X / 64))), (.int wd), (.ref ar)]))
  obtain ⟨T22, X22, e22, st22⟩ := getF X21 hx hZ hown (host := "") (Or.inl (hw _ (List.mem_of_getElem? (i := 29) rfl))) Via.refl e21 Fm (g := (mkF m 39 #[.val (.ref a0), .val (.long q1), .second, .val (.long vv), .second, .val (.long bt), .second, .val (.int wd), .val (.int sh), .unset] [(.ref a0), (.long (F (X / 64))), (.int wd), (.ref ar)])) rfl rfl (hb hby own_d6_39)
  refine own_by st22 ?_
  show own_G _ _ _ _ _ _ _ (T22.setTop (mkF m 42 #[.val (.ref a0), .val (.long q1), .second, .val (.long vv), .second, .val (.long bt), .second, .val (.int wd), .val (.int sh), .unset] [(.long mk), (.long (F (X / 64))), (.int wd), (.ref ar)]))
  refine own_by (fun _ k => XS.iload X22.here hx rfl (hb hby own_d6_42) rfl  k) ?_
  show own_G _ _ _ _ _ _ _ (T22.setTop (mkF m 44 #[.val (.ref a0), .val (.long q1), .second, .val (.long vv), .second, .val (.long bt), .second, .val (.int wd), .val (.int sh), .unset] [(.int sh), (.long mk), (.long (F (X / 64))), (.int wd), (.ref ar)]))
  refine own_by (fun _ k => XT.lshl X22.here hx rfl (hb hby own_d6_44) rfl k) ?_
  show own_G _ _ _ _ _ _ _ (T22.setTop (mkF m 45 #[.val (.ref a0), .val (.long q1), .second, .val (.long vv), .second, .val (.long bt), .second, .val (.int wd), .val (.int sh), .unset] [(.long (mk <<< (sh.toInt64 &&& 63))), (.long (F (X / 64))), (.int wd), (.ref ar)]))
  refine own_by (X22.ldc2Long hx hown (mvT hZ (hw _ (List.mem_of_getElem? (i := 36) rfl))) (g := (mkF m 45 #[.val (.ref a0), .val (.long q1), .second, .val (.long vv), .second, .val (.long bt), .second, .val (.int wd), .val (.int sh), .unset] [(.long (mk <<< (sh.toInt64 &&& 63))), (.long (F (X / 64))), (.int wd), (.ref ar)])) rfl (hb hby own_d6_45)) ?_
  show own_G _ _ _ _ _ _ _ (T22.setTop (mkF m 48 #[.val (.ref a0), .val (.long q1), .second, .val (.long vv), .second, .val (.long bt), .second, .val (.int wd), .val (.int sh), .unset] [(.long (-1 : Int64)), (.long (mk <<< (sh.toInt64 &&& 63))), (.long (F (X / 64))), (.int wd), (.ref ar)]))
  refine own_by (fun _ k => XT.lxor X22.here hx rfl (hb hby own_d6_48) rfl k) ?_
  show own_G _ _ _ _ _ _ _ (T22.setTop (mkF m 49 #[.val (.ref a0), .val (.long q1), .second, .val (.long vv), .second, .val (.long bt), .second, .val (.int wd), .val (.int sh), .unset] [(.long ((mk <<< (sh.toInt64 &&& 63)) ^^^ (-1 : Int64))), (.long (F (X / 64))), (.int wd), (.ref ar)]))
  refine own_by (fun _ k => XT.land X22.here hx rfl (hb hby own_d6_49) rfl k) ?_
  show own_G _ _ _ _ _ _ _ (T22.setTop (mkF m 50 #[.val (.ref a0), .val (.long q1), .second, .val (.long vv), .second, .val (.long bt), .second, .val (.int wd), .val (.int sh), .unset] [(.long ((F (X / 64)) &&& ((mk <<< (sh.toInt64 &&& 63)) ^^^ (-1 : Int64)))), (.int wd), (.ref ar)]))
  refine own_by (fun _ k => XT.lloadN X22.here hx rfl (hb hby own_d6_50) rfl  k) ?_
  show own_G _ _ _ _ _ _ _ (T22.setTop (mkF m 51 #[.val (.ref a0), .val (.long q1), .second, .val (.long vv), .second, .val (.long bt), .second, .val (.int wd), .val (.int sh), .unset] [(.long vv), (.long ((F (X / 64)) &&& ((mk <<< (sh.toInt64 &&& 63)) ^^^ (-1 : Int64)))), (.int wd), (.ref ar)]))
  refine own_by (fun _ k => XS.aloadN X22.here hx rfl (hb hby own_d6_51) rfl rfl k) ?_
  show own_G _ _ _ _ _ _ _ (T22.setTop (mkF m 52 #[.val (.ref a0), .val (.long q1), .second, .val (.long vv), .second, .val (.long bt), .second, .val (.int wd), .val (.int sh), .unset] [(.ref a0), (.long vv), (.long ((F (X / 64)) &&& ((mk <<< (sh.toInt64 &&& 63)) ^^^ (-1 : Int64)))), (.int wd), (.ref ar)]))
  obtain ⟨T23, X23, e23, st23⟩ := getF X22 hx hZ hown (host := "") (Or.inl (hw _ (List.mem_of_getElem? (i := 29) rfl))) Via.refl e22 Fm (g := (mkF m 52 #[.val (.ref a0), .val (.long q1), .second, .val (.long vv), .second, .val (.long bt), .second, .val (.int wd), .val (.int sh), .unset] [(.ref a0), (.long vv), (.long ((F (X / 64)) &&& ((mk <<< (sh.toInt64 &&& 63)) ^^^ (-1 : Int64)))), (.int wd), (.ref ar)])) rfl rfl (hb hby own_d6_52)
  refine own_by st23 ?_
  show own_G _ _ _ _ _ _ _ (T23.setTop (mkF m 55 #[.val (.ref a0), .val (.long q1), .second, .val (.long vv), .second, .val (.long bt), .second, .val (.int wd), .val (.int sh), .unset] [(.long mk), (.long vv), (.long ((F (X / 64)) &&& ((mk <<< (sh.toInt64 &&& 63)) ^^^ (-1 : Int64)))), (.int wd), (.ref ar)]))
  refine own_by (fun _ k => XT.land X23.here hx rfl (hb hby own_d6_55) rfl k) ?_
  show own_G _ _ _ _ _ _ _ (T23.setTop (mkF m 56 #[.val (.ref a0), .val (.long q1), .second, .val (.long vv), .second, .val (.long bt), .second, .val (.int wd), .val (.int sh), .unset] [(.long (vv &&& mk)), (.long ((F (X / 64)) &&& ((mk <<< (sh.toInt64 &&& 63)) ^^^ (-1 : Int64)))), (.int wd), (.ref ar)]))
  refine own_by (fun _ k => XS.iload X23.here hx rfl (hb hby own_d6_56) rfl  k) ?_
  show own_G _ _ _ _ _ _ _ (T23.setTop (mkF m 58 #[.val (.ref a0), .val (.long q1), .second, .val (.long vv), .second, .val (.long bt), .second, .val (.int wd), .val (.int sh), .unset] [(.int sh), (.long (vv &&& mk)), (.long ((F (X / 64)) &&& ((mk <<< (sh.toInt64 &&& 63)) ^^^ (-1 : Int64)))), (.int wd), (.ref ar)]))
  refine own_by (fun _ k => XT.lshl X23.here hx rfl (hb hby own_d6_58) rfl k) ?_
  show own_G _ _ _ _ _ _ _ (T23.setTop (mkF m 59 #[.val (.ref a0), .val (.long q1), .second, .val (.long vv), .second, .val (.long bt), .second, .val (.int wd), .val (.int sh), .unset] [(.long ((vv &&& mk) <<< (sh.toInt64 &&& 63))), (.long ((F (X / 64)) &&& ((mk <<< (sh.toInt64 &&& 63)) ^^^ (-1 : Int64)))), (.int wd), (.ref ar)]))
  refine own_by (fun _ k => XT.lor X23.here hx rfl (hb hby own_d6_59) rfl k) ?_
  show own_G _ _ _ _ _ _ _ (T23.setTop (mkF m 60 #[.val (.ref a0), .val (.long q1), .second, .val (.long vv), .second, .val (.long bt), .second, .val (.int wd), .val (.int sh), .unset] [(.long (((F (X / 64)) &&& ((mk <<< (sh.toInt64 &&& 63)) ^^^ (-1 : Int64))) ||| ((vv &&& mk) <<< (sh.toInt64 &&& 63)))), (.int wd), (.ref ar)]))
  obtain ⟨T24, h24, X24, e24, W24, A24, st24⟩ := own_stJ X23 hx hZ e23 VA (k := (X / 64)) hwd (by omega) (g := (mkF m 60 #[.val (.ref a0), .val (.long q1), .second, .val (.long vv), .second, .val (.long bt), .second, .val (.int wd), .val (.int sh), .unset] [(.long (((F (X / 64)) &&& ((mk <<< (sh.toInt64 &&& 63)) ^^^ (-1 : Int64))) ||| ((vv &&& mk) <<< (sh.toInt64 &&& 63)))), (.int wd), (.ref ar)])) rfl rfl (hb hby own_d6_60)
  refine own_by st24 ?_
  have F25_0 := Fw.other W24 (Or.inl near)
  have F25_1 := Fi.other W24 (Or.inl near)
  have F25_2 := Fm.other W24 (Or.inl near)
  have N24 := Fr.snoc X24 N0 gar
  have Z26 : n0 ≤ h24.size := Nat.le_trans Z0 (Nat.le_of_eq W24.size.symm)
  have K24 := (Keep.refl h0 [ar]).wr W24 (Or.inl (List.mem_of_getElem? (i := 0) rfl))
  show own_G _ _ _ _ _ _ _ (T24.setTop (mkF m 61 #[.val (.ref a0), .val (.long q1), .second, .val (.long vv), .second, .val (.long bt), .second, .val (.int wd), .val (.int sh), .unset] []))
  refine own_by (fun _ k => XS.iload X24.here hx rfl (hb hby own_d6_61) rfl  k) ?_
  show own_G _ _ _ _ _ _ _ (T24.setTop (mkF m 63 #[.val (.ref a0), .val (.long q1), .second, .val (.long vv), .second, .val (.long bt), .second, .val (.int wd), .val (.int sh), .unset] [(.int sh)]))
  refine own_by (fun _ k => XS.aloadN X24.here hx rfl (hb hby own_d6_63) rfl rfl k) ?_
  show own_G _ _ _ _ _ _ _ (T24.setTop (mkF m 64 #[.val (.ref a0), .val (.long q1), .second, .val (.long vv), .second, .val (.long bt), .second, .val (.int wd), .val (.int sh), .unset] [(.ref a0), (.int sh)]))
  obtain ⟨T27, X27, e27, st27⟩ := getF X24 hx hZ hown (host := "") (Or.inl (hw _ (List.mem_of_getElem? (i := 27) rfl))) Via.refl e24 F25_1 (g := (mkF m 64 #[.val (.ref a0), .val (.long q1), .second, .val (.long vv), .second, .val (.long bt), .second, .val (.int wd), .val (.int sh), .unset] [(.ref a0), (.int sh)])) rfl rfl (hb hby own_d6_64)
  refine own_by st27 ?_
  show own_G _ _ _ _ _ _ _ (T27.setTop (mkF m 67 #[.val (.ref a0), .val (.long q1), .second, .val (.long vv), .second, .val (.long bt), .second, .val (.int wd), .val (.int sh), .unset] [(.int pw), (.int sh)]))
  refine own_by (fun _ k => XS.iadd X27.here hx rfl (hb hby own_d6_67) rfl k) ?_
  show own_G _ _ _ _ _ _ _ (T27.setTop (mkF m 68 #[.val (.ref a0), .val (.long q1), .second, .val (.long vv), .second, .val (.long bt), .second, .val (.int wd), .val (.int sh), .unset] [(.int (sh + pw))]))
  refine own_by (fun _ k => XS.bipush X27.here hx rfl (hb hby own_d6_68) k) ?_
  show own_G _ _ _ _ _ _ _ (T27.setTop (mkF m 70 #[.val (.ref a0), .val (.long q1), .second, .val (.long vv), .second, .val (.long bt), .second, .val (.int wd), .val (.int sh), .unset] [(.int (64 : Int32)), (.int (sh + pw))]))
  by_cases hc70 : (64 : Int32) < (sh + pw)
  · refine own_by (fun _ k => XS.icmpNo X27.here hx rfl (hb hby own_d6_70) rfl (XT.ii_le_f hc70) k) ?_
    show own_G _ _ _ _ _ _ _ (T27.setTop (mkF m 73 #[.val (.ref a0), .val (.long q1), .second, .val (.long vv), .second, .val (.long bt), .second, .val (.int wd), .val (.int sh), .unset] []))
    refine own_by (fun _ k => XS.bipush X27.here hx rfl (hb hby own_d6_73) k) ?_
    show own_G _ _ _ _ _ _ _ (T27.setTop (mkF m 75 #[.val (.ref a0), .val (.long q1), .second, .val (.long vv), .second, .val (.long bt), .second, .val (.int wd), .val (.int sh), .unset] [(.int (64 : Int32))]))
    refine own_by (fun _ k => XS.iload X27.here hx rfl (hb hby own_d6_75) rfl  k) ?_
    show own_G _ _ _ _ _ _ _ (T27.setTop (mkF m 77 #[.val (.ref a0), .val (.long q1), .second, .val (.long vv), .second, .val (.long bt), .second, .val (.int wd), .val (.int sh), .unset] [(.int sh), (.int (64 : Int32))]))
    refine own_by (fun _ k => XS.isub X27.here hx rfl (hb hby own_d6_77) rfl k) ?_
    show own_G _ _ _ _ _ _ _ (T27.setTop (mkF m 78 #[.val (.ref a0), .val (.long q1), .second, .val (.long vv), .second, .val (.long bt), .second, .val (.int wd), .val (.int sh), .unset] [(.int ((64 : Int32) - sh))]))
    refine own_by (fun _ k => XS.istore X27.here hx rfl (hb hby own_d6_78) rfl (l' := #[.val (.ref a0), .val (.long q1), .second, .val (.long vv), .second, .val (.long bt), .second, .val (.int wd), .val (.int sh), .val (.int ((64 : Int32) - sh))]) rfl k) ?_
    show own_G _ _ _ _ _ _ _ (T27.setTop (mkF m 80 #[.val (.ref a0), .val (.long q1), .second, .val (.long vv), .second, .val (.long bt), .second, .val (.int wd), .val (.int sh), .val (.int ((64 : Int32) - sh))] []))
    generalize hnlo : ((64 : Int32) - sh) = lo
    show own_G _ _ _ _ _ _ _ (T27.setTop (mkF m 80 #[.val (.ref a0), .val (.long q1), .second, .val (.long vv), .second, .val (.long bt), .second, .val (.int wd), .val (.int sh), .val (.int lo)] []))
    have hlo : lo.toInt = ((64 - X % 64 : Nat) : Int) := by rw [← hnlo]; exact own_sub (show (64 : Int32).toInt = (64 : Nat) by decide) hsh (by omega)
    refine own_by (fun _ k => XS.aloadN X27.here hx rfl (hb hby own_d6_80) rfl rfl k) ?_
    show own_G _ _ _ _ _ _ _ (T27.setTop (mkF m 81 #[.val (.ref a0), .val (.long q1), .second, .val (.long vv), .second, .val (.long bt), .second, .val (.int wd), .val (.int sh), .val (.int lo)] [(.ref a0)]))
    obtain ⟨T28, X28, e28, st28⟩ := getF X27 hx hZ hown (host := "") (Or.inl (hw _ (List.mem_of_getElem? (i := 25) rfl))) Via.refl e27 F25_0 (g := (mkF m 81 #[.val (.ref a0), .val (.long q1), .second, .val (.long vv), .second, .val (.long bt), .second, .val (.int wd), .val (.int sh), .val (.int lo)] [(.ref a0)])) rfl rfl (hb hby own_d6_81)
    refine own_by st28 ?_
    show own_G _ _ _ _ _ _ _ (T28.setTop (mkF m 84 #[.val (.ref a0), .val (.long q1), .second, .val (.long vv), .second, .val (.long bt), .second, .val (.int wd), .val (.int sh), .val (.int lo)] [(.ref ar)]))
    refine own_by (fun _ k => XS.iload X28.here hx rfl (hb hby own_d6_84) rfl  k) ?_
    show own_G _ _ _ _ _ _ _ (T28.setTop (mkF m 86 #[.val (.ref a0), .val (.long q1), .second, .val (.long vv), .second, .val (.long bt), .second, .val (.int wd), .val (.int sh), .val (.int lo)] [(.int wd), (.ref ar)]))
    refine own_by (fun _ k => XS.iconst X28.here hx rfl (hb hby own_d6_86) k) ?_
    show own_G _ _ _ _ _ _ _ (T28.setTop (mkF m 87 #[.val (.ref a0), .val (.long q1), .second, .val (.long vv), .second, .val (.long bt), .second, .val (.int wd), .val (.int sh), .val (.int lo)] [(.int (1 : Int32)), (.int wd), (.ref ar)]))
    refine own_by (fun _ k => XS.iadd X28.here hx rfl (hb hby own_d6_87) rfl k) ?_
    show own_G _ _ _ _ _ _ _ (T28.setTop (mkF m 88 #[.val (.ref a0), .val (.long q1), .second, .val (.long vv), .second, .val (.long bt), .second, .val (.int wd), .val (.int sh), .val (.int lo)] [(.int (wd + (1 : Int32))), (.ref ar)]))
    refine own_by (fun _ k => XS.aloadN X28.here hx rfl (hb hby own_d6_88) rfl rfl k) ?_
    show own_G _ _ _ _ _ _ _ (T28.setTop (mkF m 89 #[.val (.ref a0), .val (.long q1), .second, .val (.long vv), .second, .val (.long bt), .second, .val (.int wd), .val (.int sh), .val (.int lo)] [(.ref a0), (.int (wd + (1 : Int32))), (.ref ar)]))
    obtain ⟨T29, X29, e29, st29⟩ := getF X28 hx hZ hown (host := "") (Or.inl (hw _ (List.mem_of_getElem? (i := 25) rfl))) Via.refl e28 F25_0 (g := (mkF m 89 #[.val (.ref a0), .val (.long q1), .second, .val (.long vv), .second, .val (.long bt), .second, .val (.int wd), .val (.int sh), .val (.int lo)] [(.ref a0), (.int (wd + (1 : Int32))), (.ref ar)])) rfl rfl (hb hby own_d6_89)
    refine own_by st29 ?_
    show own_G _ _ _ _ _ _ _ (T29.setTop (mkF m 92 #[.val (.ref a0), .val (.long q1), .second, .val (.long vv), .second, .val (.long bt), .second, .val (.int wd), .val (.int sh), .val (.int lo)] [(.ref ar), (.int (wd + (1 : Int32))), (.ref ar)]))
    refine own_by (fun _ k => XS.iload X29.here hx rfl (hb hby own_d6_92) rfl  k) ?_
    show own_G _ _ _ _ _ _ _ (T29.setTop (mkF m 94 #[.val (.ref a0), .val (.long q1), .second, .val (.long vv), .second, .val (.long bt), .second, .val (.int wd), .val (.int sh), .val (.int lo)] [(.int wd), (.ref ar), (.int (wd + (1 : Int32))), (.ref ar)]))
    refine own_by (fun _ k => XS.iconst X29.here hx rfl (hb hby own_d6_94) k) ?_
    show own_G _ _ _ _ _ _ _ (T29.setTop (mkF m 95 #[.val (.ref a0), .val (.long q1), .second, .val (.long vv), .second, .val (.long bt), .second, .val (.int wd), .val (.int sh), .val (.int lo)] [(.int (1 : Int32)), (.int wd), (.ref ar), (.int (wd + (1 : Int32))), (.ref ar)]))
    refine own_by (fun _ k => XS.iadd X29.here hx rfl (hb hby own_d6_95) rfl k) ?_
    show own_G _ _ _ _ _ _ _ (T29.setTop (mkF m 96 #[.val (.ref a0), .val (.long q1), .second, .val (.long vv), .second, .val (.long bt), .second, .val (.int wd), .val (.int sh), .val (.int lo)] [(.int (wd + (1 : Int32))), (.ref ar), (.int (wd + (1 : Int32))), (.ref ar)]))
    refine own_by (own_ldJ X29 hx hZ e29 A24 (k := (X / 64 + 1)) (own_add hwd (show (1 : Int32).toInt = (1 : Nat) by decide) (by omega)) (by omega) (g := (mkF m 96 #[.val (.ref a0), .val (.long q1), .second, .val (.long vv), .second, .val (.long bt), .second, .val (.int wd), .val (.int sh), .val (.int lo)] [(.int (wd + (1 : Int32))), (.ref ar), (.int (wd + (1 : Int32))), (.ref ar)])) rfl rfl (hb hby own_d6_96)) ?_
    show own_G _ _ _ _ _ _ _ (T29.setTop (mkF m 97 #[.val (.ref a0), .val (.long q1), .second, .val (.long vv), .second, .val (.long bt), .second, .val (.int wd), .val (.int sh), .val (.int lo)] [(.long ((own_upd F (X / 64) (((F (X / 64)) &&& ((mk <<< (sh.toInt64 &&& 63)) ^^^ (-1 : Int64))) ||| ((vv &&& mk) <<< (sh.toInt64 &&& 63)))) (X / 64 + 1))), (.int (wd + (1 : Int32))), (.ref ar)]))
    refine own_by (fun _ k => XS.aloadN X29.here hx rfl (hb hby own_d6_97) rfl rfl k) ?_
    show own_G _ _ _ _ _ _ _ (T29.setTop (mkF m 98 #[.val (.ref a0), .val (.long q1), .second, .val (.long vv), .second, .val (.long bt), .second, .val (.int wd), .val (.int sh), .val (.int lo)] [(.ref a0), (.long ((own_upd F (X / 64) (((F (X / 64)) &&& ((mk <<< (sh.toInt64 &&& 63)) ^^^ (-1 : Int64))) ||| ((vv &&& mk) <<< (sh.toInt64 &&& 63)))) (X / 64 + 1))), (.int (wd + (1 : Int32))), (.ref ar)]))
    obtain ⟨T30, X30, e30, st30⟩ := getF X29 hx hZ hown (host := "") (Or.inl (hw _ (List.mem_of_getElem? (i := 29) rfl))) Via.refl e29 F25_2 (g := (mkF m 98 #[.val (.ref a0), .val (.long q1), .second, .val (.long vv), .second, .val (.long bt), .second, .val (.int wd), .val (.int sh), .val (.int lo)] [(.ref a0), (.long ((own_upd F (X / 64) (((F (X / 64)) &&& ((mk <<< (sh.toInt64 &&& 63)) ^^^ (-1 : Int64))) ||| ((vv &&& mk) <<< (sh.toInt64 &&& 63)))) (X / 64 + 1))), (.int (wd + (1 : Int32))), (.ref ar)])) rfl rfl (hb hby own_d6_98)
    refine own_by st30 ?_
    show own_G _ _ _ _ _ _ _ (T30.setTop (mkF m 101 #[.val (.ref a0), .val (.long q1), .second, .val (.long vv), .second, .val (.long bt), .second, .val (.int wd), .val (.int sh), .val (.int lo)] [(.long mk), (.long ((own_upd F (X / 64) (((F (X / 64)) &&& ((mk <<< (sh.toInt64 &&& 63)) ^^^ (-1 : Int64))) ||| ((vv &&& mk) <<< (sh.toInt64 &&& 63)))) (X / 64 + 1))), (.int (wd + (1 : Int32))), (.ref ar)]))
    refine own_by (fun _ k => XS.iload X30.here hx rfl (hb hby own_d6_101) rfl  k) ?_
    show own_G _ _ _ _ _ _ _ (T30.setTop (mkF m 103 #[.val (.ref a0), .val (.long q1), .second, .val (.long vv), .second, .val (.long bt), .second, .val (.int wd), .val (.int sh), .val (.int lo)] [(.int lo), (.long mk), (.long ((own_upd F (X / 64) (((F (X / 64)) &&& ((mk <<< (sh.toInt64 &&& 63)) ^^^ (-1 : Int64))) ||| ((vv &&& mk) <<< (sh.toInt64 &&& 63)))) (X / 64 + 1))), (.int (wd + (1 : Int32))), (.ref ar)]))
    refine own_by (fun _ k => XT.lushr X30.here hx rfl (hb hby own_d6_103) rfl k) ?_
    show own_G _ _ _ _ _ _ _ (T30.setTop (mkF m 104 #[.val (.ref a0), .val (.long q1), .second, .val (.long vv), .second, .val (.long bt), .second, .val (.int wd), .val (.int sh), .val (.int lo)] [(.long (XT.ushrL mk lo)), (.long ((own_upd F (X / 64) (((F (X / 64)) &&& ((mk <<< (sh.toInt64 &&& 63)) ^^^ (-1 : Int64))) ||| ((vv &&& mk) <<< (sh.toInt64 &&& 63)))) (X / 64 + 1))), (.int (wd + (1 : Int32))), (.ref ar)]))
    refine own_by (X30.ldc2Long hx hown (mvT hZ (hw _ (List.mem_of_getElem? (i := 36) rfl))) (g := (mkF m 104 #[.val (.ref a0), .val (.long q1), .second, .val (.long vv), .second, .val (.long bt), .second, .val (.int wd), .val (.int sh), .val (.int lo)] [(.long (XT.ushrL mk lo)), (.long ((own_upd F (X / 64) (((F (X / 64)) &&& ((mk <<< (sh.toInt64 &&& 63)) ^^^ (-1 : Int64))) ||| ((vv &&& mk) <<< (sh.toInt64 &&& 63)))) (X / 64 + 1))), (.int (wd + (1 : Int32))), (.ref ar)])) rfl (hb hby own_d6_104)) ?_
    show own_G _ _ _ _ _ _ _ (T30.setTop (mkF m 107 #[.val (.ref a0), .val (.long q1), .second, .val (.long vv), .second, .val (.long bt), .second, .val (.int wd), .val (.int sh), .val (.int lo)] [(.long (-1 : Int64)), (.long (XT.ushrL mk lo)), (.long ((own_upd F (X / 64) (((F (X / 64)) &&& ((mk <<< (sh.toInt64 &&& 63)) ^^^ (-1 : Int64))) ||| ((vv &&& mk) <<< (sh.toInt64 &&& 63)))) (X / 64 + 1))), (.int (wd + (1 : Int32))), (.ref ar)]))
    refine own_by (fun _ k => XT.lxor X30.here hx rfl (hb hby own_d6_107) rfl k) ?_
    show own_G _ _ _ _ _ _ _ (T30.setTop (mkF m 108 #[.val (.ref a0), .val (.long q1), .second, .val (.long vv), .second, .val (.long bt), .second, .val (.int wd), .val (.int sh), .val (.int lo)] [(.long ((XT.ushrL mk lo) ^^^ (-1 : Int64))), (.long ((own_upd F (X / 64) (((F (X / 64)) &&& ((mk <<< (sh.toInt64 &&& 63)) ^^^ (-1 : Int64))) ||| ((vv &&& mk) <<< (sh.toInt64 &&& 63)))) (X / 64 + 1))), (.int (wd + (1 : Int32))), (.ref ar)]))
    refine own_by (fun _ k => XT.land X30.here hx rfl (hb hby own_d6_108) rfl k) ?_
    show own_G _ _ _ _ _ _ _ (T30.setTop (mkF m 109 #[.val (.ref a0), .val (.long q1), .second, .val (.long vv), .second, .val (.long bt), .second, .val (.int wd), .val (.int sh), .val (.int lo)] [(.long (((own_upd F (X / 64) (((F (X / 64)) &&& ((mk <<< (sh.toInt64 &&& 63)) ^^^ (-1 : Int64))) ||| ((vv &&& mk) <<< (sh.toInt64 &&& 63)))) (X / 64 + 1)) &&& ((XT.ushrL mk lo) ^^^ (-1 : Int64)))), (.int (wd + (1 : Int32))), (.ref ar)]))
    refine own_by (fun _ k => XT.lloadN X30.here hx rfl (hb hby own_d6_109) rfl  k) ?_
    show own_G _ _ _ _ _ _ _ (T30.setTop (mkF m 110 #[.val (.ref a0), .val (.long q1), .second, .val (.long vv), .second, .val (.long bt), .second, .val (.int wd), .val (.int sh), .val (.int lo)] [(.long vv), (.long (((own_upd F (X / 64) (((F (X / 64)) &&& ((mk <<< (sh.toInt64 &&& 63)) ^^^ (-1 : Int64))) ||| ((vv &&& mk) <<< (sh.toInt64 &&& 63)))) (X / 64 + 1)) &&& ((XT.ushrL mk lo) ^^^ (-1 : Int64)))), (.int (wd + (1 : Int32))), (.ref ar)]))
    refine own_by (fun _ k => XS.aloadN X30.here hx rfl (hb hby own_d6_110) rfl rfl k) ?_
    show own_G _ _ _ _ _ _ _ (T30.setTop (mkF m 111 #[.val (.ref a0), .val (.long q1), .second, .val (.long vv), .second, .val (.long bt), .second, .val (.int wd), .val (.int sh), .val (.int lo)] [(.ref a0), (.long vv), (.long (((own_upd F (X / 64) (((F (X / 64)) &&& ((mk <<< (sh.toInt64 &&& 63)) ^^^ (-1 : Int64))) ||| ((vv &&& mk) <<< (sh.toInt64 &&& 63)))) (X / 64 + 1)) &&& ((XT.ushrL mk lo) ^^^ (-1 : Int64)))), (.int (wd + (1 : Int32))), (.ref ar)]))
    obtain ⟨T31, X31, e31, st31⟩ := getF X30 hx hZ hown (host := "") (Or.inl (hw _ (List.mem_of_getElem? (i := 29) rfl))) Via.refl e30 F25_2 (g := (mkF m 111 #[.val (.ref a0), .val (.long q1), .second, .val (.long vv), .second, .val (.long bt), .second, .val (.int wd), .val (.int sh), .val (.int lo)] [(.ref a0), (.long vv), (.long (((own_upd F (X / 64) (((F (X / 64)) &&& ((mk <<< (sh.toInt64 &&& 63)) ^^^ (-1 : Int64))) ||| ((vv &&& mk) <<< (sh.toInt64 &&& 63)))) (X / 64 + 1)) &&& ((XT.ushrL mk lo) ^^^ (-1 : Int64)))), (.int (wd + (1 : Int32))), (.ref ar)])) rfl rfl (hb hby own_d6_111)
    refine own_by st31 ?_
    show own_G _ _ _ _ _ _ _ (T31.setTop (mkF m 114 #[.val (.ref a0), .val (.long q1), .second, .val (.long vv), .second, .val (.long bt), .second, .val (.int wd), .val (.int sh), .val (.int lo)] [(.long mk), (.long vv), (.long (((own_upd F (X / 64) (((F (X / 64)) &&& ((mk <<< (sh.toInt64 &&& 63)) ^^^ (-1 : Int64))) ||| ((vv &&& mk) <<< (sh.toInt64 &&& 63)))) (X / 64 + 1)) &&& ((XT.ushrL mk lo) ^^^ (-1 : Int64)))), (.int (wd + (1 : Int32))), (.ref ar)]))
    refine own_by (fun _ k => XT.land X31.here hx rfl (hb hby own_d6_114) rfl k) ?_
    show own_G _ _ _ _ _ _ _ (T31.setTop (mkF m 115 #[.val (.ref a0), .val (.long q1), .second, .val (.long vv), .second, .val (.long bt), .second, .val (.int wd), .val (.int sh), .val (.int lo)] [(.long (vv &&& mk)), (.long (((own_upd F (X / 64) (((F (X / 64)) &&& ((mk <<< (sh.toInt64 &&& 63)) ^^^ (-1 : Int64))) ||| ((vv &&& mk) <<< (sh.toInt64 &&& 63)))) (X / 64 + 1)) &&& ((XT.ushrL mk lo) ^^^ (-1 : Int64)))), (.int (wd + (1 : Int32))), (.ref ar)]))
    refine own_by (fun _ k => XS.iload X31.here hx rfl (hb hby own_d6_115) rfl  k) ?_
    show own_G _ _ _ _ _ _ _ (T31.setTop (mkF m 117 #[.val (.ref a0), .val (.long q1), .second, .val (.long vv), .second, .val (.long bt), .second, .val (.int wd), .val (.int sh), .val (.int lo)] [(.int lo), (.long (vv &&& mk)), (.long (((own_upd F (X / 64) (((F (X / 64)) &&& ((mk <<< (sh.toInt64 &&& 63)) ^^^ (-1 : Int64))) ||| ((vv &&& mk) <<< (sh.toInt64 &&& 63)))) (X / 64 + 1)) &&& ((XT.ushrL mk lo) ^^^ (-1 : Int64)))), (.int (wd + (1 : Int32))), (.ref ar)]))
    refine own_by (fun _ k => XT.lushr X31.here hx rfl (hb hby own_d6_117) rfl k) ?_
    show own_G _ _ _ _ _ _ _ (T31.setTop (mkF m 118 #[.val (.ref a0), .val (.long q1), .second, .val (.long vv), .second, .val (.long bt), .second, .val (.int wd), .val (.int sh), .val (.int lo)] [(.long (XT.ushrL (vv &&& mk) lo)), (.long (((own_upd F (X / 64) (((F (X / 64)) &&& ((mk <<< (sh.toInt64 &&& 63)) ^^^ (-1 : Int64))) ||| ((vv &&& mk) <<< (sh.toInt64 &&& 63)))) (X / 64 + 1)) &&& ((XT.ushrL mk lo) ^^^ (-1 : Int64)))), (.int (wd + (1 : Int32))), (.ref ar)]))
    refine own_by (fun _ k => XT.lor X31.here hx rfl (hb hby own_d6_118) rfl k) ?_
    show own_G _ _ _ _ _ _ _ (T31.setTop (mkF m 119 #[.val (.ref a0), .val (.long q1), .second, .val (.long vv), .second, .val (.long bt), .second, .val (.int wd), .val (.int sh), .val (.int lo)] [(.long ((((own_upd F (X / 64) (((F (X / 64)) &&& ((mk <<< (sh.toInt64 &&& 63)) ^^^ (-1 : Int64))) ||| ((vv &&& mk) <<< (sh.toInt64 &&& 63)))) (X / 64 + 1)) &&& ((XT.ushrL mk lo) ^^^ (-1 : Int64))) ||| (XT.ushrL (vv &&& mk) lo))), (.int (wd + (1 : Int32))), (.ref ar)]))
    obtain ⟨T32, h32, X32, e32, W32, A32, st32⟩ := own_stJ X31 hx hZ e31 A24 (k := (X / 64 + 1)) (own_add hwd (show (1 : Int32).toInt = (1 : Nat) by decide) (by omega)) (by omega) (g := (mkF m 119 #[.val (.ref a0), .val (.long q1), .second, .val (.long vv), .second, .val (.long bt), .second, .val (.int wd), .val (.int sh), .val (.int lo)] [(.long ((((own_upd F (X / 64) (((F (X / 64)) &&& ((mk <<< (sh.toInt64 &&& 63)) ^^^ (-1 : Int64))) ||| ((vv &&& mk) <<< (sh.toInt64 &&& 63)))) (X / 64 + 1)) &&& ((XT.ushrL mk lo) ^^^ (-1 : Int64))) ||| (XT.ushrL (vv &&& mk) lo))), (.int (wd + (1 : Int32))), (.ref ar)])) rfl rfl (hb hby own_d6_119)
    refine own_by st32 ?_
    have F33_0 := F25_0.other W32 (Or.inl near)
    have F33_1 := F25_1.other W32 (Or.inl near)
    have F33_2 := F25_2.other W32 (Or.inl near)
    have N32 := Fr.snoc X32 N24 gar
    have Z34 : n0 ≤ h32.size := Nat.le_trans Z26 (Nat.le_of_eq W32.size.symm)
    have K32 := K24.wr W32 (Or.inl (List.mem_of_getElem? (i := 0) rfl))
    show own_G _ _ _ _ _ _ _ (T32.setTop (mkF m 120 #[.val (.ref a0), .val (.long q1), .second, .val (.long vv), .second, .val (.long bt), .second, .val (.int wd), .val (.int sh), .val (.int lo)] []))
    exact own_end X32 (v := none) (fun _ => rfl) (BodyLoose.notSynchronized Bd) (fun fs hr => X32.returnOut hx Bd.returns (hb hby own_d6_120) hr) (by rw [e32]; exact ⟨_, rfl, N32, K32, A32, fun b => own_set2 F vv mk w X hsh hlo hw64 hmk ((own_lt (show (64 : Int32).toInt = (64 : Nat) by decide) (own_add hsh hpw (by omega))).mp hc70) b⟩) (by decide) (by decide)
  · refine own_by (fun _ k => XS.icmpYes X27.here hx rfl (pc0 := 70) (pc' := 120) rfl (hb hby own_d6_70) rfl (XT.ii_le_t hc70) (by decide) (by decide) k) ?_
    show own_G _ _ _ _ _ _ _ (T27.setTop (mkF m 120 #[.val (.ref a0), .val (.long q1), .second, .val (.long vv), .second, .val (.long bt), .second, .val (.int wd), .val (.int sh), .unset] []))
    exact own_end X27 (v := none) (fun _ => rfl) (BodyLoose.notSynchronized Bd) (fun fs hr => X27.returnOut hx Bd.returns (hb hby own_d6_120) hr) (by rw [e27]; exact ⟨_, rfl, N24, K24, A24, fun b => own_set1 F vv mk w X hsh hmk (fun z => hc70 ((own_lt (show (64 : Int32).toInt = (64 : Nat) by decide) (own_add hsh hpw (by omega))).mpr z)) b⟩) (by decide) (by decide)
theorem own_d7_0 : decode prog_37_method_2_code 0 = .ok (.lload_n 1, 1) := by decide +kernel
theorem own_d7_1 : decode prog_37_method_2_code 1 = .ok (.aload_n 0, 1) := by decide +kernel
theorem own_d7_2 : decode prog_37_method_2_code 2 = .ok (.getfield 39, 3) := by decide +kernel
theorem own_d7_5 : decode prog_37_method_2_code 5 = .ok (.i2l, 1) := by decide +kernel
theorem own_d7_6 : decode prog_37_method_2_code 6 = .ok (.lmul, 1) := by decide +kernel
theorem own_d7_7 : decode prog_37_method_2_code 7 = .ok (.lstore_n 3, 1) := by decide +kernel
theorem own_d7_8 : decode prog_37_method_2_code 8 = .ok (.lload_n 3, 1) := by decide +kernel
theorem own_d7_9 : decode prog_37_method_2_code 9 = .ok (.bipush 6, 2) := by decide +kernel
theorem own_d7_11 : decode prog_37_method_2_code 11 = .ok (.lushr, 1) := by decide +kernel
theorem own_d7_12 : decode prog_37_method_2_code 12 = .ok (.l2i, 1) := by decide +kernel
theorem own_d7_13 : decode prog_37_method_2_code 13 = .ok (.istore 5, 2) := by decide +kernel
theorem own_d7_15 : decode prog_37_method_2_code 15 = .ok (.lload_n 3, 1) := by decide +kernel
theorem own_d7_16 : decode prog_37_method_2_code 16 = .ok (.l2i, 1) := by decide +kernel
theorem own_d7_17 : decode prog_37_method_2_code 17 = .ok (.bipush 63, 2) := by decide +kernel
theorem own_d7_19 : decode prog_37_method_2_code 19 = .ok (.iand, 1) := by decide +kernel
theorem own_d7_20 : decode prog_37_method_2_code 20 = .ok (.istore 6, 2) := by decide +kernel
theorem own_d7_22 : decode prog_37_method_2_code 22 = .ok (.aload_n 0, 1) := by decide +kernel
theorem own_d7_23 : decode prog_37_method_2_code 23 = .ok (.getfield 33, 3) := by decide +kernel
theorem own_d7_26 : decode prog_37_method_2_code 26 = .ok (.iload 5, 2) := by decide +kernel
theorem own_d7_28 : decode prog_37_method_2_code 28 = .ok (.laload, 1) := by decide +kernel
theorem own_d7_29 : decode prog_37_method_2_code 29 = .ok (.iload 6, 2) := by decide +kernel
theorem own_d7_31 : decode prog_37_method_2_code 31 = .ok (.lushr, 1) := by decide +kernel
theorem own_d7_32 : decode prog_37_method_2_code 32 = .ok (.aload_n 0, 1) := by decide +kernel
theorem own_d7_33 : decode prog_37_method_2_code 33 = .ok (.getfield 33, 3) := by decide +kernel
theorem own_d7_36 : decode prog_37_method_2_code 36 = .ok (.iload 5, 2) := by decide +kernel
theorem own_d7_38 : decode prog_37_method_2_code 38 = .ok (.iconst 1, 1) := by decide +kernel
theorem own_d7_39 : decode prog_37_method_2_code 39 = .ok (.iadd, 1) := by decide +kernel
theorem own_d7_40 : decode prog_37_method_2_code 40 = .ok (.laload, 1) := by decide +kernel
theorem own_d7_41 : decode prog_37_method_2_code 41 = .ok (.iconst 1, 1) := by decide +kernel
theorem own_d7_42 : decode prog_37_method_2_code 42 = .ok (.lshl, 1) := by decide +kernel
theorem own_d7_43 : decode prog_37_method_2_code 43 = .ok (.bipush 63, 2) := by decide +kernel
theorem own_d7_45 : decode prog_37_method_2_code 45 = .ok (.iload 6, 2) := by decide +kernel
theorem own_d7_47 : decode prog_37_method_2_code 47 = .ok (.isub, 1) := by decide +kernel
theorem own_d7_48 : decode prog_37_method_2_code 48 = .ok (.lshl, 1) := by decide +kernel
theorem own_d7_49 : decode prog_37_method_2_code 49 = .ok (.lor, 1) := by decide +kernel
theorem own_d7_50 : decode prog_37_method_2_code 50 = .ok (.lstore 7, 2) := by decide +kernel
theorem own_d7_52 : decode prog_37_method_2_code 52 = .ok (.lload 7, 2) := by decide +kernel
theorem own_d7_54 : decode prog_37_method_2_code 54 = .ok (.aload_n 0, 1) := by decide +kernel
theorem own_d7_55 : decode prog_37_method_2_code 55 = .ok (.getfield 45, 3) := by decide +kernel
theorem own_d7_58 : decode prog_37_method_2_code 58 = .ok (.land, 1) := by decide +kernel
theorem own_d7_59 : decode prog_37_method_2_code 59 = .ok (.lreturn, 1) := by decide +kernel
theorem own_ef6 (m : MethodId) (x0 : Addr) (x1 : Int64) : entryFrame m #[(.ref x0), (.long x1)] 9 = mkF m 0 #[.val (.ref x0), .val (.long x1), .second, .unset, .unset, .unset, .unset, .unset, .unset] [] := by first | (simp [entryFrame, mkF, argsToLocals, Value.category]; done) | rfl
def own_Q6 (Z : State) (a0 : Addr) (q1 : Int64) (ar : Addr) (pw : Int32) (mk : Int64) (F : Nat → Int64) (w : Nat) (X : Nat) (NW : Nat) (h0 : Heap) (n0 : Nat) (v : Option Value) (h : Heap) (L : List Loc) : Prop := v = some (.long (own_getv F X mk)) ∧ Fr n0 L ∧ h = h0
set_option maxRecDepth 65536 in
set_option maxHeartbeats 40000000 in
theorem rm6 (l : Launch) (Z : State) (aw : Array Value) (hw : ∀ d ∈ tables_1, d.before aw Z = true) (ws : List Jvm.Cond) (a0 : Addr) (q1 : Int64) (ar : Addr) (pw : Int32) (mk : Int64) (F : Nat → Int64) (w : Nat) (X : Nat) (NW : Nat) (h0 : Heap) (n0 : Nat) (Z0 : n0 ≤ h0.size) (Fw : Fld Z h0 a0 "com/example/constellate/constellate/engine/PackedArray" "words" "[J" (.ref ar)) (Fi : Fld Z h0 a0 "com/example/constellate/constellate/engine/PackedArray" "width" "I" (.int pw)) (Fm : Fld Z h0 a0 "com/example/constellate/constellate/engine/PackedArray" "mask" "J" (.long mk)) (VA : own_AJ Z h0 ar NW F) (hpw : pw.toInt = w) (hw64 : w ≤ 64) (hmk : ∀ i, i < 64 → mk.toBitVec.getLsbD i = decide (i < w)) (hXX : q1.toInt * pw.toInt = (X : Int)) (hX : X < 8192) (hN : X / 64 + 1 < NW) :
    MetFree l (⟨"com/example/constellate/constellate/engine/PackedArray", "get", "(J)J"⟩ : MethodName) (head1 (Jvm.Cond.code (⟨"com/example/constellate/constellate/engine/PackedArray", "get", "(J)J"⟩ : MethodName) prog_37_method_2_code 9 (some .long) :: ws) ({ frames := 0, cells := 0, slots := 0, locals := 0 } : Room)) (fun a U => a = #[(.ref a0), (.long q1)] ∧ Z.Warmed39 U.vm ∧ U.heap = h0) (fun _ _ _ _ _ => True) (fun _ U o U' => ∃ v L, o = .returned v ∧ own_Q6 Z a0 q1 ar pw mk F w X NW h0 n0 v U'.heap L ∧ FrameEnd U o U' L ({ frames := 0, cells := 0, slots := 0, locals := 0 } : Room).cells ({ frames := 0, cells := 0, slots := 0, locals := 0 } : Room).slots) := by
  refine MetFree.of_bodySF (plainFor_of_name own_pn0) hisR ?_
  intro p e s m args below meth c s₁ Bd hml0 hP hK
  obtain ⟨rfl, hZ, hh⟩ := hP
  have hx := Bd.exec
  have hby := Bd.bytes
  have hml : c.maxLocals = 9 := hml0
  have hown : s.vm.findClass "com/example/constellate/constellate/engine/PackedArray" = some m.cls := findClass_of_methodNamed Bd.named
  have hnm := (name_of_methodNamed Bd.named Bd.method).1
  have X0 : Stand p l e ({ frames := 0, cells := 0, slots := 0, locals := 0 } : Room) s m #[(.ref a0), (.long q1)] below meth c s₁ [] 0 0 := Stand.of_body Bd
  have e0 : s₁.heap = h0 := by rw [← hh, Bd.state]; rfl
  have N0 := Fr.nil n0
  show own_G p.tables e below s (own_Q6 Z a0 q1 ar pw mk F w X NW h0 n0) ({ frames := 0, cells := 0, slots := 0, locals := 0 } : Room).cells ({ frames := 0, cells := 0, slots := 0, locals := 0 } : Room).slots (s₁.setTop (entryFrame m #[(.ref a0), (.long q1)] 9))
  refine own_by (fun _ k => castTop (own_ef6 m a0 q1) k) ?_
  show own_G _ _ _ _ _ _ _ (s₁.setTop (mkF m 0 #[.val (.ref a0), .val (.long q1), .second, .unset, .unset, .unset, .unset, .unset, .unset] []))
  refine own_by (fun _ k => XT.lloadN X0.here hx rfl (hb hby own_d7_0) rfl  k) ?_
  show own_G _ _ _ _ _ _ _ (s₁.setTop (mkF m 1 #[.val (.ref a0), .val (.long q1), .second, .unset, .unset, .unset, .unset, .unset, .unset] [(.long q1)]))
  refine own_by (fun _ k => XS.aloadN X0.here hx rfl (hb hby own_d7_1) rfl rfl k) ?_
  show own_G _ _ _ _ _ _ _ (s₁.setTop (mkF m 2 #[.val (.ref a0), .val (.long q1), .second, .unset, .unset, .unset, .unset, .unset, .unset] [(.ref a0), (.long q1)]))
  obtain ⟨T35, X35, e35, st35⟩ := getF X0 hx hZ hown (host := "") (Or.inl (hw _ (List.mem_of_getElem? (i := 27) rfl))) Via.refl e0 Fi (g := (mkF m 2 #[.val (.ref a0), .val (.long q1), .second, .unset, .unset, .unset, .unset, .unset, .unset] [(.ref a0), (.long q1)])) rfl rfl (hb hby own_d7_2)
  refine own_by st35 ?_
  show own_G _ _ _ _ _ _ _ (T35.setTop (mkF m 5 #[.val (.ref a0), .val (.long q1), .second, .unset, .unset, .unset, .unset, .unset, .unset] [(.int pw), (.long q1)]))
  refine own_by (fun _ k => XT.i2l X35.here hx rfl (hb hby own_d7_5) rfl k) ?_
  show own_G _ _ _ _ _ _ _ (T35.setTop (mkF m 6 #[.val (.ref a0), .val (.long q1), .second, .unset, .unset, .unset, .unset, .unset, .unset] [(.long pw.toInt64), (.long q1)]))
  refine own_by (fun _ k => XT.lmul X35.here hx rfl (hb hby own_d7_6) rfl k) ?_
  show own_G _ _ _ _ _ _ _ (T35.setTop (mkF m 7 #[.val (.ref a0), .val (.long q1), .second, .unset, .unset, .unset, .unset, .unset, .unset] [(.long (q1 * pw.toInt64))]))
  refine own_by (fun _ k => XT.lstoreN X35.here hx rfl (hb hby own_d7_7) rfl (l' := #[.val (.ref a0), .val (.long q1), .second, .val (.long (q1 * pw.toInt64)), .second, .unset, .unset, .unset, .unset]) rfl k) ?_
  show own_G _ _ _ _ _ _ _ (T35.setTop (mkF m 8 #[.val (.ref a0), .val (.long q1), .second, .val (.long (q1 * pw.toInt64)), .second, .unset, .unset, .unset, .unset] []))
  generalize hnbt : (q1 * pw.toInt64) = bt
  show own_G _ _ _ _ _ _ _ (T35.setTop (mkF m 8 #[.val (.ref a0), .val (.long q1), .second, .val (.long bt), .second, .unset, .unset, .unset, .unset] []))
  have hbt : bt.toInt = X := by rw [← hnbt]; exact own_bt hXX hX
  refine own_by (fun _ k => XT.lloadN X35.here hx rfl (hb hby own_d7_8) rfl  k) ?_
  show own_G _ _ _ _ _ _ _ (T35.setTop (mkF m 9 #[.val (.ref a0), .val (.long q1), .second, .val (.long bt), .second, .unset, .unset, .unset, .unset] [(.long bt)]))
  refine own_by (fun _ k => XS.bipush X35.here hx rfl (hb hby own_d7_9) k) ?_
  show own_G _ _ _ _ _ _ _ (T35.setTop (mkF m 11 #[.val (.ref a0), .val (.long q1), .second, .val (.long bt), .second, .unset, .unset, .unset, .unset] [(.int (6 : Int32)), (.long bt)]))
  refine own_by (fun _ k => XT.lushr X35.here hx rfl (hb hby own_d7_11) rfl k) ?_
  show own_G _ _ _ _ _ _ _ (T35.setTop (mkF m 12 #[.val (.ref a0), .val (.long q1), .second, .val (.long bt), .second, .unset, .unset, .unset, .unset] [(.long (XT.ushrL bt (6 : Int32)))]))
  refine own_by (fun _ k => XT.l2i X35.here hx rfl (hb hby own_d7_12) rfl k) ?_
  show own_G _ _ _ _ _ _ _ (T35.setTop (mkF m 13 #[.val (.ref a0), .val (.long q1), .second, .val (.long bt), .second, .unset, .unset, .unset, .unset] [(.int (XT.ushrL bt (6 : Int32)).toInt32)]))
  refine own_by (fun _ k => XS.istore X35.here hx rfl (hb hby own_d7_13) rfl (l' := #[.val (.ref a0), .val (.long q1), .second, .val (.long bt), .second, .val (.int (XT.ushrL bt (6 : Int32)).toInt32), .unset, .unset, .unset]) rfl k) ?_
  show own_G _ _ _ _ _ _ _ (T35.setTop (mkF m 15 #[.val (.ref a0), .val (.long q1), .second, .val (.long bt), .second, .val (.int (XT.ushrL bt (6 : Int32)).toInt32), .unset, .unset, .unset] []))
  generalize hnwd : (XT.ushrL bt (6 : Int32)).toInt32 = wd
  show own_G _ _ _ _ _ _ _ (T35.setTop (mkF m 15 #[.val (.ref a0), .val (.long q1), .second, .val (.long bt), .second, .val (.int wd), .unset, .unset, .unset] []))
  have hwd : wd.toInt = ((X / 64 : Nat) : Int) := by rw [← hnwd]; exact own_wd hbt hX
  refine own_by (fun _ k => XT.lloadN X35.here hx rfl (hb hby own_d7_15) rfl  k) ?_
  show own_G _ _ _ _ _ _ _ (T35.setTop (mkF m 16 #[.val (.ref a0), .val (.long q1), .second, .val (.long bt), .second, .val (.int wd), .unset, .unset, .unset] [(.long bt)]))
  refine own_by (fun _ k => XT.l2i X35.here hx rfl (hb hby own_d7_16) rfl k) ?_
  show own_G _ _ _ _ _ _ _ (T35.setTop (mkF m 17 #[.val (.ref a0), .val (.long q1), .second, .val (.long bt), .second, .val (.int wd), .unset, .unset, .unset] [(.int bt.toInt32)]))
  refine own_by (fun _ k => XS.bipush X35.here hx rfl (hb hby own_d7_17) k) ?_
  show own_G _ _ _ _ _ _ _ (T35.setTop (mkF m 19 #[.val (.ref a0), .val (.long q1), .second, .val (.long bt), .second, .val (.int wd), .unset, .unset, .unset] [(.int (63 : Int32)), (.int bt.toInt32)]))
  refine own_by (fun _ k => XS.iand X35.here hx rfl (hb hby own_d7_19) rfl k) ?_
  show own_G _ _ _ _ _ _ _ (T35.setTop (mkF m 20 #[.val (.ref a0), .val (.long q1), .second, .val (.long bt), .second, .val (.int wd), .unset, .unset, .unset] [(.int (bt.toInt32 &&& (63 : Int32)))]))
  refine own_by (fun _ k => XS.istore X35.here hx rfl (hb hby own_d7_20) rfl (l' := #[.val (.ref a0), .val (.long q1), .second, .val (.long bt), .second, .val (.int wd), .val (.int (bt.toInt32 &&& (63 : Int32))), .unset, .unset]) rfl k) ?_
  show own_G _ _ _ _ _ _ _ (T35.setTop (mkF m 22 #[.val (.ref a0), .val (.long q1), .second, .val (.long bt), .second, .val (.int wd), .val (.int (bt.toInt32 &&& (63 : Int32))), .unset, .unset] []))
  generalize hnsh : (bt.toInt32 &&& (63 : Int32)) = sh
  show own_G _ _ _ _ _ _ _ (T35.setTop (mkF m 22 #[.val (.ref a0), .val (.long q1), .second, .val (.long bt), .second, .val (.int wd), .val (.int sh), .unset, .unset] []))
  have hsh : sh.toInt = ((X % 64 : Nat) : Int) := by rw [← hnsh]; exact own_sh hbt hX
  refine own_by (fun _ k => XS.aloadN X35.here hx rfl (hb hby own_d7_22) rfl rfl k) ?_
  show own_G _ _ _ _ _ _ _ (T35.setTop (mkF m 23 #[.val (.ref a0), .val (.long q1), .second, .val (.long bt), .second, .val (.int wd), .val (.int sh), .unset, .unset] [(.ref a0)]))
  obtain ⟨T36, X36, e36, st36⟩ := getF X35 hx hZ hown (host := "") (Or.inl (hw _ (List.mem_of_getElem? (i := 25) rfl))) Via.refl e35 Fw (g := (mkF m 23 #[.val (.ref a0), .val (.long q1), .second, .val (.long bt), .second, .val (.int wd), .val (.int sh), .unset, .unset] [(.ref a0)])) rfl rfl (hb hby own_d7_23)
  refine own_by st36 ?_
  show own_G _ _ _ _ _ _ _ (T36.setTop (mkF m 26 #[.val (.ref a0), .val (.long q1), .second, .val (.long bt), .second, .val (.int wd), .val (.int sh), .unset, .unset] [(.ref ar)]))
  refine own_by (fun _ k => XS.iload X36.here hx rfl (hb hby own_d7_26) rfl  k) ?_
  show own_G _ _ _ _ _ _ _ (T36.setTop (mkF m 28 #[.val (.ref a0), .val (.long q1), .second, .val (.long bt), .second, .val (.int wd), .val (.int sh), .unset, .unset] [(.int wd), (.ref ar)]))
  refine own_by (own_ldJ X36 hx hZ e36 VA (k := (X / 64)) hwd (by omega) (g := (mkF m 28 #[.val (.ref a0), .val (.long q1), .second, .val (.long bt), .second, .val (.int wd), .val (.int sh), .unset, .unset] [(.int wd), (.ref ar)])) rfl rfl (hb hby own_d7_28)) ?_
  show own_G _ _ _ _ _ _ _ (T36.setTop (mkF m 29 #[.val (.ref a0), .val (.long q1), .second, .val (.long bt), .second, .val (.int wd), .val (.int sh), .unset, .unset] [(.long (F (X / 64)))]))
  refine own_by (fun _ k => XS.iload X36.here hx rfl (hb hby own_d7_29) rfl  k) ?_
  show own_G _ _ _ _ _ _ _ (T36.setTop (mkF m 31 #[.val (.ref a0), .val (.long q1), .second, .val (.long bt), .second, .val (.int wd), .val (.int sh), .unset, .unset] [(.int sh), (.long (F (X / 64)))]))
  refine own_by (fun _ k => XT.lushr X36.here hx rfl (hb hby own_d7_31) rfl k) ?_
  show own_G _ _ _ _ _ _ _ (T36.setTop (mkF m 32 #[.val (.ref a0), .val (.long q1), .second, .val (.long bt), .second, .val (.int wd), .val (.int sh), .unset, .unset] [(.long (XT.ushrL (F (X / 64)) sh))]))
  refine own_by (fun _ k => XS.aloadN X36.here hx rfl (hb hby own_d7_32) rfl rfl k) ?_
  show own_G _ _ _ _ _ _ _ (T36.setTop (mkF m 33 #[.val (.ref a0), .val (.long q1), .second, .val (.long bt), .second, .val (.int wd), .val (.int sh), .unset, .unset] [(.ref a0), (.long (XT.ushrL (F (X / 64)) sh))]))
  obtain ⟨T37, X37, e37, st37⟩ := getF X36 hx hZ hown (host := "") (Or.inl (hw _ (List.mem_of_getElem? (i := 25) rfl))) Via.refl e36 Fw (g := (mkF m 33 #[.val (.ref a0), .val (.long q1), .second, .val (.long bt), .second, .val (.int wd), .val (.int sh), .unset, .unset] [(.ref a0), (.long (XT.ushrL (F (X / 64)) sh))])) rfl rfl (hb hby own_d7_33)
  refine own_by st37 ?_
  show own_G _ _ _ _ _ _ _ (T37.setTop (mkF m 36 #[.val (.ref a0), .val (.long q1), .second, .val (.long bt), .second, .val (.int wd), .val (.int sh), .unset, .unset] [(.ref ar), (.long (XT.ushrL (F (X / 64)) sh))]))
  refine own_by (fun _ k => XS.iload X37.here hx rfl (hb hby own_d7_36) rfl  k) ?_
  show own_G _ _ _ _ _ _ _ (T37.setTop (mkF m 38 #[.val (.ref a0), .val (.long q1), .second, .val (.long bt), .second, .val (.int wd), .val (.int sh), .unset, .unset] [(.int wd), (.ref ar), (.long (XT.ushrL (F (X / 64)) sh))]))
  refine own_by (fun _ k => XS.iconst X37.here hx rfl (hb hby own_d7_38) k) ?_
  show own_G _ _ _ _ _ _ _ (T37.setTop (mkF m 39 #[.val (.ref a0), .val (.long q1), .second, .val (.long bt), .second, .val (.int wd), .val (.int sh), .unset, .unset] [(.int (1 : Int32)), (.int wd), (.ref ar), (.long (XT.ushrL (F (X / 64)) sh))]))
  refine own_by (fun _ k => XS.iadd X37.here hx rfl (hb hby own_d7_39) rfl k) ?_
  show own_G _ _ _ _ _ _ _ (T37.setTop (mkF m 40 #[.val (.ref a0), .val (.long q1), .second, .val (.long bt), .second, .val (.int wd), .val (.int sh), .unset, .unset] [(.int (wd + (1 : Int32))), (.ref ar), (.long (XT.ushrL (F (X / 64)) sh))]))
  refine own_by (own_ldJ X37 hx hZ e37 VA (k := (X / 64 + 1)) (own_add hwd (show (1 : Int32).toInt = (1 : Nat) by decide) (by omega)) (by omega) (g := (mkF m 40 #[.val (.ref a0), .val (.long q1), .second, .val (.long bt), .second, .val (.int wd), .val (.int sh), .unset, .unset] [(.int (wd + (1 : Int32))), (.ref ar), (.long (XT.ushrL (F (X / 64)) sh))])) rfl rfl (hb hby own_d7_40)) ?_
  show own_G _ _ _ _ _ _ _ (T37.setTop (mkF m 41 #[.val (.ref a0), .val (.long q1), .second, .val (.long bt), .second, .val (.int wd), .val (.int sh), .unset, .unset] [(.long (F (X / 64 + 1))), (.long (XT.ushrL (F (X / 64)) sh))]))
  refine own_by (fun _ k => XS.iconst X37.here hx rfl (hb hby own_d7_41) k) ?_
  show own_G _ _ _ _ _ _ _ (T37.setTop (mkF m 42 #[.val (.ref a0), .val (.long q1), .second, .val (.long bt), .second, .val (.int wd), .val (.int sh), .unset, .unset] [(.int (1 : Int32)), (.long (F (X / 64 + 1))), (.long (XT.ushrL (F (X / 64)) sh))]))
  refine own_by (fun _ k => XT.lshl X37.here hx rfl (hb hby own_d7_42) rfl k) ?_
  show own_G _ _ _ _ _ _ _ (T37.setTop (mkF m 43 #[.val (.ref a0), .val (.long q1), .second, .val (.long bt), .second, .val (.int wd), .val (.int sh), .unset, .unset] [(.long ((F (X / 64 + 1)) <<< ((1 : Int32).toInt64 &&& 63))), (.long (XT.ushrL (F (X / 64)) sh))]))
  refine own_by (fun _ k => XS.bipush X37.here hx rfl (hb hby own_d7_43) k) ?_
  show own_G _ _ _ _ _ _ _ (T37.setTop (mkF m 45 #[.val (.ref a0), .val (.long q1), .second, .val (.long bt), .second, .val (.int wd), .val (.int sh), .unset, .unset] [(.int (63 : Int32)), (.long ((F (X / 64 + 1)) <<< ((1 : Int32).toInt64 &&& 63))), (.long (XT.ushrL (F (X / 64)) sh))]))
  refine own_by (fun _ k => XS.iload X37.here hx rfl (hb hby own_d7_45) rfl  k) ?_
  show own_G _ _ _ _ _ _ _ (T37.setTop (mkF m 47 #[.val (.ref a0), .val (.long q1), .second, .val (.long bt), .second, .val (.int wd), .val (.int sh), .unset, .unset] [(.int sh), (.int (63 : Int32)), (.long ((F (X / 64 + 1)) <<< ((1 : Int32).toInt64 &&& 63))), (.long (XT.ushrL (F (X / 64)) sh))]))
  refine own_by (fun _ k => XS.isub X37.here hx rfl (hb hby own_d7_47) rfl k) ?_
  show own_G _ _ _ _ _ _ _ (T37.setTop (mkF m 48 #[.val (.ref a0), .val (.long q1), .second, .val (.long bt), .second, .val (.int wd), .val (.int sh), .unset, .unset] [(.int ((63 : Int32) - sh)), (.long ((F (X / 64 + 1)) <<< ((1 : Int32).toInt64 &&& 63))), (.long (XT.ushrL (F (X / 64)) sh))]))
  refine own_by (fun _ k => XT.lshl X37.here hx rfl (hb hby own_d7_48) rfl k) ?_
  show own_G _ _ _ _ _ _ _ (T37.setTop (mkF m 49 #[.val (.ref a0), .val (.long q1), .second, .val (.long bt), .second, .val (.int wd), .val (.int sh), .unset, .unset] [(.long (((F (X / 64 + 1)) <<< ((1 : Int32).toInt64 &&& 63)) <<< (((63 : Int32) - sh).toInt64 &&& 63))), (.long (XT.ushrL (F (X / 64)) sh))]))
  refine own_by (fun _ k => XT.lor X37.here hx rfl (hb hby own_d7_49) rfl k) ?_
  show own_G _ _ _ _ _ _ _ (T37.setTop (mkF m 50 #[.val (.ref a0), .val (.long q1), .second, .val (.long bt), .second, .val (.int wd), .val (.int sh), .unset, .unset] [(.long ((XT.ushrL (F (X / 64)) sh) ||| (((F (X / 64 + 1)) <<< ((1 : Int32).toInt64 &&& 63)) <<< (((63 : Int32) - sh).toInt64 &&& 63))))]))
  refine own_by (fun _ k => XT.lstore X37.here hx rfl (hb hby own_d7_50) rfl (l' := #[.val (.ref a0), .val (.long q1), .second, .val (.long bt), .second, .val (.int wd), .val (.int sh), .val (.long ((XT.ushrL (F (X / 64)) sh) ||| (((F (X / 64 + 1)) <<< ((1 : Int32).toInt64 &&& 63)) <<< (((63 : Int32) - sh).toInt64 &&& 63)))), .second]) rfl k) ?_
  show own_G _ _ _ _ _ _ _ (T37.setTop (mkF m 52 #[.val (.ref a0), .val (.long q1), .second, .val (.long bt), .second, .val (.int wd), .val (.int sh), .val (.long ((XT.ushrL (F (X / 64)) sh) ||| (((F (X / 64 + 1)) <<< ((1 : Int32).toInt64 &&& 63)) <<< (((63 : Int32) - sh).toInt64 &&& 63)))), .second] []))
  refine own_by (fun _ k => XT.lload X37.here hx rfl (hb hby own_d7_52) rfl  k) ?_
  show own_G _ _ _ _ _ _ _ (T37.setTop (mkF m 54 #[.val (.ref a0), .val (.long q1), .second, .val (.long bt), .second, .val (.int wd), .val (.int sh), .val (.long ((XT.ushrL (F (X / 64)) sh) ||| (((F (X / 64 + 1)) <<< ((1 : Int32).toInt64 &&& 63)) <<< (((63 : Int32) - sh).toInt64 &&& 63)))), .second] [(.long ((XT.ushrL (F (X / 64)) sh) ||| (((F (X / 64 + 1)) <<< ((1 : Int32).toInt64 &&& 63)) <<< (((63 : Int32) - sh).toInt64 &&& 63))))]))
  refine own_by (fun _ k => XS.aloadN X37.here hx rfl (hb hby own_d7_54) rfl rfl k) ?_
  show own_G _ _ _ _ _ _ _ (T37.setTop (mkF m 55 #[.val (.ref a0), .val (.long q1), .second, .val (.long bt), .second, .val (.int wd), .val (.int sh), .val (.long ((XT.ushrL (F (X / 64)) sh) ||| (((F (X / 64 + 1)) <<< ((1 : Int32).toInt64 &&& 63)) <<< (((63 : Int32) - sh).toInt64 &&& 63)))), .second] [(.ref a0), (.long ((XT.ushrL (F (X / 64)) sh) ||| (((F (X / 64 + 1)) <<< ((1 : Int32).toInt64 &&& 63)) <<< (((63 : Int32) - sh).toInt64 &&& 63))))]))
  obtain ⟨T38, X38, e38, st38⟩ := getF X37 hx hZ hown (host := "") (Or.inl (hw _ (List.mem_of_getElem? (i := 29) rfl))) Via.refl e37 Fm (g := (mkF m 55 #[.val (.ref a0), .val (.long q1), .second, .val (.long bt), .second, .val (.int wd), .val (.int sh), .val (.long ((XT.ushrL (F (X / 64)) sh) ||| (((F (X / 64 + 1)) <<< ((1 : Int32).toInt64 &&& 63)) <<< (((63 : Int32) - sh).toInt64 &&& 63)))), .second] [(.ref a0), (.long ((XT.ushrL (F (X / 64)) sh) ||| (((F (X / 64 + 1)) <<< ((1 : Int32).toInt64 &&& 63)) <<< (((63 : Int32) - sh).toInt64 &&& 63))))])) rfl rfl (hb hby own_d7_55)
  refine own_by st38 ?_
  show own_G _ _ _ _ _ _ _ (T38.setTop (mkF m 58 #[.val (.ref a0), .val (.long q1), .second, .val (.long bt), .second, .val (.int wd), .val (.int sh), .val (.long ((XT.ushrL (F (X / 64)) sh) ||| (((F (X / 64 + 1)) <<< ((1 : Int32).toInt64 &&& 63)) <<< (((63 : Int32) - sh).toInt64 &&& 63)))), .second] [(.long mk), (.long ((XT.ushrL (F (X / 64)) sh) ||| (((F (X / 64 + 1)) <<< ((1 : Int32).toInt64 &&& 63)) <<< (((63 : Int32) - sh).toInt64 &&& 63))))]))
  refine own_by (fun _ k => XT.land X38.here hx rfl (hb hby own_d7_58) rfl k) ?_
  show own_G _ _ _ _ _ _ _ (T38.setTop (mkF m 59 #[.val (.ref a0), .val (.long q1), .second, .val (.long bt), .second, .val (.int wd), .val (.int sh), .val (.long ((XT.ushrL (F (X / 64)) sh) ||| (((F (X / 64 + 1)) <<< ((1 : Int32).toInt64 &&& 63)) <<< (((63 : Int32) - sh).toInt64 &&& 63)))), .second] [(.long (((XT.ushrL (F (X / 64)) sh) ||| (((F (X / 64 + 1)) <<< ((1 : Int32).toInt64 &&& 63)) <<< (((63 : Int32) - sh).toInt64 &&& 63))) &&& mk))]))
  exact own_end X38 (v := some (.long (((XT.ushrL (F (X / 64)) sh) ||| (((F (X / 64 + 1)) <<< ((1 : Int32).toInt64 &&& 63)) <<< (((63 : Int32) - sh).toInt64 &&& 63))) &&& mk))) (fun h => by rw [Bd.returns] at h; cases h) (BodyLoose.notSynchronized Bd) (fun fs hr => X38.lreturnOut hx Bd.returns (hb hby own_d7_59) hr) (by rw [e38]; exact ⟨(by rw [own_getv, ← own_nat hsh]), N0, rfl⟩) (by decide) (by decide)
theorem own_mm {p : Int32} {w : Nat} (hp : p.toInt = w) (h1 : 1 ≤ w) (h2 : w ≤ 64) : ∀ i, i < 64 → (XT.ushrL (-1 : Int64) ((64 : Int32) - p)).toBitVec.getLsbD i = decide (i < w) := fun i hi => by
  rw [own_ushr _ (own_sub (show (64 : Int32).toInt = (64 : Nat) by decide) hp h2) (by omega), BitVec.getLsbD_ushiftRight]
  by_cases a : i < w
  · rw [own_ff (by omega)]; simp [a]
  · rw [BitVec.getLsbD_of_ge _ _ (by omega)]; simp [a]
theorem own_i69 (x : Int32) : ∃ I : Nat, ((x &&& (2147483647 : Int32)) % (69 : Int32)).toInt64.toInt = I ∧ I < 69 := by
  have h1 := c_mask x (2147483647 : Int32) 31 (by decide) (by decide)
  have h2 := (c_irem (x &&& (2147483647 : Int32)) (69 : Int32) 69 (by decide)).1
  rw [c_i2l]
  exact ⟨((x &&& (2147483647 : Int32)) % (69 : Int32)).toInt.toNat, by omega, by omega⟩
theorem own_pd3 : parseMethodDescriptor "(JI)V" = some ⟨[.long, .int], none⟩ := by decide +kernel
theorem own_pd4 : parseMethodDescriptor "(JJ)V" = some ⟨[.long, .long], none⟩ := by decide +kernel
theorem own_pn1 : plainName "com/example/constellate/constellate/engine/PackedArrayGetPinLaw" = true := by first | (simp [plainName, overriddenIn]; done) | decide +kernel
theorem own_ef0 (m : MethodId) (x0 : Int32) (x1 : Int32) (x2 : Int64) (x3 : Int64) (x4 : Int64) : entryFrame m #[(.int x0), (.int x1), (.long x2), (.long x3), (.long x4)] maxLocals = mkF m 0 #[.val (.int x0), .val (.int x1), .val (.long x2), .second, .val (.long x3), .second, .val (.long x4), .second, .unset, .unset, .unset, .unset, .unset, .unset, .unset] [] := by first | (simp [entryFrame, mkF, argsToLocals, Value.category, maxLocals]; done) | rfl
def own_Q0 (Z : State) (p0 : Int32) (p1 : Int32) (qa : Int64) (qb : Int64) (qc : Int64) (h0 : Heap) (n0 : Nat) (v : Option Value) (h : Heap) (L : List Loc) : Prop := v = some (.int 1) ∧ Fr n0 L
set_option maxRecDepth 65536 in
set_option maxHeartbeats 40000000 in
theorem rm0 (l : Launch) (Z : State) (aw : Array Value) (hw : ∀ d ∈ tables_1, d.before aw Z = true) (ws : List Jvm.Cond) (p0 : Int32) (p1 : Int32) (qa : Int64) (qb : Int64) (qc : Int64) (h0 : Heap) (n0 : Nat) (Z0 : n0 ≤ h0.size) :
    MetFree l x (head1 (Jvm.Cond.code x code maxLocals ret :: ws) room_1) (fun a U => a = #[(.int p0), (.int p1), (.long qa), (.long qb), (.long qc)] ∧ Z.Warmed39 U.vm ∧ U.heap = h0) (fun _ _ _ _ _ => True) (fun _ U o U' => ∃ v L, o = .returned v ∧ own_Q0 Z p0 p1 qa qb qc h0 n0 v U'.heap L ∧ FrameEnd U o U' L room_1.cells room_1.slots) := by
  refine MetFree.of_bodySF (plainFor_of_name own_pn1) hisR ?_
  intro p e s m args below meth c s₁ Bd hml0 hP hK
  obtain ⟨rfl, hZ, hh⟩ := hP
  have hx := Bd.exec
  have hby := Bd.bytes
  have hml : c.maxLocals = 15 := hml0
  have hown : s.vm.findClass "com/example/constellate/constellate/engine/PackedArrayGetPinLaw" = some m.cls := findClass_of_methodNamed Bd.named
  have hnm := (name_of_methodNamed Bd.named Bd.method).1
  have X0 : Stand p l e room_1 s m #[(.int p0), (.int p1), (.long qa), (.long qb), (.long qc)] below meth c s₁ [] 0 0 := Stand.of_body Bd
  have e0 : s₁.heap = h0 := by rw [← hh, Bd.state]; rfl
  have N0 := Fr.nil n0
  show own_G p.tables e below s (own_Q0 Z p0 p1 qa qb qc h0 n0) room_1.cells room_1.slots (s₁.setTop (entryFrame m #[(.int p0), (.int p1), (.long qa), (.long qb), (.long qc)] maxLocals))
  refine own_by (fun _ k => castTop (own_ef0 m p0 p1 qa qb qc) k) ?_
  show own_G _ _ _ _ _ _ _ (s₁.setTop (mkF m 0 #[.val (.int p0), .val (.int p1), .val (.long qa), .second, .val (.long qb), .second, .val (.long qc), .second, .unset, .unset, .unset, .unset, .unset, .unset, .unset] []))
  refine own_by (fun _ k => XS.iloadN X0.here hx rfl (hb hby at_0) rfl  k) ?_
  show own_G _ _ _ _ _ _ _ (s₁.setTop (mkF m 1 #[.val (.int p0), .val (.int p1), .val (.long qa), .second, .val (.long qb), .second, .val (.long qc), .second, .unset, .unset, .unset, .unset, .unset, .unset, .unset] [(.int p0)]))
  refine own_by (fun _ k => XS.bipush X0.here hx rfl (hb hby at_1) k) ?_
  show own_G _ _ _ _ _ _ _ (s₁.setTop (mkF m 3 #[.val (.int p0), .val (.int p1), .val (.long qa), .second, .val (.long qb), .second, .val (.long qc), .second, .unset, .unset, .unset, .unset, .unset, .unset, .unset] [(.int (63 : Int32)), (.int p0)]))
  refine own_by (fun _ k => XS.iand X0.here hx rfl (hb hby at_3) rfl k) ?_
  show own_G _ _ _ _ _ _ _ (s₁.setTop (mkF m 4 #[.val (.int p0), .val (.int p1), .val (.long qa), .second, .val (.long qb), .second, .val (.long qc), .second, .unset, .unset, .unset, .unset, .unset, .unset, .unset] [(.int (p0 &&& (63 : Int32)))]))
  refine own_by (fun _ k => XS.iconst X0.here hx rfl (hb hby at_4) k) ?_
  show own_G _ _ _ _ _ _ _ (s₁.setTop (mkF m 5 #[.val (.int p0), .val (.int p1), .val (.long qa), .second, .val (.long qb), .second, .val (.long qc), .second, .unset, .unset, .unset, .unset, .unset, .unset, .unset] [(.int (1 : Int32)), (.int (p0 &&& (63 : Int32)))]))
  refine own_by (fun _ k => XS.iadd X0.here hx rfl (hb hby at_5) rfl k) ?_
  show own_G _ _ _ _ _ _ _ (s₁.setTop (mkF m 6 #[.val (.int p0), .val (.int p1), .val (.long qa), .second, .val (.long qb), .second, .val (.long qc), .second, .unset, .unset, .unset, .unset, .unset, .unset, .unset] [(.int ((p0 &&& (63 : Int32)) + (1 : Int32)))]))
  refine own_by (fun _ k => XS.istore X0.here hx rfl (hb hby at_6) rfl (l' := #[.val (.int p0), .val (.int p1), .val (.long qa), .second, .val (.long qb), .second, .val (.long qc), .second, .val (.int ((p0 &&& (63 : Int32)) + (1 : Int32))), .unset, .unset, .unset, .unset, .unset, .unset]) rfl k) ?_
  show own_G _ _ _ _ _ _ _ (s₁.setTop (mkF m 8 #[.val (.int p0), .val (.int p1), .val (.long qa), .second, .val (.long qb), .second, .val (.long qc), .second, .val (.int ((p0 &&& (63 : Int32)) + (1 : Int32))), .unset, .unset, .unset, .unset, .unset, .unset] []))
  generalize hnww : ((p0 &&& (63 : Int32)) + (1 : Int32)) = ww
  show own_G _ _ _ _ _ _ _ (s₁.setTop (mkF m 8 #[.val (.int p0), .val (.int p1), .val (.long qa), .second, .val (.long qb), .second, .val (.long qc), .second, .val (.int ww), .unset, .unset, .unset, .unset, .unset, .unset] []))
  obtain ⟨w, hww, hw1, hw64⟩ : ∃ w : Nat, ww.toInt = w ∧ 1 ≤ w ∧ w ≤ 64 := by rw [← hnww]; exact own_w64 _
  refine own_by (X0.ldc2Long hx hown (mvT hZ (hw _ (List.mem_of_getElem? (i := 0) rfl))) (g := (mkF m 8 #[.val (.int p0), .val (.int p1), .val (.long qa), .second, .val (.long qb), .second, .val (.long qc), .second, .val (.int ww), .unset, .unset, .unset, .unset, .unset, .unset] [])) rfl (hb hby at_8)) ?_
  show own_G _ _ _ _ _ _ _ (s₁.setTop (mkF m 11 #[.val (.int p0), .val (.int p1), .val (.long qa), .second, .val (.long qb), .second, .val (.long qc), .second, .val (.int ww), .unset, .unset, .unset, .unset, .unset, .unset] [(.long (-1 : Int64))]))
  refine own_by (fun _ k => XS.bipush X0.here hx rfl (hb hby at_11) k) ?_
  show own_G _ _ _ _ _ _ _ (s₁.setTop (mkF m 13 #[.val (.int p0), .val (.int p1), .val (.long qa), .second, .val (.long qb), .second, .val (.long qc), .second, .val (.int ww), .unset, .unset, .unset, .unset, .unset, .unset] [(.int (64 : Int32)), (.long (-1 : Int64))]))
  refine own_by (fun _ k => XS.iload X0.here hx rfl (hb hby at_13) rfl  k) ?_
  show own_G _ _ _ _ _ _ _ (s₁.setTop (mkF m 15 #[.val (.int p0), .val (.int p1), .val (.long qa), .second, .val (.long qb), .second, .val (.long qc), .second, .val (.int ww), .unset, .unset, .unset, .unset, .unset, .unset] [(.int ww), (.int (64 : Int32)), (.long (-1 : Int64))]))
  refine own_by (fun _ k => XS.isub X0.here hx rfl (hb hby at_15) rfl k) ?_
  show own_G _ _ _ _ _ _ _ (s₁.setTop (mkF m 16 #[.val (.int p0), .val (.int p1), .val (.long qa), .second, .val (.long qb), .second, .val (.long qc), .second, .val (.int ww), .unset, .unset, .unset, .unset, .unset, .unset] [(.int ((64 : Int32) - ww)), (.long (-1 : Int64))]))
  refine own_by (fun _ k => XT.lushr X0.here hx rfl (hb hby at_16) rfl k) ?_
  show own_G _ _ _ _ _ _ _ (s₁.setTop (mkF m 17 #[.val (.int p0), .val (.int p1), .val (.long qa), .second, .val (.long qb), .second, .val (.long qc), .second, .val (.int ww), .unset, .unset, .unset, .unset, .unset, .unset] [(.long (XT.ushrL (-1 : Int64) ((64 : Int32) - ww)))]))
  refine own_by (fun _ k => XT.lstore X0.here hx rfl (hb hby at_17) rfl (l' := #[.val (.int p0), .val (.int p1), .val (.long qa), .second, .val (.long qb), .second, .val (.long qc), .second, .val (.int ww), .val (.long (XT.ushrL (-1 : Int64) ((64 : Int32) - ww))), .second, .unset, .unset, .unset, .unset]) rfl k) ?_
  show own_G _ _ _ _ _ _ _ (s₁.setTop (mkF m 19 #[.val (.int p0), .val (.int p1), .val (.long qa), .second, .val (.long qb), .second, .val (.long qc), .second, .val (.int ww), .val (.long (XT.ushrL (-1 : Int64) ((64 : Int32) - ww))), .second, .unset, .unset, .unset, .unset] []))
  generalize hnmm : (XT.ushrL (-1 : Int64) ((64 : Int32) - ww)) = mm
  show own_G _ _ _ _ _ _ _ (s₁.setTop (mkF m 19 #[.val (.int p0), .val (.int p1), .val (.long qa), .second, .val (.long qb), .second, .val (.long qc), .second, .val (.int ww), .val (.long mm), .second, .unset, .unset, .unset, .unset] []))
  have hmm : ∀ i, i < 64 → mm.toBitVec.getLsbD i = decide (i < w) := by rw [← hnmm]; exact own_mm hww hw1 hw64
  refine own_by (fun _ k => XS.iloadN X0.here hx rfl (hb hby at_19) rfl  k) ?_
  show own_G _ _ _ _ _ _ _ (s₁.setTop (mkF m 20 #[.val (.int p0), .val (.int p1), .val (.long qa), .second, .val (.long qb), .second, .val (.long qc), .second, .val (.int ww), .val (.long mm), .second, .unset, .unset, .unset, .unset] [(.int p1)]))
  refine own_by (X0.ldcInt hx hown (mvT hZ (hw _ (List.mem_of_getElem? (i := 1) rfl))) (g := (mkF m 20 #[.val (.int p0), .val (.int p1), .val (.long qa), .second, .val (.long qb), .second, .val (.long qc), .second, .val (.int ww), .val (.long mm), .second, .unset, .unset, .unset, .unset] [(.int p1)])) rfl (hb hby at_20)) ?_
  show own_G _ _ _ _ _ _ _ (s₁.setTop (mkF m 22 #[.val (.int p0), .val (.int p1), .val (.long qa), .second, .val (.long qb), .second, .val (.long qc), .second, .val (.int ww), .val (.long mm), .second, .unset, .unset, .unset, .unset] [(.int (2147483647 : Int32)), (.int p1)]))
  refine own_by (fun _ k => XS.iand X0.here hx rfl (hb hby at_22) rfl k) ?_
  show own_G _ _ _ _ _ _ _ (s₁.setTop (mkF m 23 #[.val (.int p0), .val (.int p1), .val (.long qa), .second, .val (.long qb), .second, .val (.long qc), .second, .val (.int ww), .val (.long mm), .second, .unset, .unset, .unset, .unset] [(.int (p1 &&& (2147483647 : Int32)))]))
  refine own_by (fun _ k => XS.bipush X0.here hx rfl (hb hby at_23) k) ?_
  show own_G _ _ _ _ _ _ _ (s₁.setTop (mkF m 25 #[.val (.int p0), .val (.int p1), .val (.long qa), .second, .val (.long qb), .second, .val (.long qc), .second, .val (.int ww), .val (.long mm), .second, .unset, .unset, .unset, .unset] [(.int (69 : Int32)), (.int (p1 &&& (2147483647 : Int32)))]))
  refine own_by (fun _ k => iremM (g := (mkF m 25 #[.val (.int p0), .val (.int p1), .val (.long qa), .second, .val (.long qb), .second, .val (.long qc), .second, .val (.int ww), .val (.long mm), .second, .unset, .unset, .unset, .unset] [(.int (69 : Int32)), (.int (p1 &&& (2147483647 : Int32)))])) X0 hx rfl (hb hby at_25) rfl (by decide) k) ?_
  show own_G _ _ _ _ _ _ _ (s₁.setTop (mkF m 26 #[.val (.int p0), .val (.int p1), .val (.long qa), .second, .val (.long qb), .second, .val (.long qc), .second, .val (.int ww), .val (.long mm), .second, .unset, .unset, .unset, .unset] [(.int ((p1 &&& (2147483647 : Int32)) % (69 : Int32)))]))
  refine own_by (fun _ k => XT.i2l X0.here hx rfl (hb hby at_26) rfl k) ?_
  show own_G _ _ _ _ _ _ _ (s₁.setTop (mkF m 27 #[.val (.int p0), .val (.int p1), .val (.long qa), .second, .val (.long qb), .second, .val (.long qc), .second, .val (.int ww), .val (.long mm), .second, .unset, .unset, .unset, .unset] [(.long ((p1 &&& (2147483647 : Int32)) % (69 : Int32)).toInt64)]))
  refine own_by (fun _ k => XT.lstore X0.here hx rfl (hb hby at_27) rfl (l' := #[.val (.int p0), .val (.int p1), .val (.long qa), .second, .val (.long qb), .second, .val (.long qc), .second, .val (.int ww), .val (.long mm), .second, .val (.long ((p1 &&& (2147483647 : Int32)) % (69 : Int32)).toInt64), .second, .unset, .unset]) rfl k) ?_
  show own_G _ _ _ _ _ _ _ (s₁.setTop (mkF m 29 #[.val (.int p0), .val (.int p1), .val (.long qa), .second, .val (.long qb), .second, .val (.long qc), .second, .val (.int ww), .val (.long mm), .second, .val (.long ((p1 &&& (2147483647 : Int32)) % (69 : Int32)).toInt64), .second, .unset, .unset] []))
  generalize hnii : ((p1 &&& (2147483647 : Int32)) % (69 : Int32)).toInt64 = ii
  show own_G _ _ _ _ _ _ _ (s₁.setTop (mkF m 29 #[.val (.int p0), .val (.int p1), .val (.long qa), .second, .val (.long qb), .second, .val (.long qc), .second, .val (.int ww), .val (.long mm), .second, .val (.long ii), .second, .unset, .unset] []))
  obtain ⟨I, hii, hI⟩ : ∃ I : Nat, ii.toInt = I ∧ I < 69 := by rw [← hnii]; exact own_i69 _
  obtain ⟨Y0, hX0⟩ : ∃ X : Nat, I * w = X := ⟨_, rfl⟩
  have hXw : Y0 ≤ 68 * w := by rw [← hX0]; exact Nat.mul_le_mul_right w (by omega)
  have hi1 : (ii + (1 : Int64)).toInt = ((I + 1 : Nat) : Int) := own_addJ hii (show (1 : Int64).toInt = (1 : Nat) by decide) (by omega)
  have hX1 : (I + 1) * w = Y0 + 1 * w := by rw [Nat.add_mul, hX0]
  have hi2 : (ii + (2 : Int64)).toInt = ((I + 2 : Nat) : Int) := own_addJ hii (show (2 : Int64).toInt = (2 : Nat) by decide) (by omega)
  have hX2 : (I + 2) * w = Y0 + 2 * w := by rw [Nat.add_mul, hX0]
  have hi3 : (ii + (3 : Int64)).toInt = ((I + 3 : Nat) : Int) := own_addJ hii (show (3 : Int64).toInt = (3 : Nat) by decide) (by omega)
  have hX3 : (I + 3) * w = Y0 + 3 * w := by rw [Nat.add_mul, hX0]
  obtain ⟨T39, h39, X39, e39, E39, A39, D39, -, st39⟩ := newO X0 hx hZ hown (hw _ (List.mem_of_getElem? (i := 2) rfl)) (hw _ (List.mem_of_getElem? (i := 3) rfl)) (hw _ (List.mem_of_getElem? (i := 4) rfl)) e0 (g := (mkF m 29 #[.val (.int p0), .val (.int p1), .val (.long qa), .second, .val (.long qb), .second, .val (.long qc), .second, .val (.int ww), .val (.long mm), .second, .val (.long ii), .second, .unset, .unset] [])) rfl (hb hby at_29) (by decide) (by decide)
  obtain ⟨b39, g39⟩ : ∃ z, z = h0.size := ⟨_, rfl⟩
  rw [← g39] at A39 D39 st39
  have g_b39 : n0 ≤ b39 := Nat.le_trans Z0 (Nat.le_of_eq g39.symm)
  refine own_by st39 ?_
  have Z41 : n0 ≤ h39.size := Nat.le_trans Z0 E39.1
  have F39_words : Fld Z h39 b39 "com/example/constellate/constellate/engine/PackedArray" "words" "[J" .null := D39 (Or.inr (hw _ (List.mem_of_getElem? (i := 26) rfl))) (ty := (.array .long)) (by decide)
  have F39_width : Fld Z h39 b39 "com/example/constellate/constellate/engine/PackedArray" "width" "I" (.int (0 : Int32)) := D39 (Or.inr (hw _ (List.mem_of_getElem? (i := 28) rfl))) (ty := .int) (by decide)
  have F39_mask : Fld Z h39 b39 "com/example/constellate/constellate/engine/PackedArray" "mask" "J" (.long (0 : Int64)) := D39 (Or.inr (hw _ (List.mem_of_getElem? (i := 30) rfl))) (ty := .long) (by decide)
  show own_G _ _ _ _ _ _ _ (T39.setTop (mkF m 32 #[.val (.int p0), .val (.int p1), .val (.long qa), .second, .val (.long qb), .second, .val (.long qc), .second, .val (.int ww), .val (.long mm), .second, .val (.long ii), .second, .unset, .unset] [(.ref b39)]))
  refine own_by (fun _ k => XS.dup X39.here hx rfl (hb hby at_32) rfl rfl k) ?_
  show own_G _ _ _ _ _ _ _ (T39.setTop (mkF m 33 #[.val (.int p0), .val (.int p1), .val (.long qa), .second, .val (.long qb), .second, .val (.long qc), .second, .val (.int ww), .val (.long mm), .second, .val (.long ii), .second, .unset, .unset] [(.ref b39), (.ref b39)]))
  refine own_by (X39.ldc2Long hx hown (mvT hZ (hw _ (List.mem_of_getElem? (i := 5) rfl))) (g := (mkF m 33 #[.val (.int p0), .val (.int p1), .val (.long qa), .second, .val (.long qb), .second, .val (.long qc), .second, .val (.int ww), .val (.long mm), .second, .val (.long ii), .second, .unset, .unset] [(.ref b39), (.ref b39)])) rfl (hb hby at_33)) ?_
  show own_G _ _ _ _ _ _ _ (T39.setTop (mkF m 36 #[.val (.int p0), .val (.int p1), .val (.long qa), .second, .val (.long qb), .second, .val (.long qc), .second, .val (.int ww), .val (.long mm), .second, .val (.long ii), .second, .unset, .unset] [(.long (72 : Int64)), (.ref b39), (.ref b39)]))
  refine own_by (fun _ k => XS.iload X39.here hx rfl (hb hby at_36) rfl  k) ?_
  show own_G _ _ _ _ _ _ _ (T39.setTop (mkF m 38 #[.val (.int p0), .val (.int p1), .val (.long qa), .second, .val (.long qb), .second, .val (.long qc), .second, .val (.int ww), .val (.long mm), .second, .val (.long ii), .second, .unset, .unset] [(.int ww), (.long (72 : Int64)), (.ref b39), (.ref b39)]))
  obtain ⟨_, _, ⟨T42, L42, k42, n42⟩, -, X42, ⟨Lc42, hQ42, l42, y42, z42⟩, st42⟩ := X39.specialBack hx (y := (⟨"com/example/constellate/constellate/engine/PackedArray", "<init>", "(JI)V"⟩ : MethodName)) rfl hown (mvT hZ (hw _ (List.mem_of_getElem? (i := 6) rfl))) (mvT hZ (hw _ (List.mem_of_getElem? (i := 7) rfl))) (mvT hZ (hw _ (List.mem_of_getElem? (i := 8) rfl))) (by decide) (backOf (W := 1) (rm4 l Z aw hw [] b39 (72 : Int64) ww w h39 n0 Z41 A39 F39_words F39_width F39_mask g_b39 (by decide) hww hw1 hw64) hZ (hw _ (List.mem_of_getElem? (i := 8) rfl)) (hw _ (List.mem_of_getElem? (i := 4) rfl)) (by decide) (by decide)) (g := (mkF m 38 #[.val (.int p0), .val (.int p1), .val (.long qa), .second, .val (.long qb), .second, .val (.long qc), .second, .val (.int ww), .val (.long mm), .second, .val (.long ii), .second, .unset, .unset] [(.int ww), (.long (72 : Int64)), (.ref b39), (.ref b39)])) rfl (by rw [hml]; rfl) (Steps.refl _) (a := b39) (argsL := [(.long (72 : Int64)), (.int ww)]) (rest := [(.ref b39)]) (lenOf own_pd3 rfl) rfl (by show 2 * 0 + _ ≤ _; exact Nat.le_of_eq rfl) (hb hby at_38) (fun _ _ => ⟨rfl, e39, (by decide : 1 + 1 ≤ _), (by decide : 3 + 73 ≤ _)⟩)
  dsimp only [Pt.U, Pt.locs, Pt.cells, Pt.slots] at X42 l42 y42 z42 st42 hQ42
  subst l42 y42 z42
  obtain ⟨h42, e42⟩ : ∃ h, T42.heap = h := ⟨_, rfl⟩
  rw [e42] at hQ42
  obtain ⟨ar, mk, rfl, Nq42, K42, E42, Fw42, Fi42, Fm42, VA42, gar, near, hmk⟩ := hQ42
  have N42 := Fr.app N0 Nq42
  have F43_0 := A39.keep K42
  have Z44 : n0 ≤ h42.size := Nat.le_trans Z41 K42.1
  refine own_by (fun _ k => st42.trans k) ?_
  show own_G _ _ _ _ _ _ _ (T42.setTop (mkF m 41 #[.val (.int p0), .val (.int p1), .val (.long qa), .second, .val (.long qb), .second, .val (.long qc), .second, .val (.int ww), .val (.long mm), .second, .val (.long ii), .second, .unset, .unset] [(.ref b39)]))
  refine own_by (fun _ k => XS.astore X42.here hx rfl (hb hby at_41) rfl rfl (l' := #[.val (.int p0), .val (.int p1), .val (.long qa), .second, .val (.long qb), .second, .val (.long qc), .second, .val (.int ww), .val (.long mm), .second, .val (.long ii), .second, .val (.ref b39), .unset]) rfl k) ?_
  show own_G _ _ _ _ _ _ _ (T42.setTop (mkF m 43 #[.val (.int p0), .val (.int p1), .val (.long qa), .second, .val (.long qb), .second, .val (.long qc), .second, .val (.int ww), .val (.long mm), .second, .val (.long ii), .second, .val (.ref b39), .unset] []))
  refine own_by (fun _ k => XS.aload X42.here hx rfl (hb hby at_43) rfl rfl k) ?_
  show own_G _ _ _ _ _ _ _ (T42.setTop (mkF m 45 #[.val (.int p0), .val (.int p1), .val (.long qa), .second, .val (.long qb), .second, .val (.long qc), .second, .val (.int ww), .val (.long mm), .second, .val (.long ii), .second, .val (.ref b39), .unset] [(.ref b39)]))
  refine own_by (fun _ k => XT.lload X42.here hx rfl (hb hby at_45) rfl  k) ?_
  show own_G _ _ _ _ _ _ _ (T42.setTop (mkF m 47 #[.val (.int p0), .val (.int p1), .val (.long qa), .second, .val (.long qb), .second, .val (.long qc), .second, .val (.int ww), .val (.long mm), .second, .val (.long ii), .second, .val (.ref b39), .unset] [(.long ii), (.ref b39)]))
  refine own_by (fun _ k => XT.lloadN X42.here hx rfl (hb hby at_47) rfl  k) ?_
  show own_G _ _ _ _ _ _ _ (T42.setTop (mkF m 48 #[.val (.int p0), .val (.int p1), .val (.long qa), .second, .val (.long qb), .second, .val (.long qc), .second, .val (.int ww), .val (.long mm), .second, .val (.long ii), .second, .val (.ref b39), .unset] [(.long qa), (.long ii), (.ref b39)]))
  obtain ⟨cq45, kq45, q45a, q45b, q45c⟩ := isOf hZ e42 E42
  obtain ⟨_, _, ⟨T45, L45, k45, n45⟩, -, X45, ⟨Lc45, hQ45, l45, y45, z45⟩, st45⟩ := X42.virtualBack hx (y := (⟨"com/example/constellate/constellate/engine/PackedArray", "set", "(JJ)V"⟩ : MethodName)) (z := (⟨"com/example/constellate/constellate/engine/PackedArray", "set", "(JJ)V"⟩ : MethodName)) hown (mvT hZ (hw _ (List.mem_of_getElem? (i := 31) rfl))) (mvT hZ (hw _ (List.mem_of_getElem? (i := 32) rfl))) (notFace_of_selects (args := #[]) (mvT hZ (hw _ (List.mem_of_getElem? (i := 34) rfl)))) (mvT hZ (hw _ (List.mem_of_getElem? (i := 34) rfl))) (mvT hZ (hw _ (List.mem_of_getElem? (i := 33) rfl))) (by decide) (backOf (W := 0) (rm5 l Z aw hw [] b39 ii qa ar ww mk (fun _ => 0) w Y0 ((72 * w + 63) / 64 + 1) h42 n0 Z44 Fw42 Fi42 Fm42 VA42 gar near hww hw64 hmk (own_prod hii hww hX0) (by omega) (by omega)) hZ (hw _ (List.mem_of_getElem? (i := 35) rfl)) (hw _ (List.mem_of_getElem? (i := 4) rfl)) (by decide) (by decide)) q45a q45c (g := (mkF m 48 #[.val (.int p0), .val (.int p1), .val (.long qa), .second, .val (.long qb), .second, .val (.long qc), .second, .val (.int ww), .val (.long mm), .second, .val (.long ii), .second, .val (.ref b39), .unset] [(.long qa), (.long ii), (.ref b39)])) rfl (by rw [hml]; rfl) (Steps.refl _) (argsL := [(.long ii), (.long qa)]) (rest := []) (lenOf own_pd4 rfl) rfl (by show 2 * 0 + _ ≤ _; exact Nat.le_of_eq rfl) (hb hby at_48) (fun _ _ => ⟨rfl, e42, (by decide : 2 + 0 ≤ _), (by decide : 76 + 0 ≤ _)⟩)
  dsimp only [Pt.U, Pt.locs, Pt.cells, Pt.slots] at X45 l45 y45 z45 st45 hQ45
  subst l45 y45 z45
  obtain ⟨h45, e45⟩ : ∃ h, T45.heap = h := ⟨_, rfl⟩
  rw [e45] at hQ45
  obtain ⟨G45, rfl, Nq45, K45, VA45, hG45⟩ := hQ45
  have N45 := Fr.app N42 Nq45
  have F46_0 := E42.keep K45
  have F46_1 := Fw42.keep K45 (ninS near nin0)
  have F46_2 := Fi42.keep K45 (ninS near nin0)
  have F46_3 := Fm42.keep K45 (ninS near nin0)
  have Z47 : n0 ≤ h45.size := Nat.le_trans Z44 K45.1
  refine own_by (fun _ k => st45.trans k) ?_
  show own_G _ _ _ _ _ _ _ (T45.setTop (mkF m 51 #[.val (.int p0), .val (.int p1), .val (.long qa), .second, .val (.long qb), .second, .val (.long qc), .second, .val (.int ww), .val (.long mm), .second, .val (.long ii), .second, .val (.ref b39), .unset] []))
  refine own_by (fun _ k => XS.aload X45.here hx rfl (hb hby at_51) rfl rfl k) ?_
  show own_G _ _ _ _ _ _ _ (T45.setTop (mkF m 53 #[.val (.int p0), .val (.int p1), .val (.long qa), .second, .val (.long qb), .second, .val (.long qc), .second, .val (.int ww), .val (.long mm), .second, .val (.long ii), .second, .val (.ref b39), .unset] [(.ref b39)]))
  refine own_by (fun _ k => XT.lload X45.here hx rfl (hb hby at_53) rfl  k) ?_
  show own_G _ _ _ _ _ _ _ (T45.setTop (mkF m 55 #[.val (.int p0), .val (.int p1), .val (.long qa), .second, .val (.long qb), .second, .val (.long qc), .second, .val (.int ww), .val (.long mm), .second, .val (.long ii), .second, .val (.ref b39), .unset] [(.long ii), (.ref b39)]))
  refine own_by (fun _ k => XT.lconst X45.here hx rfl (hb hby at_55) k) ?_
  show own_G _ _ _ _ _ _ _ (T45.setTop (mkF m 56 #[.val (.int p0), .val (.int p1), .val (.long qa), .second, .val (.long qb), .second, .val (.long qc), .second, .val (.int ww), .val (.long mm), .second, .val (.long ii), .second, .val (.ref b39), .unset] [(.long (1 : Int64)), (.long ii), (.ref b39)]))
  refine own_by (fun _ k => XT.ladd X45.here hx rfl (hb hby at_56) rfl k) ?_
  show own_G _ _ _ _ _ _ _ (T45.setTop (mkF m 57 #[.val (.int p0), .val (.int p1), .val (.long qa), .second, .val (.long qb), .second, .val (.long qc), .second, .val (.int ww), .val (.long mm), .second, .val (.long ii), .second, .val (.ref b39), .unset] [(.long (ii + (1 : Int64))), (.ref b39)]))
  refine own_by (fun _ k => XT.lload X45.here hx rfl (hb hby at_57) rfl  k) ?_
  show own_G _ _ _ _ _ _ _ (T45.setTop (mkF m 59 #[.val (.int p0), .val (.int p1), .val (.long qa), .second, .val (.long qb), .second, .val (.long qc), .second, .val (.int ww), .val (.long mm), .second, .val (.long ii), .second, .val (.ref b39), .unset] [(.long qb), (.long (ii + (1 : Int64))), (.ref b39)]))
  obtain ⟨cq48, kq48, q48a, q48b, q48c⟩ := isOf hZ e45 F46_0
  obtain ⟨_, _, ⟨T48, L48, k48, n48⟩, -, X48, ⟨Lc48, hQ48, l48, y48, z48⟩, st48⟩ := X45.virtualBack hx (y := (⟨"com/example/constellate/constellate/engine/PackedArray", "set", "(JJ)V"⟩ : MethodName)) (z := (⟨"com/example/constellate/constellate/engine/PackedArray", "set", "(JJ)V"⟩ : MethodName)) hown (mvT hZ (hw _ (List.mem_of_getElem? (i := 31) rfl))) (mvT hZ (hw _ (List.mem_of_getElem? (i := 32) rfl))) (notFace_of_selects (args := #[]) (mvT hZ (hw _ (List.mem_of_getElem? (i := 34) rfl)))) (mvT hZ (hw _ (List.mem_of_getElem? (i := 34) rfl))) (mvT hZ (hw _ (List.mem_of_getElem? (i := 33) rfl))) (by decide) (backOf (W := 0) (rm5 l Z aw hw [] b39 (ii + (1 : Int64)) qb ar ww mk G45 w (Y0 + 1 * w) ((72 * w + 63) / 64 + 1) h45 n0 Z47 F46_1 F46_2 F46_3 VA45 gar near hww hw64 hmk (own_prod hi1 hww hX1) (by omega) (by omega)) hZ (hw _ (List.mem_of_getElem? (i := 35) rfl)) (hw _ (List.mem_of_getElem? (i := 4) rfl)) (by decide) (by decide)) q48a q48c (g := (mkF m 59 #[.val (.int p0), .val (.int p1), .val (.long qa), .second, .val (.long qb), .second, .val (.long qc), .second, .val (.int ww), .val (.long mm), .second, .val (.long ii), .second, .val (.ref b39), .unset] [(.long qb), (.long (ii + (1 : Int64))), (.ref b39)])) rfl (by rw [hml]; rfl) (Steps.refl _) (argsL := [(.long (ii + (1 : Int64))), (.long qb)]) (rest := []) (lenOf own_pd4 rfl) rfl (by show 2 * 0 + _ ≤ _; exact Nat.le_of_eq rfl) (hb hby at_59) (fun _ _ => ⟨rfl, e45, (by decide : 2 + 0 ≤ _), (by decide : 76 + 0 ≤ _)⟩)
  dsimp only [Pt.U, Pt.locs, Pt.cells, Pt.slots] at X48 l48 y48 z48 st48 hQ48
  subst l48 y48 z48
  obtain ⟨h48, e48⟩ : ∃ h, T48.heap = h := ⟨_, rfl⟩
  rw [e48] at hQ48
  obtain ⟨G48, rfl, Nq48, K48, VA48, hG48⟩ := hQ48
  have N48 := Fr.app N45 Nq48
  have F49_0 := F46_0.keep K48
  have F49_1 := F46_1.keep K48 (ninS near nin0)
  have F49_2 := F46_2.keep K48 (ninS near nin0)
  have F49_3 := F46_3.keep K48 (ninS near nin0)
  have Z50 : n0 ≤ h48.size := Nat.le_trans Z47 K48.1
  refine own_by (fun _ k => st48.trans k) ?_
  show own_G _ _ _ _ _ _ _ (T48.setTop (mkF m 62 #[.val (.int p0), .val (.int p1), .val (.long qa), .second, .val (.long qb), .second, .val (.long qc), .second, .val (.int ww), .val (.long mm), .second, .val (.long ii), .second, .val (.ref b39), .unset] []))
  refine own_by (fun _ k => XS.aload X48.here hx rfl (hb hby at_62) rfl rfl k) ?_
  show own_G _ _ _ _ _ _ _ (T48.setTop (mkF m 64 #[.val (.int p0), .val (.int p1), .val (.long qa), .second, .val (.long qb), .second, .val (.long qc), .second, .val (.int ww), .val (.long mm), .second, .val (.long ii), .second, .val (.ref b39), .unset] [(.ref b39)]))
  refine own_by (fun _ k => XT.lload X48.here hx rfl (hb hby at_64) rfl  k) ?_
  show own_G _ _ _ _ _ _ _ (T48.setTop (mkF m 66 #[.val (.int p0), .val (.int p1), .val (.long qa), .second, .val (.long qb), .second, .val (.long qc), .second, .val (.int ww), .val (.long mm), .second, .val (.long ii), .second, .val (.ref b39), .unset] [(.long ii), (.ref b39)]))
  refine own_by (X48.ldc2Long hx hown (mvT hZ (hw _ (List.mem_of_getElem? (i := 37) rfl))) (g := (mkF m 66 #[.val (.int p0), .val (.int p1), .val (.long qa), .second, .val (.long qb), .second, .val (.long qc), .second, .val (.int ww), .val (.long mm), .second, .val (.long ii), .second, .val (.ref b39), .unset] [(.long ii), (.ref b39)])) rfl (hb hby at_66)) ?_
  show own_G _ _ _ _ _ _ _ (T48.setTop (mkF m 69 #[.val (.int p0), .val (.int p1), .val (.long qa), .second, .val (.long qb), .second, .val (.long qc), .second, .val (.int ww), .val (.long mm), .second, .val (.long ii), .second, .val (.ref b39), .unset] [(.long (2 : Int64)), (.long ii), (.ref b39)]))
  refine own_by (fun _ k => XT.ladd X48.here hx rfl (hb hby at_69) rfl k) ?_
  show own_G _ _ _ _ _ _ _ (T48.setTop (mkF m 70 #[.val (.int p0), .val (.int p1), .val (.long qa), .second, .val (.long qb), .second, .val (.long qc), .second, .val (.int ww), .val (.long mm), .second, .val (.long ii), .second, .val (.ref b39), .unset] [(.long (ii + (2 : Int64))), (.ref b39)]))
  refine own_by (fun _ k => XT.lload X48.here hx rfl (hb hby at_70) rfl  k) ?_
  show own_G _ _ _ _ _ _ _ (T48.setTop (mkF m 72 #[.val (.int p0), .val (.int p1), .val (.long qa), .second, .val (.long qb), .second, .val (.long qc), .second, .val (.int ww), .val (.long mm), .second, .val (.long ii), .second, .val (.ref b39), .unset] [(.long qc), (.long (ii + (2 : Int64))), (.ref b39)]))
  obtain ⟨cq51, kq51, q51a, q51b, q51c⟩ := isOf hZ e48 F49_0
  obtain ⟨_, _, ⟨T51, L51, k51, n51⟩, -, X51, ⟨Lc51, hQ51, l51, y51, z51⟩, st51⟩ := X48.virtualBack hx (y := (⟨"com/example/constellate/constellate/engine/PackedArray", "set", "(JJ)V"⟩ : MethodName)) (z := (⟨"com/example/constellate/constellate/engine/PackedArray", "set", "(JJ)V"⟩ : MethodName)) hown (mvT hZ (hw _ (List.mem_of_getElem? (i := 31) rfl))) (mvT hZ (hw _ (List.mem_of_getElem? (i := 32) rfl))) (notFace_of_selects (args := #[]) (mvT hZ (hw _ (List.mem_of_getElem? (i := 34) rfl)))) (mvT hZ (hw _ (List.mem_of_getElem? (i := 34) rfl))) (mvT hZ (hw _ (List.mem_of_getElem? (i := 33) rfl))) (by decide) (backOf (W := 0) (rm5 l Z aw hw [] b39 (ii + (2 : Int64)) qc ar ww mk G48 w (Y0 + 2 * w) ((72 * w + 63) / 64 + 1) h48 n0 Z50 F49_1 F49_2 F49_3 VA48 gar near hww hw64 hmk (own_prod hi2 hww hX2) (by omega) (by omega)) hZ (hw _ (List.mem_of_getElem? (i := 35) rfl)) (hw _ (List.mem_of_getElem? (i := 4) rfl)) (by decide) (by decide)) q51a q51c (g := (mkF m 72 #[.val (.int p0), .val (.int p1), .val (.long qa), .second, .val (.long qb), .second, .val (.long qc), .second, .val (.int ww), .val (.long mm), .second, .val (.long ii), .second, .val (.ref b39), .unset] [(.long qc), (.long (ii + (2 : Int64))), (.ref b39)])) rfl (by rw [hml]; rfl) (Steps.refl _) (argsL := [(.long (ii + (2 : Int64))), (.long qc)]) (rest := []) (lenOf own_pd4 rfl) rfl (by show 2 * 0 + _ ≤ _; exact Nat.le_of_eq rfl) (hb hby at_72) (fun _ _ => ⟨rfl, e48, (by decide : 2 + 0 ≤ _), (by decide : 76 + 0 ≤ _)⟩)
  dsimp only [Pt.U, Pt.locs, Pt.cells, Pt.slots] at X51 l51 y51 z51 st51 hQ51
  subst l51 y51 z51
  obtain ⟨h51, e51⟩ : ∃ h, T51.heap = h := ⟨_, rfl⟩
  rw [e51] at hQ51
  obtain ⟨G51, rfl, Nq51, K51, VA51, hG51⟩ := hQ51
  have N51 := Fr.app N48 Nq51
  have F52_0 := F49_0.keep K51
  have F52_1 := F49_1.keep K51 (ninS near nin0)
  have F52_2 := F49_2.keep K51 (ninS near nin0)
  have F52_3 := F49_3.keep K51 (ninS near nin0)
  have Z53 : n0 ≤ h51.size := Nat.le_trans Z50 K51.1
  refine own_by (fun _ k => st51.trans k) ?_
  show own_G _ _ _ _ _ _ _ (T51.setTop (mkF m 75 #[.val (.int p0), .val (.int p1), .val (.long qa), .second, .val (.long qb), .second, .val (.long qc), .second, .val (.int ww), .val (.long mm), .second, .val (.long ii), .second, .val (.ref b39), .unset] []))
  refine own_by (fun _ k => XS.aload X51.here hx rfl (hb hby at_75) rfl rfl k) ?_
  show own_G _ _ _ _ _ _ _ (T51.setTop (mkF m 77 #[.val (.int p0), .val (.int p1), .val (.long qa), .second, .val (.long qb), .second, .val (.long qc), .second, .val (.int ww), .val (.long mm), .second, .val (.long ii), .second, .val (.ref b39), .unset] [(.ref b39)]))
  refine own_by (fun _ k => XT.lload X51.here hx rfl (hb hby at_77) rfl  k) ?_
  show own_G _ _ _ _ _ _ _ (T51.setTop (mkF m 79 #[.val (.int p0), .val (.int p1), .val (.long qa), .second, .val (.long qb), .second, .val (.long qc), .second, .val (.int ww), .val (.long mm), .second, .val (.long ii), .second, .val (.ref b39), .unset] [(.long ii), (.ref b39)]))
  obtain ⟨cq54, kq54, q54a, q54b, q54c⟩ := isOf hZ e51 F52_0
  obtain ⟨_, _, ⟨T54, L54, k54, n54⟩, -, X54, ⟨Lc54, hQ54, l54, y54, z54⟩, st54⟩ := X51.virtualBack hx (y := (⟨"com/example/constellate/constellate/engine/PackedArray", "get", "(J)J"⟩ : MethodName)) (z := (⟨"com/example/constellate/constellate/engine/PackedArray", "get", "(J)J"⟩ : MethodName)) hown (mvT hZ (hw _ (List.mem_of_getElem? (i := 38) rfl))) (mvT hZ (hw _ (List.mem_of_getElem? (i := 39) rfl))) (notFace_of_selects (args := #[]) (mvT hZ (hw _ (List.mem_of_getElem? (i := 41) rfl)))) (mvT hZ (hw _ (List.mem_of_getElem? (i := 41) rfl))) (mvT hZ (hw _ (List.mem_of_getElem? (i := 40) rfl))) (by decide) (backOf (W := 0) (rm6 l Z aw hw [] b39 ii ar ww mk G51 w Y0 ((72 * w + 63) / 64 + 1) h51 n0 Z53 F52_1 F52_2 F52_3 VA51 hww hw64 hmk (own_prod hii hww hX0) (by omega) (by omega)) hZ (hw _ (List.mem_of_getElem? (i := 42) rfl)) (hw _ (List.mem_of_getElem? (i := 4) rfl)) (by decide) (by decide)) q54a q54c (g := (mkF m 79 #[.val (.int p0), .val (.int p1), .val (.long qa), .second, .val (.long qb), .second, .val (.long qc), .second, .val (.int ww), .val (.long mm), .second, .val (.long ii), .second, .val (.ref b39), .unset] [(.long ii), (.ref b39)])) rfl (by rw [hml]; rfl) (Steps.refl _) (argsL := [(.long ii)]) (rest := []) (lenOf own_pd0 rfl) rfl (by show 2 * 0 + _ ≤ _; exact Nat.le_of_eq rfl) (hb hby at_79) (fun _ _ => ⟨rfl, e51, (by decide : 2 + 0 ≤ _), (by decide : 76 + 0 ≤ _)⟩)
  dsimp only [Pt.U, Pt.locs, Pt.cells, Pt.slots] at X54 l54 y54 z54 st54 hQ54
  subst l54 y54 z54
  obtain ⟨rfl, Nq54, e54⟩ := hQ54
  have N54 := Fr.app N51 Nq54
  refine own_by (fun _ k => st54.trans k) ?_
  show own_G _ _ _ _ _ _ _ (T54.setTop (mkF m 82 #[.val (.int p0), .val (.int p1), .val (.long qa), .second, .val (.long qb), .second, .val (.long qc), .second, .val (.int ww), .val (.long mm), .second, .val (.long ii), .second, .val (.ref b39), .unset] [(.long (own_getv G51 Y0 mk))]))
  refine own_by (fun _ k => XT.lloadN X54.here hx rfl (hb hby at_82) rfl  k) ?_
  show own_G _ _ _ _ _ _ _ (T54.setTop (mkF m 83 #[.val (.int p0), .val (.int p1), .val (.long qa), .second, .val (.long qb), .second, .val (.long qc), .second, .val (.int ww), .val (.long mm), .second, .val (.long ii), .second, .val (.ref b39), .unset] [(.long qa), (.long (own_getv G51 Y0 mk))]))
  refine own_by (fun _ k => XT.lload X54.here hx rfl (hb hby at_83) rfl  k) ?_
  show own_G _ _ _ _ _ _ _ (T54.setTop (mkF m 85 #[.val (.int p0), .val (.int p1), .val (.long qa), .second, .val (.long qb), .second, .val (.long qc), .second, .val (.int ww), .val (.long mm), .second, .val (.long ii), .second, .val (.ref b39), .unset] [(.long mm), (.long qa), (.long (own_getv G51 Y0 mk))]))
  refine own_by (fun _ k => XT.land X54.here hx rfl (hb hby at_85) rfl k) ?_
  show own_G _ _ _ _ _ _ _ (T54.setTop (mkF m 86 #[.val (.int p0), .val (.int p1), .val (.long qa), .second, .val (.long qb), .second, .val (.long qc), .second, .val (.int ww), .val (.long mm), .second, .val (.long ii), .second, .val (.ref b39), .unset] [(.long (qa &&& mm)), (.long (own_getv G51 Y0 mk))]))
  refine own_by (fun _ k => XT.lcmp X54.here hx rfl (hb hby at_86) rfl k) ?_
  show own_G _ _ _ _ _ _ _ (T54.setTop (mkF m 87 #[.val (.int p0), .val (.int p1), .val (.long qa), .second, .val (.long qb), .second, .val (.long qc), .second, .val (.int ww), .val (.long mm), .second, .val (.long ii), .second, .val (.ref b39), .unset] [(.int (XT.cmpL (own_getv G51 Y0 mk) (qa &&& mm)))]))
  have hc87 : (own_getv G51 Y0 mk) = (qa &&& mm) := (own_chk (w := w) hmk (fun k hk => by
      rw [Int64.toBitVec_and, BitVec.getLsbD_and, hmm k hk, Bool.and_comm]
      by_cases kw : k < w
      · rw [hG51, if_neg (by omega)]; rw [hG48, if_neg (by omega)]; rw [hG45, if_pos (by omega)]
        rw [show Y0 + k - Y0 = k by omega]
      · simp [kw]))
  refine own_by (fun _ k => XS.ifNo X54.here hx rfl (hb hby at_87) rfl (XT.ll_ne_f hc87) k) ?_
  show own_G _ _ _ _ _ _ _ (T54.setTop (mkF m 90 #[.val (.int p0), .val (.int p1), .val (.long qa), .second, .val (.long qb), .second, .val (.long qc), .second, .val (.int ww), .val (.long mm), .second, .val (.long ii), .second, .val (.ref b39), .unset] []))
  refine own_by (fun _ k => XS.aload X54.here hx rfl (hb hby at_90) rfl rfl k) ?_
  show own_G _ _ _ _ _ _ _ (T54.setTop (mkF m 92 #[.val (.int p0), .val (.int p1), .val (.long qa), .second, .val (.long qb), .second, .val (.long qc), .second, .val (.int ww), .val (.long mm), .second, .val (.long ii), .second, .val (.ref b39), .unset] [(.ref b39)]))
  refine own_by (fun _ k => XT.lload X54.here hx rfl (hb hby at_92) rfl  k) ?_
  show own_G _ _ _ _ _ _ _ (T54.setTop (mkF m 94 #[.val (.int p0), .val (.int p1), .val (.long qa), .second, .val (.long qb), .second, .val (.long qc), .second, .val (.int ww), .val (.long mm), .second, .val (.long ii), .second, .val (.ref b39), .unset] [(.long ii), (.ref b39)]))
  refine own_by (fun _ k => XT.lconst X54.here hx rfl (hb hby at_94) k) ?_
  show own_G _ _ _ _ _ _ _ (T54.setTop (mkF m 95 #[.val (.int p0), .val (.int p1), .val (.long qa), .second, .val (.long qb), .second, .val (.long qc), .second, .val (.int ww), .val (.long mm), .second, .val (.long ii), .second, .val (.ref b39), .unset] [(.long (1 : Int64)), (.long ii), (.ref b39)]))
  refine own_by (fun _ k => XT.ladd X54.here hx rfl (hb hby at_95) rfl k) ?_
  show own_G _ _ _ _ _ _ _ (T54.setTop (mkF m 96 #[.val (.int p0), .val (.int p1), .val (.long qa), .second, .val (.long qb), .second, .val (.long qc), .second, .val (.int ww), .val (.long mm), .second, .val (.long ii), .second, .val (.ref b39), .unset] [(.long (ii + (1 : Int64))), (.ref b39)]))
  obtain ⟨cq55, kq55, q55a, q55b, q55c⟩ := isOf hZ e54 F52_0
  obtain ⟨_, _, ⟨T55, L55, k55, n55⟩, -, X55, ⟨Lc55, hQ55, l55, y55, z55⟩, st55⟩ := X54.virtualBack hx (y := (⟨"com/example/constellate/constellate/engine/PackedArray", "get", "(J)J"⟩ : MethodName)) (z := (⟨"com/example/constellate/constellate/engine/PackedArray", "get", "(J)J"⟩ : MethodName)) hown (mvT hZ (hw _ (List.mem_of_getElem? (i := 38) rfl))) (mvT hZ (hw _ (List.mem_of_getElem? (i := 39) rfl))) (notFace_of_selects (args := #[]) (mvT hZ (hw _ (List.mem_of_getElem? (i := 41) rfl)))) (mvT hZ (hw _ (List.mem_of_getElem? (i := 41) rfl))) (mvT hZ (hw _ (List.mem_of_getElem? (i := 40) rfl))) (by decide) (backOf (W := 0) (rm6 l Z aw hw [] b39 (ii + (1 : Int64)) ar ww mk G51 w (Y0 + 1 * w) ((72 * w + 63) / 64 + 1) h51 n0 Z53 F52_1 F52_2 F52_3 VA51 hww hw64 hmk (own_prod hi1 hww hX1) (by omega) (by omega)) hZ (hw _ (List.mem_of_getElem? (i := 42) rfl)) (hw _ (List.mem_of_getElem? (i := 4) rfl)) (by decide) (by decide)) q55a q55c (g := (mkF m 96 #[.val (.int p0), .val (.int p1), .val (.long qa), .second, .val (.long qb), .second, .val (.long qc), .second, .val (.int ww), .val (.long mm), .second, .val (.long ii), .second, .val (.ref b39), .unset] [(.long (ii + (1 : Int64))), (.ref b39)])) rfl (by rw [hml]; rfl) (Steps.refl _) (argsL := [(.long (ii + (1 : Int64)))]) (rest := []) (lenOf own_pd0 rfl) rfl (by show 2 * 0 + _ ≤ _; exact Nat.le_of_eq rfl) (hb hby at_96) (fun _ _ => ⟨rfl, e54, (by decide : 2 + 0 ≤ _), (by decide : 76 + 0 ≤ _)⟩)
  dsimp only [Pt.U, Pt.locs, Pt.cells, Pt.slots] at X55 l55 y55 z55 st55 hQ55
  subst l55 y55 z55
  obtain ⟨rfl, Nq55, e55⟩ := hQ55
  have N55 := Fr.app N54 Nq55
  refine own_by (fun _ k => st55.trans k) ?_
  show own_G _ _ _ _ _ _ _ (T55.setTop (mkF m 99 #[.val (.int p0), .val (.int p1), .val (.long qa), .second, .val (.long qb), .second, .val (.long qc), .second, .val (.int ww), .val (.long mm), .second, .val (.long ii), .second, .val (.ref b39), .unset] [(.long (own_getv G51 (Y0 + 1 * w) mk))]))
  refine own_by (fun _ k => XT.lload X55.here hx rfl (hb hby at_99) rfl  k) ?_
  show own_G _ _ _ _ _ _ _ (T55.setTop (mkF m 101 #[.val (.int p0), .val (.int p1), .val (.long qa), .second, .val (.long qb), .second, .val (.long qc), .second, .val (.int ww), .val (.long mm), .second, .val (.long ii), .second, .val (.ref b39), .unset] [(.long qb), (.long (own_getv G51 (Y0 + 1 * w) mk))]))
  refine own_by (fun _ k => XT.lload X55.here hx rfl (hb hby at_101) rfl  k) ?_
  show own_G _ _ _ _ _ _ _ (T55.setTop (mkF m 103 #[.val (.int p0), .val (.int p1), .val (.long qa), .second, .val (.long qb), .second, .val (.long qc), .second, .val (.int ww), .val (.long mm), .second, .val (.long ii), .second, .val (.ref b39), .unset] [(.long mm), (.long qb), (.long (own_getv G51 (Y0 + 1 * w) mk))]))
  refine own_by (fun _ k => XT.land X55.here hx rfl (hb hby at_103) rfl k) ?_
  show own_G _ _ _ _ _ _ _ (T55.setTop (mkF m 104 #[.val (.int p0), .val (.int p1), .val (.long qa), .second, .val (.long qb), .second, .val (.long qc), .second, .val (.int ww), .val (.long mm), .second, .val (.long ii), .second, .val (.ref b39), .unset] [(.long (qb &&& mm)), (.long (own_getv G51 (Y0 + 1 * w) mk))]))
  refine own_by (fun _ k => XT.lcmp X55.here hx rfl (hb hby at_104) rfl k) ?_
  show own_G _ _ _ _ _ _ _ (T55.setTop (mkF m 105 #[.val (.int p0), .val (.int p1), .val (.long qa), .second, .val (.long qb), .second, .val (.long qc), .second, .val (.int ww), .val (.long mm), .second, .val (.long ii), .second, .val (.ref b39), .unset] [(.int (XT.cmpL (own_getv G51 (Y0 + 1 * w) mk) (qb &&& mm)))]))
  have hc105 : (own_getv G51 (Y0 + 1 * w) mk) = (qb &&& mm) := (own_chk (w := w) hmk (fun k hk => by
      rw [Int64.toBitVec_and, BitVec.getLsbD_and, hmm k hk, Bool.and_comm]
      by_cases kw : k < w
      · rw [hG51, if_neg (by omega)]; rw [hG48, if_pos (by omega)]
        rw [show (Y0 + 1 * w) + k - (Y0 + 1 * w) = k by omega]
      · simp [kw]))
  refine own_by (fun _ k => XS.ifNo X55.here hx rfl (hb hby at_105) rfl (XT.ll_ne_f hc105) k) ?_
  show own_G _ _ _ _ _ _ _ (T55.setTop (mkF m 108 #[.val (.int p0), .val (.int p1), .val (.long qa), .second, .val (.long qb), .second, .val (.long qc), .second, .val (.int ww), .val (.long mm), .second, .val (.long ii), .second, .val (.ref b39), .unset] []))
  refine own_by (fun _ k => XS.aload X55.here hx rfl (hb hby at_108) rfl rfl k) ?_
  show own_G _ _ _ _ _ _ _ (T55.setTop (mkF m 110 #[.val (.int p0), .val (.int p1), .val (.long qa), .second, .val (.long qb), .second, .val (.long qc), .second, .val (.int ww), .val (.long mm), .second, .val (.long ii), .second, .val (.ref b39), .unset] [(.ref b39)]))
  refine own_by (fun _ k => XT.lload X55.here hx rfl (hb hby at_110) rfl  k) ?_
  show own_G _ _ _ _ _ _ _ (T55.setTop (mkF m 112 #[.val (.int p0), .val (.int p1), .val (.long qa), .second, .val (.long qb), .second, .val (.long qc), .second, .val (.int ww), .val (.long mm), .second, .val (.long ii), .second, .val (.ref b39), .unset] [(.long ii), (.ref b39)]))
  refine own_by (X55.ldc2Long hx hown (mvT hZ (hw _ (List.mem_of_getElem? (i := 37) rfl))) (g := (mkF m 112 #[.val (.int p0), .val (.int p1), .val (.long qa), .second, .val (.long qb), .second, .val (.long qc), .second, .val (.int ww), .val (.long mm), .second, .val (.long ii), .second, .val (.ref b39), .unset] [(.long ii), (.ref b39)])) rfl (hb hby at_112)) ?_
  show own_G _ _ _ _ _ _ _ (T55.setTop (mkF m 115 #[.val (.int p0), .val (.int p1), .val (.long qa), .second, .val (.long qb), .second, .val (.long qc), .second, .val (.int ww), .val (.long mm), .second, .val (.long ii), .second, .val (.ref b39), .unset] [(.long (2 : Int64)), (.long ii), (.ref b39)]))
  refine own_by (fun _ k => XT.ladd X55.here hx rfl (hb hby at_115) rfl k) ?_
  show own_G _ _ _ _ _ _ _ (T55.setTop (mkF m 116 #[.val (.int p0), .val (.int p1), .val (.long qa), .second, .val (.long qb), .second, .val (.long qc), .second, .val (.int ww), .val (.long mm), .second, .val (.long ii), .second, .val (.ref b39), .unset] [(.long (ii + (2 : Int64))), (.ref b39)]))
  obtain ⟨cq56, kq56, q56a, q56b, q56c⟩ := isOf hZ e55 F52_0
  obtain ⟨_, _, ⟨T56, L56, k56, n56⟩, -, X56, ⟨Lc56, hQ56, l56, y56, z56⟩, st56⟩ := X55.virtualBack hx (y := (⟨"com/example/constellate/constellate/engine/PackedArray", "get", "(J)J"⟩ : MethodName)) (z := (⟨"com/example/constellate/constellate/engine/PackedArray", "get", "(J)J"⟩ : MethodName)) hown (mvT hZ (hw _ (List.mem_of_getElem? (i := 38) rfl))) (mvT hZ (hw _ (List.mem_of_getElem? (i := 39) rfl))) (notFace_of_selects (args := #[]) (mvT hZ (hw _ (List.mem_of_getElem? (i := 41) rfl)))) (mvT hZ (hw _ (List.mem_of_getElem? (i := 41) rfl))) (mvT hZ (hw _ (List.mem_of_getElem? (i := 40) rfl))) (by decide) (backOf (W := 0) (rm6 l Z aw hw [] b39 (ii + (2 : Int64)) ar ww mk G51 w (Y0 + 2 * w) ((72 * w + 63) / 64 + 1) h51 n0 Z53 F52_1 F52_2 F52_3 VA51 hww hw64 hmk (own_prod hi2 hww hX2) (by omega) (by omega)) hZ (hw _ (List.mem_of_getElem? (i := 42) rfl)) (hw _ (List.mem_of_getElem? (i := 4) rfl)) (by decide) (by decide)) q56a q56c (g := (mkF m 116 #[.val (.int p0), .val (.int p1), .val (.long qa), .second, .val (.long qb), .second, .val (.long qc), .second, .val (.int ww), .val (.long mm), .second, .val (.long ii), .second, .val (.ref b39), .unset] [(.long (ii + (2 : Int64))), (.ref b39)])) rfl (by rw [hml]; rfl) (Steps.refl _) (argsL := [(.long (ii + (2 : Int64)))]) (rest := []) (lenOf own_pd0 rfl) rfl (by show 2 * 0 + _ ≤ _; exact Nat.le_of_eq rfl) (hb hby at_116) (fun _ _ => ⟨rfl, e55, (by decide : 2 + 0 ≤ _), (by decide : 76 + 0 ≤ _)⟩)
  dsimp only [Pt.U, Pt.locs, Pt.cells, Pt.slots] at X56 l56 y56 z56 st56 hQ56
  subst l56 y56 z56
  obtain ⟨rfl, Nq56, e56⟩ := hQ56
  have N56 := Fr.app N55 Nq56
  refine own_by (fun _ k => st56.trans k) ?_
  show own_G _ _ _ _ _ _ _ (T56.setTop (mkF m 119 #[.val (.int p0), .val (.int p1), .val (.long qa), .second, .val (.long qb), .second, .val (.long qc), .second, .val (.int ww), .val (.long mm), .second, .val (.long ii), .second, .val (.ref b39), .unset] [(.long (own_getv G51 (Y0 + 2 * w) mk))]))
  refine own_by (fun _ k => XT.lload X56.here hx rfl (hb hby at_119) rfl  k) ?_
  show own_G _ _ _ _ _ _ _ (T56.setTop (mkF m 121 #[.val (.int p0), .val (.int p1), .val (.long qa), .second, .val (.long qb), .second, .val (.long qc), .second, .val (.int ww), .val (.long mm), .second, .val (.long ii), .second, .val (.ref b39), .unset] [(.long qc), (.long (own_getv G51 (Y0 + 2 * w) mk))]))
  refine own_by (fun _ k => XT.lload X56.here hx rfl (hb hby at_121) rfl  k) ?_
  show own_G _ _ _ _ _ _ _ (T56.setTop (mkF m 123 #[.val (.int p0), .val (.int p1), .val (.long qa), .second, .val (.long qb), .second, .val (.long qc), .second, .val (.int ww), .val (.long mm), .second, .val (.long ii), .second, .val (.ref b39), .unset] [(.long mm), (.long qc), (.long (own_getv G51 (Y0 + 2 * w) mk))]))
  refine own_by (fun _ k => XT.land X56.here hx rfl (hb hby at_123) rfl k) ?_
  show own_G _ _ _ _ _ _ _ (T56.setTop (mkF m 124 #[.val (.int p0), .val (.int p1), .val (.long qa), .second, .val (.long qb), .second, .val (.long qc), .second, .val (.int ww), .val (.long mm), .second, .val (.long ii), .second, .val (.ref b39), .unset] [(.long (qc &&& mm)), (.long (own_getv G51 (Y0 + 2 * w) mk))]))
  refine own_by (fun _ k => XT.lcmp X56.here hx rfl (hb hby at_124) rfl k) ?_
  show own_G _ _ _ _ _ _ _ (T56.setTop (mkF m 125 #[.val (.int p0), .val (.int p1), .val (.long qa), .second, .val (.long qb), .second, .val (.long qc), .second, .val (.int ww), .val (.long mm), .second, .val (.long ii), .second, .val (.ref b39), .unset] [(.int (XT.cmpL (own_getv G51 (Y0 + 2 * w) mk) (qc &&& mm)))]))
  have hc125 : (own_getv G51 (Y0 + 2 * w) mk) = (qc &&& mm) := (own_chk (w := w) hmk (fun k hk => by
      rw [Int64.toBitVec_and, BitVec.getLsbD_and, hmm k hk, Bool.and_comm]
      by_cases kw : k < w
      · rw [hG51, if_pos (by omega)]
        rw [show (Y0 + 2 * w) + k - (Y0 + 2 * w) = k by omega]
      · simp [kw]))
  refine own_by (fun _ k => XS.ifNo X56.here hx rfl (hb hby at_125) rfl (XT.ll_ne_f hc125) k) ?_
  show own_G _ _ _ _ _ _ _ (T56.setTop (mkF m 128 #[.val (.int p0), .val (.int p1), .val (.long qa), .second, .val (.long qb), .second, .val (.long qc), .second, .val (.int ww), .val (.long mm), .second, .val (.long ii), .second, .val (.ref b39), .unset] []))
  refine own_by (fun _ k => XS.aload X56.here hx rfl (hb hby at_128) rfl rfl k) ?_
  show own_G _ _ _ _ _ _ _ (T56.setTop (mkF m 130 #[.val (.int p0), .val (.int p1), .val (.long qa), .second, .val (.long qb), .second, .val (.long qc), .second, .val (.int ww), .val (.long mm), .second, .val (.long ii), .second, .val (.ref b39), .unset] [(.ref b39)]))
  refine own_by (fun _ k => XT.lload X56.here hx rfl (hb hby at_130) rfl  k) ?_
  show own_G _ _ _ _ _ _ _ (T56.setTop (mkF m 132 #[.val (.int p0), .val (.int p1), .val (.long qa), .second, .val (.long qb), .second, .val (.long qc), .second, .val (.int ww), .val (.long mm), .second, .val (.long ii), .second, .val (.ref b39), .unset] [(.long ii), (.ref b39)]))
  refine own_by (X56.ldc2Long hx hown (mvT hZ (hw _ (List.mem_of_getElem? (i := 43) rfl))) (g := (mkF m 132 #[.val (.int p0), .val (.int p1), .val (.long qa), .second, .val (.long qb), .second, .val (.long qc), .second, .val (.int ww), .val (.long mm), .second, .val (.long ii), .second, .val (.ref b39), .unset] [(.long ii), (.ref b39)])) rfl (hb hby at_132)) ?_
  show own_G _ _ _ _ _ _ _ (T56.setTop (mkF m 135 #[.val (.int p0), .val (.int p1), .val (.long qa), .second, .val (.long qb), .second, .val (.long qc), .second, .val (.int ww), .val (.long mm), .second, .val (.long ii), .second, .val (.ref b39), .unset] [(.long (3 : Int64)), (.long ii), (.ref b39)]))
  refine own_by (fun _ k => XT.ladd X56.here hx rfl (hb hby at_135) rfl k) ?_
  show own_G _ _ _ _ _ _ _ (T56.setTop (mkF m 136 #[.val (.int p0), .val (.int p1), .val (.long qa), .second, .val (.long qb), .second, .val (.long qc), .second, .val (.int ww), .val (.long mm), .second, .val (.long ii), .second, .val (.ref b39), .unset] [(.long (ii + (3 : Int64))), (.ref b39)]))
  obtain ⟨cq57, kq57, q57a, q57b, q57c⟩ := isOf hZ e56 F52_0
  obtain ⟨_, _, ⟨T57, L57, k57, n57⟩, -, X57, ⟨Lc57, hQ57, l57, y57, z57⟩, st57⟩ := X56.virtualBack hx (y := (⟨"com/example/constellate/constellate/engine/PackedArray", "get", "(J)J"⟩ : MethodName)) (z := (⟨"com/example/constellate/constellate/engine/PackedArray", "get", "(J)J"⟩ : MethodName)) hown (mvT hZ (hw _ (List.mem_of_getElem? (i := 38) rfl))) (mvT hZ (hw _ (List.mem_of_getElem? (i := 39) rfl))) (notFace_of_selects (args := #[]) (mvT hZ (hw _ (List.mem_of_getElem? (i := 41) rfl)))) (mvT hZ (hw _ (List.mem_of_getElem? (i := 41) rfl))) (mvT hZ (hw _ (List.mem_of_getElem? (i := 40) rfl))) (by decide) (backOf (W := 0) (rm6 l Z aw hw [] b39 (ii + (3 : Int64)) ar ww mk G51 w (Y0 + 3 * w) ((72 * w + 63) / 64 + 1) h51 n0 Z53 F52_1 F52_2 F52_3 VA51 hww hw64 hmk (own_prod hi3 hww hX3) (by omega) (by omega)) hZ (hw _ (List.mem_of_getElem? (i := 42) rfl)) (hw _ (List.mem_of_getElem? (i := 4) rfl)) (by decide) (by decide)) q57a q57c (g := (mkF m 136 #[.val (.int p0), .val (.int p1), .val (.long qa), .second, .val (.long qb), .second, .val (.long qc), .second, .val (.int ww), .val (.long mm), .second, .val (.long ii), .second, .val (.ref b39), .unset] [(.long (ii + (3 : Int64))), (.ref b39)])) rfl (by rw [hml]; rfl) (Steps.refl _) (argsL := [(.long (ii + (3 : Int64)))]) (rest := []) (lenOf own_pd0 rfl) rfl (by show 2 * 0 + _ ≤ _; exact Nat.le_of_eq rfl) (hb hby at_136) (fun _ _ => ⟨rfl, e56, (by decide : 2 + 0 ≤ _), (by decide : 76 + 0 ≤ _)⟩)
  dsimp only [Pt.U, Pt.locs, Pt.cells, Pt.slots] at X57 l57 y57 z57 st57 hQ57
  subst l57 y57 z57
  obtain ⟨rfl, Nq57, e57⟩ := hQ57
  have N57 := Fr.app N56 Nq57
  refine own_by (fun _ k => st57.trans k) ?_
  show own_G _ _ _ _ _ _ _ (T57.setTop (mkF m 139 #[.val (.int p0), .val (.int p1), .val (.long qa), .second, .val (.long qb), .second, .val (.long qc), .second, .val (.int ww), .val (.long mm), .second, .val (.long ii), .second, .val (.ref b39), .unset] [(.long (own_getv G51 (Y0 + 3 * w) mk))]))
  refine own_by (fun _ k => XT.lconst X57.here hx rfl (hb hby at_139) k) ?_
  show own_G _ _ _ _ _ _ _ (T57.setTop (mkF m 140 #[.val (.int p0), .val (.int p1), .val (.long qa), .second, .val (.long qb), .second, .val (.long qc), .second, .val (.int ww), .val (.long mm), .second, .val (.long ii), .second, .val (.ref b39), .unset] [(.long (0 : Int64)), (.long (own_getv G51 (Y0 + 3 * w) mk))]))
  refine own_by (fun _ k => XT.lcmp X57.here hx rfl (hb hby at_140) rfl k) ?_
  show own_G _ _ _ _ _ _ _ (T57.setTop (mkF m 141 #[.val (.int p0), .val (.int p1), .val (.long qa), .second, .val (.long qb), .second, .val (.long qc), .second, .val (.int ww), .val (.long mm), .second, .val (.long ii), .second, .val (.ref b39), .unset] [(.int (XT.cmpL (own_getv G51 (Y0 + 3 * w) mk) (0 : Int64)))]))
  have hc141 : (own_getv G51 (Y0 + 3 * w) mk) = (0 : Int64) := (own_chk (w := w) hmk (fun k hk => by
      by_cases kw : k < w
      · rw [hG51, if_neg (by omega)]; rw [hG48, if_neg (by omega)]; rw [hG45, if_neg (by omega)]
        simp [own_at]
      · simp [kw]))
  refine own_by (fun _ k => XS.ifNo X57.here hx rfl (hb hby at_141) rfl (XT.ll_ne_f hc141) k) ?_
  show own_G _ _ _ _ _ _ _ (T57.setTop (mkF m 144 #[.val (.int p0), .val (.int p1), .val (.long qa), .second, .val (.long qb), .second, .val (.long qc), .second, .val (.int ww), .val (.long mm), .second, .val (.long ii), .second, .val (.ref b39), .unset] []))
  refine own_by (fun _ k => XS.iconst X57.here hx rfl (hb hby at_144) k) ?_
  show own_G _ _ _ _ _ _ _ (T57.setTop (mkF m 145 #[.val (.int p0), .val (.int p1), .val (.long qa), .second, .val (.long qb), .second, .val (.long qc), .second, .val (.int ww), .val (.long mm), .second, .val (.long ii), .second, .val (.ref b39), .unset] [(.int (1 : Int32))]))
  refine own_by (fun _ k => XS.goto X57.here hx rfl (pc0 := 145) (pc' := 149) rfl (hb hby at_145) (by decide) (by decide) k) ?_
  show own_G _ _ _ _ _ _ _ (T57.setTop (mkF m 149 #[.val (.int p0), .val (.int p1), .val (.long qa), .second, .val (.long qb), .second, .val (.long qc), .second, .val (.int ww), .val (.long mm), .second, .val (.long ii), .second, .val (.ref b39), .unset] [(.int (1 : Int32))]))
  refine own_by (fun _ k => XS.istore X57.here hx rfl (hb hby at_149) rfl (l' := #[.val (.int p0), .val (.int p1), .val (.long qa), .second, .val (.long qb), .second, .val (.long qc), .second, .val (.int ww), .val (.long mm), .second, .val (.long ii), .second, .val (.ref b39), .val (.int (1 : Int32))]) rfl k) ?_
  have J184 : ∀ (Tj58 : State) (lj58 : List Loc) (Xj58 : Stand p l e room_1 s m #[(.int p0), (.int p1), (.long qa), (.long qb), (.long qc)] below meth c Tj58 lj58 2 76) (Nj58 : Fr n0 lj58) (ej58 : Tj58.heap = h51), own_G p.tables e below s (own_Q0 Z p0 p1 qa qb qc h0 n0) room_1.cells room_1.slots (Tj58.setTop (mkF m 184 #[.val (.int p0), .val (.int p1), .val (.long qa), .second, .val (.long qb), .second, .val (.long qc), .second, .val (.int ww), .val (.long mm), .second, .val (.long ii), .second, .val (.ref b39), .val (.int (1 : Int32))] [])) := by
    intro Tj58 lj58 Xj58 Nj58 ej58
    show own_G _ _ _ _ _ _ _ (Tj58.setTop (mkF m 184 #[.val (.int p0), .val (.int p1), .val (.long qa), .second, .val (.long qb), .second, .val (.long qc), .second, .val (.int ww), .val (.long mm), .second, .val (.long ii), .second, .val (.ref b39), .val (.int (1 : Int32))] []))
    refine own_by (fun _ k => XS.iload Xj58.here hx rfl (hb hby at_184) rfl  k) ?_
    show own_G _ _ _ _ _ _ _ (Tj58.setTop (mkF m 186 #[.val (.int p0), .val (.int p1), .val (.long qa), .second, .val (.long qb), .second, .val (.long qc), .second, .val (.int ww), .val (.long mm), .second, .val (.long ii), .second, .val (.ref b39), .val (.int (1 : Int32))] [(.int (1 : Int32))]))
    exact own_end Xj58 (v := some (.int (nar .boolean (1 : Int32)))) (fun h => by rw [Bd.returns] at h; cases h) (BodyLoose.notSynchronized Bd) (fun fs hr => retN Xj58 hx (t := .boolean) Bd.returns (by simp) (hb hby at_186) hr) (by rw [ej58]; exact ⟨rfl, Nj58⟩) (by decide) (by decide)
  show own_G _ _ _ _ _ _ _ (T57.setTop (mkF m 151 #[.val (.int p0), .val (.int p1), .val (.long qa), .second, .val (.long qb), .second, .val (.long qc), .second, .val (.int ww), .val (.long mm), .second, .val (.long ii), .second, .val (.ref b39), .val (.int (1 : Int32))] []))
  refine own_by (fun _ k => XT.lload X57.here hx rfl (hb hby at_151) rfl  k) ?_
  show own_G _ _ _ _ _ _ _ (T57.setTop (mkF m 153 #[.val (.int p0), .val (.int p1), .val (.long qa), .second, .val (.long qb), .second, .val (.long qc), .second, .val (.int ww), .val (.long mm), .second, .val (.long ii), .second, .val (.ref b39), .val (.int (1 : Int32))] [(.long ii)]))
  refine own_by (fun _ k => XT.lconst X57.here hx rfl (hb hby at_153) k) ?_
  show own_G _ _ _ _ _ _ _ (T57.setTop (mkF m 154 #[.val (.int p0), .val (.int p1), .val (.long qa), .second, .val (.long qb), .second, .val (.long qc), .second, .val (.int ww), .val (.long mm), .second, .val (.long ii), .second, .val (.ref b39), .val (.int (1 : Int32))] [(.long (0 : Int64)), (.long ii)]))
  refine own_by (fun _ k => XT.lcmp X57.here hx rfl (hb hby at_154) rfl k) ?_
  show own_G _ _ _ _ _ _ _ (T57.setTop (mkF m 155 #[.val (.int p0), .val (.int p1), .val (.long qa), .second, .val (.long qb), .second, .val (.long qc), .second, .val (.int ww), .val (.long mm), .second, .val (.long ii), .second, .val (.ref b39), .val (.int (1 : Int32))] [(.int (XT.cmpL ii (0 : Int64)))]))
  by_cases hc155 : (0 : Int64) < ii
  · refine own_by (fun _ k => XS.ifNo X57.here hx rfl (hb hby at_155) rfl (XT.ll_le_f hc155) k) ?_
    show own_G _ _ _ _ _ _ _ (T57.setTop (mkF m 158 #[.val (.int p0), .val (.int p1), .val (.long qa), .second, .val (.long qb), .second, .val (.long qc), .second, .val (.int ww), .val (.long mm), .second, .val (.long ii), .second, .val (.ref b39), .val (.int (1 : Int32))] []))
    have hI1 : 1 ≤ I := by rw [Int64.lt_iff_toInt_lt, hii, show (0 : Int64).toInt = 0 by decide] at hc155; omega
    have hXge : w ≤ Y0 := by rw [← hX0]; exact Nat.le_mul_of_pos_left w (by omega)
    refine own_by (fun _ k => XS.iload X57.here hx rfl (hb hby at_158) rfl  k) ?_
    show own_G _ _ _ _ _ _ _ (T57.setTop (mkF m 160 #[.val (.int p0), .val (.int p1), .val (.long qa), .second, .val (.long qb), .second, .val (.long qc), .second, .val (.int ww), .val (.long mm), .second, .val (.long ii), .second, .val (.ref b39), .val (.int (1 : Int32))] [(.int (1 : Int32))]))
    have hc160 : ¬ ((1 : Int32) = (0 : Int32)) := (by decide)
    refine own_by (fun _ k => XS.ifNo X57.here hx rfl (hb hby at_160) rfl (XT.i0_eq_f hc160) k) ?_
    show own_G _ _ _ _ _ _ _ (T57.setTop (mkF m 163 #[.val (.int p0), .val (.int p1), .val (.long qa), .second, .val (.long qb), .second, .val (.long qc), .second, .val (.int ww), .val (.long mm), .second, .val (.long ii), .second, .val (.ref b39), .val (.int (1 : Int32))] []))
    refine own_by (fun _ k => XS.aload X57.here hx rfl (hb hby at_163) rfl rfl k) ?_
    show own_G _ _ _ _ _ _ _ (T57.setTop (mkF m 165 #[.val (.int p0), .val (.int p1), .val (.long qa), .second, .val (.long qb), .second, .val (.long qc), .second, .val (.int ww), .val (.long mm), .second, .val (.long ii), .second, .val (.ref b39), .val (.int (1 : Int32))] [(.ref b39)]))
    refine own_by (fun _ k => XT.lload X57.here hx rfl (hb hby at_165) rfl  k) ?_
    show own_G _ _ _ _ _ _ _ (T57.setTop (mkF m 167 #[.val (.int p0), .val (.int p1), .val (.long qa), .second, .val (.long qb), .second, .val (.long qc), .second, .val (.int ww), .val (.long mm), .second, .val (.long ii), .second, .val (.ref b39), .val (.int (1 : Int32))] [(.long ii), (.ref b39)]))
    refine own_by (fun _ k => XT.lconst X57.here hx rfl (hb hby at_167) k) ?_
    show own_G _ _ _ _ _ _ _ (T57.setTop (mkF m 168 #[.val (.int p0), .val (.int p1), .val (.long qa), .second, .val (.long qb), .second, .val (.long qc), .second, .val (.int ww), .val (.long mm), .second, .val (.long ii), .second, .val (.ref b39), .val (.int (1 : Int32))] [(.long (1 : Int64)), (.long ii), (.ref b39)]))
    refine own_by (fun _ k => XT.lsub X57.here hx rfl (hb hby at_168) rfl k) ?_
    show own_G _ _ _ _ _ _ _ (T57.setTop (mkF m 169 #[.val (.int p0), .val (.int p1), .val (.long qa), .second, .val (.long qb), .second, .val (.long qc), .second, .val (.int ww), .val (.long mm), .second, .val (.long ii), .second, .val (.ref b39), .val (.int (1 : Int32))] [(.long (ii - (1 : Int64))), (.ref b39)]))
    obtain ⟨cq59, kq59, q59a, q59b, q59c⟩ := isOf hZ e57 F52_0
    obtain ⟨_, _, ⟨T59, L59, k59, n59⟩, -, X59, ⟨Lc59, hQ59, l59, y59, z59⟩, st59⟩ := X57.virtualBack hx (y := (⟨"com/example/constellate/constellate/engine/PackedArray", "get", "(J)J"⟩ : MethodName)) (z := (⟨"com/example/constellate/constellate/engine/PackedArray", "get", "(J)J"⟩ : MethodName)) hown (mvT hZ (hw _ (List.mem_of_getElem? (i := 38) rfl))) (mvT hZ (hw _ (List.mem_of_getElem? (i := 39) rfl))) (notFace_of_selects (args := #[]) (mvT hZ (hw _ (List.mem_of_getElem? (i := 41) rfl)))) (mvT hZ (hw _ (List.mem_of_getElem? (i := 41) rfl))) (mvT hZ (hw _ (List.mem_of_getElem? (i := 40) rfl))) (by decide) (backOf (W := 0) (rm6 l Z aw hw [] b39 (ii - (1 : Int64)) ar ww mk G51 w (Y0 - w) ((72 * w + 63) / 64 + 1) h51 n0 Z53 F52_1 F52_2 F52_3 VA51 hww hw64 hmk (own_prod (own_subJ hii (show (1 : Int64).toInt = (1 : Nat) by decide) hI1 (by omega)) hww (by rw [Nat.sub_mul, hX0, Nat.one_mul])) (by omega) (by omega)) hZ (hw _ (List.mem_of_getElem? (i := 42) rfl)) (hw _ (List.mem_of_getElem? (i := 4) rfl)) (by decide) (by decide)) q59a q59c (g := (mkF m 169 #[.val (.int p0), .val (.int p1), .val (.long qa), .second, .val (.long qb), .second, .val (.long qc), .second, .val (.int ww), .val (.long mm), .second, .val (.long ii), .second, .val (.ref b39), .val (.int (1 : Int32))] [(.long (ii - (1 : Int64))), (.ref b39)])) rfl (by rw [hml]; rfl) (Steps.refl _) (argsL := [(.long (ii - (1 : Int64)))]) (rest := []) (lenOf own_pd0 rfl) rfl (by show 2 * 0 + _ ≤ _; exact Nat.le_of_eq rfl) (hb hby at_169) (fun _ _ => ⟨rfl, e57, (by decide : 2 + 0 ≤ _), (by decide : 76 + 0 ≤ _)⟩)
    dsimp only [Pt.U, Pt.locs, Pt.cells, Pt.slots] at X59 l59 y59 z59 st59 hQ59
    subst l59 y59 z59
    obtain ⟨rfl, Nq59, e59⟩ := hQ59
    have N59 := Fr.app N57 Nq59
    refine own_by (fun _ k => st59.trans k) ?_
    show own_G _ _ _ _ _ _ _ (T59.setTop (mkF m 172 #[.val (.int p0), .val (.int p1), .val (.long qa), .second, .val (.long qb), .second, .val (.long qc), .second, .val (.int ww), .val (.long mm), .second, .val (.long ii), .second, .val (.ref b39), .val (.int (1 : Int32))] [(.long (own_getv G51 (Y0 - w) mk))]))
    refine own_by (fun _ k => XT.lconst X59.here hx rfl (hb hby at_172) k) ?_
    show own_G _ _ _ _ _ _ _ (T59.setTop (mkF m 173 #[.val (.int p0), .val (.int p1), .val (.long qa), .second, .val (.long qb), .second, .val (.long qc), .second, .val (.int ww), .val (.long mm), .second, .val (.long ii), .second, .val (.ref b39), .val (.int (1 : Int32))] [(.long (0 : Int64)), (.long (own_getv G51 (Y0 - w) mk))]))
    refine own_by (fun _ k => XT.lcmp X59.here hx rfl (hb hby at_173) rfl k) ?_
    show own_G _ _ _ _ _ _ _ (T59.setTop (mkF m 174 #[.val (.int p0), .val (.int p1), .val (.long qa), .second, .val (.long qb), .second, .val (.long qc), .second, .val (.int ww), .val (.long mm), .second, .val (.long ii), .second, .val (.ref b39), .val (.int (1 : Int32))] [(.int (XT.cmpL (own_getv G51 (Y0 - w) mk) (0 : Int64)))]))
    have hc174 : (own_getv G51 (Y0 - w) mk) = (0 : Int64) := (own_chk (w := w) hmk (fun k hk => by
      by_cases kw : k < w
      · rw [hG51, if_neg (by omega)]; rw [hG48, if_neg (by omega)]; rw [hG45, if_neg (by omega)]
        simp [own_at]
      · simp [kw]))
    refine own_by (fun _ k => XS.ifNo X59.here hx rfl (hb hby at_174) rfl (XT.ll_ne_f hc174) k) ?_
    show own_G _ _ _ _ _ _ _ (T59.setTop (mkF m 177 #[.val (.int p0), .val (.int p1), .val (.long qa), .second, .val (.long qb), .second, .val (.long qc), .second, .val (.int ww), .val (.long mm), .second, .val (.long ii), .second, .val (.ref b39), .val (.int (1 : Int32))] []))
    refine own_by (fun _ k => XS.iconst X59.here hx rfl (hb hby at_177) k) ?_
    show own_G _ _ _ _ _ _ _ (T59.setTop (mkF m 178 #[.val (.int p0), .val (.int p1), .val (.long qa), .second, .val (.long qb), .second, .val (.long qc), .second, .val (.int ww), .val (.long mm), .second, .val (.long ii), .second, .val (.ref b39), .val (.int (1 : Int32))] [(.int (1 : Int32))]))
    refine own_by (fun _ k => XS.goto X59.here hx rfl (pc0 := 178) (pc' := 182) rfl (hb hby at_178) (by decide) (by decide) k) ?_
    show own_G _ _ _ _ _ _ _ (T59.setTop (mkF m 182 #[.val (.int p0), .val (.int p1), .val (.long qa), .second, .val (.long qb), .second, .val (.long qc), .second, .val (.int ww), .val (.long mm), .second, .val (.long ii), .second, .val (.ref b39), .val (.int (1 : Int32))] [(.int (1 : Int32))]))
    refine own_by (fun _ k => XS.istore X59.here hx rfl (hb hby at_182) rfl (l' := #[.val (.int p0), .val (.int p1), .val (.long qa), .second, .val (.long qb), .second, .val (.long qc), .second, .val (.int ww), .val (.long mm), .second, .val (.long ii), .second, .val (.ref b39), .val (.int (1 : Int32))]) rfl k) ?_
    exact J184 T59 _ X59 N59 e59 
  · refine own_by (fun _ k => XS.ifYes X57.here hx rfl (pc0 := 155) (pc' := 184) rfl (hb hby at_155) rfl (XT.ll_le_t hc155) (by decide) (by decide) k) ?_
    exact J184 T57 _ X57 N57 e57 
set_option maxRecDepth 65536 in
set_option maxHeartbeats 40000000 in
theorem comes_1 {Post : Tables → Env → Array Value → State → Outcome → State → Prop} (hpost : ∀ tb e args s v u, (limb_1_1.after args s (.returned v) u = true ∧ limb_1_2.after args s (.returned v) u = true ∧ True) → FrameEnd s (.returned v) u (Jvm.fieldLocs frame_1_writes args s ++ Jvm.arrayLocs frame_1_arrays args s ++ Jvm.staticLocs frame_1_statics s) 16 256 → Post tb e args s (.returned v) u) :
    ArmFor flags0 classFile x code maxLocals ret World_1 tables_1 room_1 Calls_1 rest_1 Pre_1 Post := by
  intro l hfl _ _ p e ha hc hk s m args below hf hA hF happ hP
  obtain ⟨hcalls, hrest, hpre⟩ := hP
  obtain ⟨-, -, -, hnamed, -, -, -, hat⟩ := (Spec.applies_iff hf).mp happ
  obtain ⟨hg, hn⟩ := and_e (Cond.before_iff.mp (show (Jvm.Cond.and given_1 narrow_1).before args s = true from hpre))
  obtain ⟨gc, hg⟩ := and_e hg
  obtain ⟨g0, hg⟩ := and_e hg
  obtain ⟨g1, hg⟩ := and_e hg
  obtain ⟨g2, hg⟩ := and_e hg
  obtain ⟨g3, hg⟩ := and_e hg
  have g4 := hg
  obtain ⟨w0, w1, w2, w3, w4, rfl⟩ : ∃ w0 w1 w2 w3 w4 : Value, args = #[w0, w1, w2, w3, w4] := by
    have hs : args.size = 5 := by simpa [Cond.value, given_1] using gc
    obtain ⟨L⟩ := args
    match L, hs with
    | [w0, w1, w2, w3, w4], _ => exact ⟨w0, w1, w2, w3, w4, rfl⟩
  have hw := fun d (hd : d ∈ tables_1) => atoms_spec (ws := Jvm.Cond.code x code maxLocals ret :: tables_1) hat d (List.mem_cons_of_mem _ hd)
  obtain ⟨i0, ei0⟩ := is_v g0
  obtain rfl : w0 = (.int i0) := Option.some.inj ei0
  obtain ⟨i1, ei1⟩ := is_v g1
  obtain rfl : w1 = (.int i1) := Option.some.inj ei1
  obtain ⟨i2, ei2⟩ := isL_v g2
  obtain rfl : w2 = (.long i2) := Option.some.inj ei2
  obtain ⟨i3, ei3⟩ := isL_v g3
  obtain rfl : w3 = (.long i3) := Option.some.inj ei3
  obtain ⟨i4, ei4⟩ := isL_v g4
  obtain rfl : w4 = (.long i4) := Option.some.inj ei4
  obtain ⟨n, o, h1, h2, h3, _, L, rfl, ⟨rfl, N⟩, hq⟩ := rm0 l s _ hw tables_1 i0 i1 i2 i3 i4  s.heap s.heap.size (Nat.le_refl _)  p e ha hc hk s m _ below hf ((Spec.applies_iff_loose hf).mp happ).1 ⟨rfl, State.Warmed39.refl s, rfl⟩ trivial
  refine ⟨n, _, h1, h2, h3, hpost _ _ _ _ _ _ ⟨Cond.after_iff.mpr rfl, Cond.after_iff.mpr (eq_i res_at (Term.int_eval (1)) rfl), trivial⟩ ⟨hq.1, hq.2.1, (hq.2.2.sift fun y hy => Or.inr (N y hy)).mono (by decide) (by decide)⟩⟩
theorem main_1_1 : Claimed_1_1 := comes_1 fun _ _ _ _ _ _ h hF => ⟨h.1, hF⟩
theorem main_1_2 : Claimed_1_2 := comes_1 fun _ _ _ _ _ _ h hF => ⟨h.2.1, hF⟩
end Jvm.Pilot.@@N@@
namespace Jvm.Pilot.@@N@@
open Jvm Jvm.ClassFile Sem Op Lib Jvm.Free Jvm.Stand Jvm.Pilot.@@N@@.Jvm.D
/-! MADE BY PROGRAM (witnessworld.py) out of the Statement's table words and the real class files: 12 classes; the members and pool entries that the words name. The judged class is class 1, her method 1. -/
namespace start1
open Jvm.ClassFile
def u (s : String) : CpInfo := .utf8 (stringToUtf16 s)
/-- a pool by its gaps: so many unusable entries, then the entry; so many at the end -/
def gap : Nat → List CpInfo → List CpInfo
  | 0, r => r
  | n + 1, r => .unusable :: gap n r
def poolList (es : List (Nat × CpInfo)) (last : Nat) : List CpInfo := es.foldr (fun e r => gap e.1 (e.2 :: r)) (gap last [])
def pool (es : List (Nat × CpInfo)) (last : Nat) : Array CpInfo := ⟨poolList es last⟩
def fileOf (pool : Array CpInfo) (this : Nat) (attrs : Array Attribute := #[]) (ms : Array MethodInfo := #[]) (fl : Nat := 33) (sup : Nat := 0) (ifs : Array Nat := #[]) (fds : Array FieldInfo := #[]) : ClassFile where
  minorVersion := 0
  majorVersion := 65
  constantPool := pool
  accessFlags := fl
  thisClass := this
  superClass := sup
  interfaces := ifs
  fields := fds
  methods := ms
  attributes := attrs
def plain (name : String) (sup : Option ClassId) : Class where
  name := name
  kind := .ordinary
  loader := none
  accessFlags := 33
  super := sup
  interfaces := #[]
  cf := none
  fields := #[]
  methods := #[]
  instanceTypes := #[]
  staticTypes := #[]
  resolved := #[]
  callSites := []
  init := .initialized
  statics := none
  mirror := none

def pool0 : Array CpInfo := pool [(5, u "<init>"), (0, u "()V"), (1, .class_ 10), (1, u "java/lang/Object")] 113

def k0c0 : Code := { maxStack := 0, maxLocals := 1, code := object_method_1_code, exceptionTable := #[], attributes := #[] }
def k0m0 : Method := { name := "<init>", desc := "()V", sig := { parameters := [], returnType := none }, accessFlags := 1, code := some k0c0 }
/-- java/lang/Object -/
def k0 : Class := { plain "java/lang/Object" none with
  accessFlags := 33
  interfaces := #[]
  cf := some (fileOf pool0 8 #[] #[{ accessFlags := 1, nameIndex := 5, descriptorIndex := 6, attributes := #[] }] 33 0 #[] #[])
  fields := #[]
  methods := #[k0m0]
  instanceTypes := #[]
  staticTypes := #[]
  resolved := Array.replicate 124 none
  statics := none }

def pool1 : Array CpInfo := pool [(2, .class_ 4), (1, u "java/lang/Object"), (0, u "<init>"), (0, u "()V"), (0, .long 18446744073709551615), (1, .integer 2147483647), (0, .class_ 11), (0, u "com/example/constellate/constellate/engine/PackedArray"), (0, .long 72), (1, .methodref 10 15), (0, .nameAndType 5 16), (0, u "(JI)V"), (0, .methodref 10 18), (0, .nameAndType 19 20), (0, u "set"), (0, u "(JJ)V"), (0, .long 2), (1, .methodref 10 24), (0, .nameAndType 25 26), (0, u "get"), (0, u "(J)J"), (0, .long 3), (1, .class_ 30), (0, u "com/example/constellate/constellate/engine/PackedArrayGetPinLaw"), (2, u "law"), (0, u "(IIJJJ)Z")] 3

def k1m0 : Method := { name := "<init>", desc := "()V", sig := { parameters := [], returnType := none }, accessFlags := 1, code := none }
def k1c1 : Code := { maxStack := 6, maxLocals := 15, code := code, exceptionTable := #[], attributes := #[] }
def k1m1 : Method := { name := "law", desc := "(IIJJJ)Z", sig := { parameters := [.int, .int, .long, .long, .long], returnType := some .boolean }, accessFlags := 9, code := some k1c1 }
/-- com/example/constellate/constellate/engine/PackedArrayGetPinLaw -/
def k1 : Class := { plain "com/example/constellate/constellate/engine/PackedArrayGetPinLaw" (some 0) with
  accessFlags := 49
  interfaces := #[]
  cf := some (fileOf pool1 29 #[] #[{ accessFlags := 1, nameIndex := 5, descriptorIndex := 6, attributes := #[] }, { accessFlags := 9, nameIndex := 33, descriptorIndex := 34, attributes := #[] }] 49 2 #[] #[])
  fields := #[]
  methods := #[k1m0, k1m1]
  instanceTypes := #[]
  staticTypes := #[]
  resolved := Array.replicate 38 none
  statics := none }

def pool2 : Array CpInfo := pool [(1, .methodref 2 3), (0, .class_ 4), (0, .nameAndType 5 6), (0, u "java/lang/Object"), (0, u "<init>"), (0, u "()V"), (11, .methodref 19 20), (0, .class_ 21), (0, .nameAndType 22 23), (0, u "java/lang/Math"), (0, u "multiplyExact"), (0, u "(JI)J"), (0, .long 64), (3, .long 2147483639), (4, .fieldref 34 35), (0, .class_ 36), (0, .nameAndType 37 38), (0, u "com/example/constellate/constellate/engine/PackedArray"), (0, u "words"), (0, u "[J"), (0, .fieldref 34 40), (0, .nameAndType 41 42), (0, u "width"), (0, u "I"), (0, .long 18446744073709551615), (1, .fieldref 34 46), (0, .nameAndType 47 48), (0, u "mask"), (0, u "J"), (0, u "(JI)V"), (3, u "get"), (0, u "(J)J"), (0, u "set"), (0, u "(JJ)V")] 19

def k2c0 : Code := { maxStack := 5, maxLocals := 6, code := prog_37_method_1_code, exceptionTable := #[], attributes := #[] }
def k2m0 : Method := { name := "<init>", desc := "(JI)V", sig := { parameters := [.long, .int], returnType := none }, accessFlags := 0, code := some k2c0 }
def k2c1 : Code := { maxStack := 6, maxLocals := 9, code := prog_37_method_2_code, exceptionTable := #[], attributes := #[] }
def k2m1 : Method := { name := "get", desc := "(J)J", sig := { parameters := [.long], returnType := some .long }, accessFlags := 0, code := some k2c1 }
def k2c2 : Code := { maxStack := 8, maxLocals := 10, code := prog_37_method_3_code, exceptionTable := #[], attributes := #[] }
def k2m2 : Method := { name := "set", desc := "(JJ)V", sig := { parameters := [.long, .long], returnType := none }, accessFlags := 0, code := some k2c2 }
/-- com/example/constellate/constellate/engine/PackedArray -/
def k2 : Class := { plain "com/example/constellate/constellate/engine/PackedArray" (some 0) with
  accessFlags := 48
  interfaces := #[]
  cf := some (fileOf pool2 34 #[] #[{ accessFlags := 0, nameIndex := 5, descriptorIndex := 49, attributes := #[] }, { accessFlags := 0, nameIndex := 53, descriptorIndex := 54, attributes := #[] }, { accessFlags := 0, nameIndex := 55, descriptorIndex := 56, attributes := #[] }] 48 2 #[] #[{ accessFlags := 18, nameIndex := 37, descriptorIndex := 38, attributes := #[] }, { accessFlags := 18, nameIndex := 41, descriptorIndex := 42, attributes := #[] }, { accessFlags := 18, nameIndex := 47, descriptorIndex := 48, attributes := #[] }])
  fields := #[{ name := "words", type := (.array .long), accessFlags := 18, slot := 0, constantValue := 0 }, { name := "width", type := .int, accessFlags := 18, slot := 1, constantValue := 0 }, { name := "mask", type := .long, accessFlags := 18, slot := 2, constantValue := 0 }]
  methods := #[k2m0, k2m1, k2m2]
  instanceTypes := #[(.array .long), .int, .long]
  staticTypes := #[]
  resolved := Array.replicate 76 none
  statics := none }

def pool3 : Array CpInfo := pool [(1, .class_ 2), (0, u "java/lang/Math"), (1, .class_ 6), (1, u "java/lang/Object"), (0, u "<init>"), (0, u "()V"), (89, .class_ 100), (1, u "java/lang/Math$RandomNumberGeneratorHolder"), (17, .methodref 1 119), (0, .nameAndType 120 121), (0, u "multiplyExact"), (0, u "(JJ)J"), (0, .methodref 1 123), (0, .nameAndType 124 125), (0, u "abs"), (0, u "(J)J"), (46, u "negativeZeroFloatBits"), (0, u "J"), (2, u "negativeZeroDoubleBits"), (68, u "$assertionsDisabled"), (0, u "Z"), (91, u "twoToTheDoubleScaleDown"), (0, u "D"), (4, u "twoToTheDoubleScaleUp"), (9, u "E"), (3, u "PI"), (2, u "TAU"), (2, u "DEGREES_TO_RADIANS"), (0, u "RADIANS_TO_DEGREES"), (29, u "(JI)J")] 64

def k3m0 : Method := { name := "<init>", desc := "()V", sig := { parameters := [], returnType := none }, accessFlags := 2, code := none }
def k3c1 : Code := { maxStack := 4, maxLocals := 3, code := jdk_29_method_29_code, exceptionTable := #[], attributes := #[] }
def k3m1 : Method := { name := "multiplyExact", desc := "(JI)J", sig := { parameters := [.long, .int], returnType := some .long }, accessFlags := 9, code := some k3c1 }
def k3c2 : Code := { maxStack := 4, maxLocals := 10, code := jdk_29_method_30_code, exceptionTable := #[], attributes := #[] }
def k3m2 : Method := { name := "multiplyExact", desc := "(JJ)J", sig := { parameters := [.long, .long], returnType := some .long }, accessFlags := 9, code := some k3c2 }
def k3c3 : Code := { maxStack := 4, maxLocals := 2, code := jdk_29_method_61_code, exceptionTable := #[], attributes := #[] }
def k3m3 : Method := { name := "abs", desc := "(J)J", sig := { parameters := [.long], returnType := some .long }, accessFlags := 9, code := some k3c3 }
/-- java/lang/Math -/
def k3 : Class := { plain "java/lang/Math" (some 0) with
  accessFlags := 49
  interfaces := #[]
  cf := some (fileOf pool3 1 #[.nestMembers #[98]] #[{ accessFlags := 2, nameIndex := 7, descriptorIndex := 8, attributes := #[] }, { accessFlags := 9, nameIndex := 120, descriptorIndex := 395, attributes := #[] }, { accessFlags := 9, nameIndex := 120, descriptorIndex := 121, attributes := #[] }, { accessFlags := 9, nameIndex := 124, descriptorIndex := 125, attributes := #[] }] 49 4 #[] #[{ accessFlags := 25, nameIndex := 354, descriptorIndex := 339, attributes := #[] }, { accessFlags := 25, nameIndex := 358, descriptorIndex := 339, attributes := #[] }, { accessFlags := 25, nameIndex := 361, descriptorIndex := 339, attributes := #[] }, { accessFlags := 26, nameIndex := 364, descriptorIndex := 339, attributes := #[] }, { accessFlags := 26, nameIndex := 365, descriptorIndex := 339, attributes := #[] }, { accessFlags := 26, nameIndex := 172, descriptorIndex := 173, attributes := #[] }, { accessFlags := 26, nameIndex := 176, descriptorIndex := 173, attributes := #[] }, { accessFlags := 8, nameIndex := 344, descriptorIndex := 339, attributes := #[] }, { accessFlags := 8, nameIndex := 338, descriptorIndex := 339, attributes := #[] }, { accessFlags := 4120, nameIndex := 245, descriptorIndex := 246, attributes := #[] }])
  fields := #[{ name := "E", type := .double, accessFlags := 25, slot := 0, constantValue := 0 }, { name := "PI", type := .double, accessFlags := 25, slot := 1, constantValue := 0 }, { name := "TAU", type := .double, accessFlags := 25, slot := 2, constantValue := 0 }, { name := "DEGREES_TO_RADIANS", type := .double, accessFlags := 26, slot := 3, constantValue := 0 }, { name := "RADIANS_TO_DEGREES", type := .double, accessFlags := 26, slot := 4, constantValue := 0 }, { name := "negativeZeroFloatBits", type := .long, accessFlags := 26, slot := 5, constantValue := 0 }, { name := "negativeZeroDoubleBits", type := .long, accessFlags := 26, slot := 6, constantValue := 0 }, { name := "twoToTheDoubleScaleUp", type := .double, accessFlags := 8, slot := 7, constantValue := 0 }, { name := "twoToTheDoubleScaleDown", type := .double, accessFlags := 8, slot := 8, constantValue := 0 }, { name := "$assertionsDisabled", type := .boolean, accessFlags := 4120, slot := 9, constantValue := 0 }]
  methods := #[k3m0, k3m1, k3m2, k3m3]
  instanceTypes := #[]
  staticTypes := #[.double, .double, .double, .double, .double, .long, .long, .double, .double, .boolean]
  resolved := Array.replicate 460 none
  statics := none }

def pool4 : Array CpInfo := pool [(1, u "java/lang/Cloneable"), (0, .class_ 1), (0, u "java/lang/Object"), (0, .class_ 3)] 3

/-- java/lang/Cloneable -/
def k4 : Class := { plain "java/lang/Cloneable" (some 0) with
  accessFlags := 1537
  interfaces := #[]
  cf := some (fileOf pool4 2 #[] #[] 1537 4 #[] #[])
  fields := #[]
  methods := #[]
  instanceTypes := #[]
  staticTypes := #[]
  resolved := Array.replicate 8 none
  statics := none }

def pool5 : Array CpInfo := pool [(1, u "java/io/Serializable"), (0, .class_ 1), (0, u "java/lang/Object"), (0, .class_ 3)] 3

/-- java/io/Serializable -/
def k5 : Class := { plain "java/io/Serializable" (some 0) with
  accessFlags := 1537
  interfaces := #[]
  cf := some (fileOf pool5 2 #[] #[] 1537 4 #[] #[])
  fields := #[]
  methods := #[]
  instanceTypes := #[]
  staticTypes := #[]
  resolved := Array.replicate 8 none
  statics := none }

/-- the primitive byte -/
def k6 : Class := { plain "byte" none with kind := .primitive 'B', accessFlags := 0x411 }
/-- [B -/
def k7 : Class := { plain "[B" (some 0) with kind := .array 6 .byte, interfaces := #[4, 5], accessFlags := 1041 }

/-- the primitive int -/
def k8 : Class := { plain "int" none with kind := .primitive 'I', accessFlags := 0x411 }
/-- [I -/
def k9 : Class := { plain "[I" (some 0) with kind := .array 8 .int, interfaces := #[4, 5], accessFlags := 1041 }

/-- the primitive long -/
def k10 : Class := { plain "long" none with kind := .primitive 'J', accessFlags := 0x411 }
/-- [J -/
def k11 : Class := { plain "[J" (some 0) with kind := .array 10 .long, interfaces := #[4, 5], accessFlags := 1041 }

def heap : Heap := #[]
def classes : Array Class := #[k0, k1, k2, k3, k4, k5, k6, k7, k8, k9, k10, k11]
def interned : List (Array UInt16 × Addr) := []
def slotsUsed : Nat := 0
def theMethod : MethodId := ⟨1, 1⟩
def args0 : Array Value := #[.int 5, .int 5, .long 5, .long 5, .long 5]
def aboutOver (below : List Frame) : State where
  vm := { classes := classes, interned := interned.toArray }
  heap := heap
  slotsUsed := slotsUsed
  threads := #[{ frames := .invoking theMethod args0 :: below }]
def below0 : List Frame := [.native { method := ⟨0, 0⟩, args := #[] }]
def about1 : State := aboutOver below0
def p0 : Program := .bare "" "" ""
def e0 : Env := launch0.env 0 0 0
theorem w_frames : about1.frames = Frame.invoking theMethod args0 :: below0 := rfl
set_option maxRecDepth 65536 in
theorem w_args : argsFit about1.vm theMethod args0 = true := by decide +kernel
set_option maxRecDepth 65536 in
theorem w_heap : heapFits about1 = true := by decide +kernel
set_option maxRecDepth 65536 in
theorem w_runnable : about1.curStatus? = some .runnable := by decide +kernel
set_option maxRecDepth 65536 in
theorem w_alone : about1.alone = true := by decide +kernel
set_option maxRecDepth 65536 in
theorem w_named : about1.methodNamed? x = some theMethod := by decide +kernel
set_option maxRecDepth 65536 in
theorem w_hears : about1.hears theMethod below0 = true := by decide +kernel
set_option maxRecDepth 65536 in
theorem w_ripe : about1.ripe theMethod args0 below0 = true := by decide +kernel
theorem w_running : about1.status = .running := rfl
set_option maxRecDepth 65536 in
theorem w_room : about1.hasRoom e0.platform room_1 = true :=
  launch0.hasRoom_least _ room_1 (by decide +kernel) (by decide +kernel) (by decide +kernel) (by decide +kernel) (by decide +kernel) (by decide +kernel)
theorem allAtoms_all (ts : List Jvm.Cond) (a : Array Jvm.Value) (st : Jvm.State) : (allAtoms ts).before a st = ts.all (fun c => c.before a st) := by
  induction ts with
  | nil => rfl
  | cons c t ih =>
    show (Jvm.Cond.and c (allAtoms t)).before a st = _
    rw [Jvm.Cond.before_and, ih, List.all_cons]
def words1 : List Jvm.Cond := Jvm.Cond.code x code maxLocals ret :: tables_1
/-- a 'code' word, met by the world's own term for the bytes: nothing is compared byte by byte -/
theorem code_word {y : MethodName} {bytes : ByteArray} {mx : Nat} {rt : Option FieldType} {a : Array Value} {s : State} {m : MethodId} {meth : Method} {c : Code} (h1 : s.methodNamed? y = some m) (h2 : s.vm.method? m = some meth) (h3 : meth.code = some c) (h4 : c.code = bytes)
    (h5 : (c.maxLocals == mx && c.exceptionTable.isEmpty && decide (c.maxStack ≤ mostOperands) && decide (meth.sig.returnType = rt) && !meth.locks && decide (parseMethodDescriptor y.desc = some meth.sig)) = true) : (Jvm.Cond.code y bytes mx rt).before a s = true := by
  simp only [Bool.and_eq_true, beq_iff_eq, Bool.not_eq_true', decide_eq_true_eq] at h5
  obtain ⟨⟨⟨⟨⟨g1, g2⟩, g3⟩, g4⟩, g5⟩, g6⟩ := h5
  simp [Cond.before, Cond.holds, Cond.value, h1, h2, h3, h4, g1, g2, g3, g4, g5, g6]
def isCode : Jvm.Cond → Bool
  | .code _ _ _ _ => true
  | _ => false
theorem all_split {L : List Jvm.Cond} {P : Jvm.Cond → Bool} (h1 : L.all (fun c => isCode c || P c) = true) (h2 : ∀ c ∈ L.filter isCode, P c = true) : L.all P = true := by
  refine List.all_eq_true.mpr fun c hc => ?_
  have h := List.all_eq_true.mp h1 c hc
  rcases Bool.eq_false_or_eq_true (isCode c) with hi | hi
  · exact h2 c (List.mem_filter.mpr ⟨hc, hi⟩)
  · simpa [hi] using h
set_option maxRecDepth 65536 in
theorem w_c0 : (Jvm.Cond.code x code maxLocals ret).before args0 about1 = true := code_word (m := ⟨1, 1⟩) (meth := k1m1) (c := k1c1) (by decide +kernel) rfl rfl rfl (by decide +kernel)
set_option maxRecDepth 65536 in
theorem w_c1 : (Jvm.Cond.code ({ cls := "com/example/constellate/constellate/engine/PackedArray", name := "<init>", desc := "(JI)V" } : Jvm.MethodName) prog_37_method_1_code (6 : Nat) (Option.none : Option Jvm.ClassFile.FieldType)).before args0 about1 = true := code_word (m := ⟨2, 0⟩) (meth := k2m0) (c := k2c0) (by decide +kernel) rfl rfl rfl (by decide +kernel)
set_option maxRecDepth 65536 in
theorem w_c2 : (Jvm.Cond.code ({ cls := "java/lang/Object", name := "<init>", desc := "()V" } : Jvm.MethodName) object_method_1_code (1 : Nat) (Option.none : Option Jvm.ClassFile.FieldType)).before args0 about1 = true := code_word (m := ⟨0, 0⟩) (meth := k0m0) (c := k0c0) (by decide +kernel) rfl rfl rfl (by decide +kernel)
set_option maxRecDepth 65536 in
theorem w_c3 : (Jvm.Cond.code ({ cls := "java/lang/Math", name := "multiplyExact", desc := "(JI)J" } : Jvm.MethodName) jdk_29_method_29_code (3 : Nat) (Option.some Jvm.ClassFile.FieldType.long)).before args0 about1 = true := code_word (m := ⟨3, 1⟩) (meth := k3m1) (c := k3c1) (by decide +kernel) rfl rfl rfl (by decide +kernel)
set_option maxRecDepth 65536 in
theorem w_c4 : (Jvm.Cond.code ({ cls := "java/lang/Math", name := "multiplyExact", desc := "(JJ)J" } : Jvm.MethodName) jdk_29_method_30_code (10 : Nat) (Option.some Jvm.ClassFile.FieldType.long)).before args0 about1 = true := code_word (m := ⟨3, 2⟩) (meth := k3m2) (c := k3c2) (by decide +kernel) rfl rfl rfl (by decide +kernel)
set_option maxRecDepth 65536 in
theorem w_c5 : (Jvm.Cond.code ({ cls := "java/lang/Math", name := "abs", desc := "(J)J" } : Jvm.MethodName) jdk_29_method_61_code (2 : Nat) (Option.some Jvm.ClassFile.FieldType.long)).before args0 about1 = true := code_word (m := ⟨3, 3⟩) (meth := k3m3) (c := k3c3) (by decide +kernel) rfl rfl rfl (by decide +kernel)
set_option maxRecDepth 65536 in
theorem w_c6 : (Jvm.Cond.code ({ cls := "com/example/constellate/constellate/engine/PackedArray", name := "set", desc := "(JJ)V" } : Jvm.MethodName) prog_37_method_3_code (10 : Nat) (Option.none : Option Jvm.ClassFile.FieldType)).before args0 about1 = true := code_word (m := ⟨2, 2⟩) (meth := k2m2) (c := k2c2) (by decide +kernel) rfl rfl rfl (by decide +kernel)
set_option maxRecDepth 65536 in
theorem w_c7 : (Jvm.Cond.code ({ cls := "com/example/constellate/constellate/engine/PackedArray", name := "get", desc := "(J)J" } : Jvm.MethodName) prog_37_method_2_code (9 : Nat) (Option.some Jvm.ClassFile.FieldType.long)).before args0 about1 = true := code_word (m := ⟨2, 1⟩) (meth := k2m1) (c := k2c1) (by decide +kernel) rfl rfl rfl (by decide +kernel)
def codes1 : List Jvm.Cond := [Jvm.Cond.code x code maxLocals ret, Jvm.Cond.code ({ cls := "com/example/constellate/constellate/engine/PackedArray", name := "<init>", desc := "(JI)V" } : Jvm.MethodName) prog_37_method_1_code (6 : Nat) (Option.none : Option Jvm.ClassFile.FieldType), Jvm.Cond.code ({ cls := "java/lang/Object", name := "<init>", desc := "()V" } : Jvm.MethodName) object_method_1_code (1 : Nat) (Option.none : Option Jvm.ClassFile.FieldType), Jvm.Cond.code ({ cls := "java/lang/Math", name := "multiplyExact", desc := "(JI)J" } : Jvm.MethodName) jdk_29_method_29_code (3 : Nat) (Option.some Jvm.ClassFile.FieldType.long), Jvm.Cond.code ({ cls := "java/lang/Math", name := "multiplyExact", desc := "(JJ)J" } : Jvm.MethodName) jdk_29_method_30_code (10 : Nat) (Option.some Jvm.ClassFile.FieldType.long), Jvm.Cond.code ({ cls := "java/lang/Math", name := "abs", desc := "(J)J" } : Jvm.MethodName) jdk_29_method_61_code (2 : Nat) (Option.some Jvm.ClassFile.FieldType.long), Jvm.Cond.code ({ cls := "com/example/constellate/constellate/engine/PackedArray", name := "set", desc := "(JJ)V" } : Jvm.MethodName) prog_37_method_3_code (10 : Nat) (Option.none : Option Jvm.ClassFile.FieldType), Jvm.Cond.code ({ cls := "com/example/constellate/constellate/engine/PackedArray", name := "get", desc := "(J)J" } : Jvm.MethodName) prog_37_method_2_code (9 : Nat) (Option.some Jvm.ClassFile.FieldType.long)]
set_option maxRecDepth 65536 in
theorem codes_eq : words1.filter isCode = codes1 := rfl
theorem w_codes : ∀ c ∈ words1.filter isCode, c.before args0 about1 = true := by
  rw [codes_eq]
  intro c hc
  simp only [codes1, List.mem_cons, List.not_mem_nil, or_false] at hc
  rcases hc with rfl | rfl | rfl | rfl | rfl | rfl | rfl | rfl
  · exact w_c0
  · exact w_c1
  · exact w_c2
  · exact w_c3
  · exact w_c4
  · exact w_c5
  · exact w_c6
  · exact w_c7
set_option maxRecDepth 65536 in
theorem w_t1 : (words1.take 24).all (fun c => isCode c || c.before args0 about1) = true := by decide +kernel
set_option maxRecDepth 65536 in
theorem w_t2 : (words1.drop 24).all (fun c => isCode c || c.before args0 about1) = true := by decide +kernel
theorem w_tables : (allAtoms (Jvm.Cond.code x code maxLocals ret :: tables_1)).before args0 about1 = true := by
  rw [allAtoms_all]
  show words1.all (fun c => c.before args0 about1) = true
  refine all_split ?_ w_codes
  rw [← List.take_append_drop 24 words1, List.all_append, w_t1, w_t2]
  rfl
set_option maxRecDepth 65536 in
theorem w_case : (Jvm.Cond.and given_1 narrow_1).before args0 about1 = true := by decide +kernel
theorem w_applies : (headSpec (Jvm.Cond.code x code maxLocals ret :: tables_1) room_1).applies x e0.platform about1 = true :=
  (Spec.applies_iff w_frames).mpr ⟨w_running, w_runnable, w_alone, w_named, w_hears, w_ripe, w_room, w_tables⟩
theorem atStart : AtStart classFile x code maxLocals ret World_1 tables_1 room_1 Calls_1 rest_1 Pre_1 launch0 p0 e0 about1 theMethod args0 below0 :=
  ⟨lists_1, trivial, launch0.admits_env _ _ _, launch0.least_env, fairChoices_fair.cas, fairChoices_fair.clock, w_frames, w_args, w_heap, w_applies, trivial, trivial, w_case⟩
end start1
theorem witness_1 : WitnessClaimed_1 := ⟨start1.p0, start1.e0, start1.about1, start1.theMethod, start1.args0, start1.below0, start1.atStart⟩
end Jvm.Pilot.@@N@@
