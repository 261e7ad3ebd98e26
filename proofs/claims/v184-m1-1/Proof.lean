import JvmDerived
import JvmDerived.Pilot.@@N@@Statement
import JvmDerived.Pilot.@@N@@Code
set_option linter.unusedVariables false
set_option linter.unusedSimpArgs false
namespace Jvm.RoadKit
open Sem ClassFile Op Lib Jvm.Stand Jvm.Free Jvm.LawKit
section New
variable {p : Program} {l : Launch} {e : Env} {R : Room} {s : State} {m : MethodId} {args : Array Value} {below : List Frame} {meth : Method} {c : Code} {T : State} {locs : List Loc} {cells slots : Nat}
theorem retI (X : Stand p l e R s m args below meth c T locs cells slots) (hx : p.tables.exec = Jvm.exec) {pc : Nat} {Ls : Array Slot} {z : Int32} {rest : List Value} (hret : meth.sig.returnType = some .int) (hd : decode c.code pc = .ok (.ireturn, 1)) {fs : List Frame}
    (hl : ∀ (f : JFrame) (acts : List Action), f.method = m → f.locked = none → f.entered = [] → (doReturn e (T.setTop f) acts (some (.int z))).1 = T.setFrames fs) : Steps p.tables e below (T.setTop (mkF m pc Ls (.int z :: rest))) (T.setFrames fs) := by
  have hm' : T.vm.method? m = some meth := X.method'
  have hn : narrow .int (.int z) = .int z := rfl
  show Steps p.tables e below (T.setTop { method := m, pc := pc, locals := Ls, stack := _ :: rest, locked := none }) _
  jvm_step X.here [X.here.top, hx, hd, hm', hret, hn]
  first | (intro acts; rw [hl _ acts rfl rfl rfl]) | rw [hl _ _ rfl rfl rfl]
  exact Steps.refl _
/-- the run from A comes to its end, and there Q holds -/
def own_G (tb : Tables) (e : Env) (below : List Frame) (s : State) (Q : Option Value → Heap → List Loc → Prop) (C S : Nat) (A : State) : Prop :=
  ∃ s₂ o, Steps tb e below A s₂ ∧ s₂.status = .running ∧ Ended s₂ below o ∧ ∃ v L, o = .returned v ∧ Q v s₂.heap L ∧ FrameEnd s o s₂ L C S
theorem own_by {tb : Tables} {Q : Option Value → Heap → List Loc → Prop} {C S : Nat} {A B : State} (st : ∀ t, Steps tb e below B t → Steps tb e below A t) (k : own_G tb e below s Q C S B) : own_G tb e below s Q C S A := by
  obtain ⟨s₂, o, h, r⟩ := k
  exact ⟨s₂, o, st _ h, r⟩
theorem own_end (X : Stand p l e R s m args below meth c T locs cells slots) {v : Option Value} (hv : meth.sig.returnType = none → v = none) (hlk : meth.locks = false) {Q : Option Value → Heap → List Loc → Prop} {C S : Nat} {A : State}
    (st : ∀ fs, (∀ (f : JFrame) (acts : List Action), f.method = m → f.locked = none → f.entered = [] → (doReturn e (T.setTop f) acts v).1 = T.setFrames fs) → Steps p.tables e below A (T.setFrames fs))
    (hQ : Q v T.heap locs) (hc : cells ≤ C) (hs : slots ≤ S) : own_G p.tables e below s Q C S A := by
  obtain ⟨fs, hr, hrun, hended, hW, hsame⟩ := X.leave hv hlk
  exact ⟨_, _, st fs hr, hrun, hended, _, _, rfl, hQ, ⟨_, rfl⟩, hW, hsame.mono hc hs⟩
theorem own_lremM {tb : Tables} [Ours tb] {target : State} {g : JFrame} (h : At T m c below) (hx : tb.exec = Jvm.exec) (hg : g.method = m) {x y : Int64} {rest : List Value} (hd : decode c.code g.pc = .ok (.lrem, 1)) (hs : g.stack = .long y :: .long x :: rest) (hy : y ≠ 0)
    (hr : Steps tb e below (T.setTop { g with pc := g.pc + 1, stack := .long (x % y) :: rest }) target) : Steps tb e below (T.setTop g) target := by
  have q : x - x / y * y = x % y := lrem_mod x y
  exact XT.lrem h hx hg hd hs hy (by rw [q]; exact hr)
variable {Z : State} {a0 : Array Value} {h h' : Heap} {a b : Addr} {ty : FieldType} {n : Nat} {f : Nat → Value} {sl : Nat} {v : Value} {ws : List Addr}
/-- the array at a has n places, place k holds f k -/
def own_A (Z : State) (h : Heap) (a : Addr) (ty : FieldType) (n : Nat) (f : Nat → Value) : Prop := ∃ c : Cell, Arr Z h a c ty ∧ c.slots.size = n ∧ ∀ k, k < n → c.slots[k]? = some (f k)
abbrev own_AJ (Z : State) (h : Heap) (a : Addr) (n : Nat) (F : Nat → Int64) : Prop := own_A Z h a .long n (fun k => .long (F k))
abbrev own_AI (Z : State) (h : Heap) (a : Addr) (n : Nat) (F : Nat → Int32) : Prop := own_A Z h a .int n (fun k => .int (F k))
abbrev own_AB (Z : State) (h : Heap) (a : Addr) (n : Nat) (F : Nat → Int32) : Prop := own_A Z h a .byte n (fun k => .int (F k))
def own_upd {α : Type} (f : Nat → α) (k : Nat) (x : α) : Nat → α := fun i => if i = k then x else f i
theorem own_A.lt (F : own_A Z h a ty n f) : a < h.size := by obtain ⟨c, A, -⟩ := F; exact A.lt
theorem own_A.ext (F : own_A Z h a ty n f) (E : Ext h h') : own_A Z h' a ty n f := by obtain ⟨c, A, r⟩ := F; exact ⟨c, A.ext E, r⟩
theorem own_A.other (F : own_A Z h b ty n f) (W : Wr h h' a sl v) (q : b ≠ a) : own_A Z h' b ty n f := by obtain ⟨c, A, r⟩ := F; exact ⟨c, A.other W q, r⟩
theorem own_A.keep (F : own_A Z h a ty n f) (K : Keep h h' ws) (q : a ∉ ws) : own_A Z h' a ty n f := by obtain ⟨c, A, r⟩ := F; exact ⟨c, ⟨K.2.1 a c A.1 q, A.2⟩, r⟩
theorem own_A.cast {f' : Nat → Value} (F : own_A Z h a ty n f) (q : ∀ k, k < n → f k = f' k) : own_A Z h a ty n f' := by obtain ⟨c, A, S, H⟩ := F; exact ⟨c, A, S, fun k hk => by rw [H k hk, q k hk]⟩
theorem own_idx {j : Int32} {k n : Nat} (hk : j.toInt = k) (hn : k < n) {c : Cell} (S : c.slots.size = n) : ¬ (j < 0 ∨ c.slots.size ≤ j.toNatClampNeg) ∧ j.toNatClampNeg = k := by
  have e : j.toNatClampNeg = k := by show j.toInt.toNat = k; rw [hk]; rfl
  refine ⟨?_, e⟩
  rw [e, S]
  rintro (q | q)
  · rw [Int32.lt_iff_toInt_lt] at q; have : (0 : Int32).toInt = 0 := by decide
    omega
  · omega
theorem own_A.set {c : Cell} (A : Arr Z h a c ty) (S : c.slots.size = n) (H : ∀ k, k < n → c.slots[k]? = some (f k)) {j : Nat} (W : Wr h h' a j v) (hj : j < n) {f' : Nat → Value} (q : ∀ k, k < n → f' k = if k = j then v else f k) : own_A Z h' a ty n f' := by
  refine ⟨c.setSlot j v, A.same W, by rw [sz_set]; exact S, fun i hi => ?_⟩
  rw [q i hi]
  by_cases e : i = j
  · subst e; simp [Cell.setSlot, S, hi]
  · rw [if_neg e, ← H i hi]; show (c.slots.setIfInBounds j v)[i]? = _; exact Array.getElem?_setIfInBounds_ne (Ne.symm e)
theorem own_ldJ (X : Stand p l e R s m args below meth c T locs cells slots) (hx : p.tables.exec = Jvm.exec) (hZ : Z.Warmed39 s.vm) (eT : T.heap = h) {F : Nat → Int64} (V : own_AJ Z h a n F) {j : Int32} {k : Nat} (hk : j.toInt = k) (hn : k < n) {g : JFrame} (hg : g.method = m) {rest : List Value} (hs : g.stack = .int j :: .ref a :: rest) (hd : decode c.code g.pc = .ok (.laload, 1)) :
    ∀ target, Steps p.tables e below (T.setTop { g with pc := g.pc + 1, stack := .long (F k) :: rest }) target → Steps p.tables e below (T.setTop g) target := by
  obtain ⟨c, A, S, H⟩ := V
  obtain ⟨q, e'⟩ := own_idx hk hn S
  intro target hr
  exact X.laload hx (by rw [eT]; exact A.1) (State.isArrayOf_alike hZ.alike A.2.1) A.2.2 q (v := .long (F k)) (by rw [e']; exact H k hn) hg hs hd target hr
theorem own_ldI (X : Stand p l e R s m args below meth c T locs cells slots) (hx : p.tables.exec = Jvm.exec) (hZ : Z.Warmed39 s.vm) (eT : T.heap = h) {F : Nat → Int32} (V : own_AI Z h a n F) {j : Int32} {k : Nat} (hk : j.toInt = k) (hn : k < n) {g : JFrame} (hg : g.method = m) {rest : List Value} (hs : g.stack = .int j :: .ref a :: rest) (hd : decode c.code g.pc = .ok (.iaload, 1)) :
    ∀ target, Steps p.tables e below (T.setTop { g with pc := g.pc + 1, stack := .int (F k) :: rest }) target → Steps p.tables e below (T.setTop g) target := by
  obtain ⟨c, A, S, H⟩ := V
  obtain ⟨q, e'⟩ := own_idx hk hn S
  intro target hr
  exact X.iaload hx (by rw [eT]; exact A.1) (State.isArrayOf_alike hZ.alike A.2.1) A.2.2 q (v := .int (F k)) (by rw [e']; exact H k hn) hg hs hd target hr
theorem own_ldB (X : Stand p l e R s m args below meth c T locs cells slots) (hx : p.tables.exec = Jvm.exec) (hZ : Z.Warmed39 s.vm) (eT : T.heap = h) {F : Nat → Int32} (V : own_AB Z h a n F) {j : Int32} {k : Nat} (hk : j.toInt = k) (hn : k < n) {g : JFrame} (hg : g.method = m) {rest : List Value} (hs : g.stack = .int j :: .ref a :: rest) (hd : decode c.code g.pc = .ok (.baload, 1)) :
    ∀ target, Steps p.tables e below (T.setTop { g with pc := g.pc + 1, stack := .int (F k) :: rest }) target → Steps p.tables e below (T.setTop g) target := by
  obtain ⟨c, A, S, H⟩ := V
  obtain ⟨q, e'⟩ := own_idx hk hn S
  intro target hr
  exact X.baloadBytes hx (by rw [eT]; exact A.1) (State.isArrayOf_alike hZ.alike A.2.1) A.2.2 q (v := .int (F k)) (by rw [e']; exact H k hn) hg hs hd target hr
theorem own_stJ (X : Stand p l e R s m args below meth c T locs cells slots) (hx : p.tables.exec = Jvm.exec) (hZ : Z.Warmed39 s.vm) (eT : T.heap = h) {F : Nat → Int64} (V : own_AJ Z h a n F) {j : Int32} {x : Int64} {k : Nat} (hk : j.toInt = k) (hn : k < n) {g : JFrame} (hg : g.method = m) {rest : List Value} (hs : g.stack = .long x :: .int j :: .ref a :: rest) (hd : decode c.code g.pc = .ok (.lastore, 1)) :
    ∃ T' h', Stand p l e R s m args below meth c T' (locs ++ [⟨a, j.toNatClampNeg⟩]) cells slots ∧ T'.heap = h' ∧ Wr h h' a j.toNatClampNeg (.long x) ∧ own_AJ Z h' a n (own_upd F k x) ∧ ∀ target, Steps p.tables e below (T'.setTop { g with pc := g.pc + 1, stack := rest }) target → Steps p.tables e below (T.setTop g) target := by
  obtain ⟨c, A, S, H⟩ := V
  obtain ⟨q, e'⟩ := own_idx hk hn S
  obtain ⟨T', h', X', e1, W, st⟩ := stJ X hx hZ eT A q hg hs hd
  exact ⟨T', h', X', e1, W, own_A.set A S H W (by rw [e']; exact hn) (fun i _ => by rw [e']; show Value.long (if i = k then x else F i) = _; by_cases z : i = k <;> simp [z]), st⟩
theorem own_stI (X : Stand p l e R s m args below meth c T locs cells slots) (hx : p.tables.exec = Jvm.exec) (hZ : Z.Warmed39 s.vm) (eT : T.heap = h) {F : Nat → Int32} (V : own_AI Z h a n F) {j : Int32} {x : Int32} {k : Nat} (hk : j.toInt = k) (hn : k < n) {g : JFrame} (hg : g.method = m) {rest : List Value} (hs : g.stack = .int x :: .int j :: .ref a :: rest) (hd : decode c.code g.pc = .ok (.iastore, 1)) :
    ∃ T' h', Stand p l e R s m args below meth c T' (locs ++ [⟨a, j.toNatClampNeg⟩]) cells slots ∧ T'.heap = h' ∧ Wr h h' a j.toNatClampNeg (.int x) ∧ own_AI Z h' a n (own_upd F k x) ∧ ∀ target, Steps p.tables e below (T'.setTop { g with pc := g.pc + 1, stack := rest }) target → Steps p.tables e below (T.setTop g) target := by
  obtain ⟨c, A, S, H⟩ := V
  obtain ⟨q, e'⟩ := own_idx hk hn S
  obtain ⟨T', h', X', e1, W, st⟩ := stI X hx hZ eT A q hg hs hd
  exact ⟨T', h', X', e1, W, own_A.set A S H W (by rw [e']; exact hn) (fun i _ => by rw [e']; show Value.int (if i = k then x else F i) = _; by_cases z : i = k <;> simp [z]), st⟩
theorem own_stB (X : Stand p l e R s m args below meth c T locs cells slots) (hx : p.tables.exec = Jvm.exec) (hZ : Z.Warmed39 s.vm) (eT : T.heap = h) {F : Nat → Int32} (V : own_AB Z h a n F) {j : Int32} {x : Int32} {k : Nat} (hk : j.toInt = k) (hn : k < n) {g : JFrame} (hg : g.method = m) {rest : List Value} (hs : g.stack = .int x :: .int j :: .ref a :: rest) (hd : decode c.code g.pc = .ok (.bastore, 1)) :
    ∃ T' h', Stand p l e R s m args below meth c T' (locs ++ [⟨a, j.toNatClampNeg⟩]) cells slots ∧ T'.heap = h' ∧ Wr h h' a j.toNatClampNeg (.int (nar .byte x)) ∧ own_AB Z h' a n (own_upd F k (nar .byte x)) ∧ ∀ target, Steps p.tables e below (T'.setTop { g with pc := g.pc + 1, stack := rest }) target → Steps p.tables e below (T.setTop g) target := by
  obtain ⟨c, A, S, H⟩ := V
  obtain ⟨q, e'⟩ := own_idx hk hn S
  obtain ⟨T', h', X', e1, W, st⟩ := stB X hx hZ eT A q hg hs hd
  exact ⟨T', h', X', e1, W, own_A.set A S H W (by rw [e']; exact hn) (fun i _ => by rw [e']; show Value.int (if i = k then nar .byte x else F i) = _; by_cases z : i = k <;> simp [z]), st⟩
theorem own_newA {cA : ClassId} {z : Int32} {N : Nat} (A : Arr Z h a (newA cA ty z) ty) (hz : z.toInt = N) : own_A Z h a ty N (fun _ => defaultValue ty) := by
  have e : z.toNatClampNeg = N := by show z.toInt.toNat = N; rw [hz]; rfl
  refine ⟨_, A, by rw [sz_new]; exact e, fun k hk => ?_⟩
  show (Array.replicate z.toNatClampNeg (defaultValue ty))[k]? = _
  rw [e]; simp [hk]
theorem own_neg {z : Int32} {N : Nat} (hz : z.toInt = N) : ¬ z < 0 ∧ z.toNatClampNeg = N := by
  refine ⟨fun q => ?_, by show z.toInt.toNat = N; rw [hz]; rfl⟩
  rw [Int32.lt_iff_toInt_lt] at q; have : (0 : Int32).toInt = 0 := by decide
  omega
theorem own_newJ (X : Stand p l e R s m args below meth c T locs cells slots) (hx : p.tables.exec = Jvm.exec) (hZ : Z.Warmed39 s.vm) (w : (Cond.arrayClass .long).before a0 Z = true) (eT : T.heap = h) {g : JFrame} (hg : g.method = m) (hd : decode c.code g.pc = .ok (.newarray .long, 2)) {z : Int32} {rest : List Value} (hs : g.stack = .int z :: rest)
    {N : Nat} (hz : z.toInt = N) {cap : Nat} (hcap : N ≤ cap) (hb : cap * 8 ≤ 536870912) (hc : cells + 1 ≤ R.cells) (hl : slots + cap ≤ R.slots) :
    ∃ T' h', Stand p l e R s m args below meth c T' locs (cells + 1) (slots + cap) ∧ T'.heap = h' ∧ Ext h h' ∧ own_AJ Z h' h.size N (fun _ => 0) ∧ ∀ target, Steps p.tables e below (T'.setTop { g with pc := g.pc + 2, stack := .ref h.size :: rest }) target → Steps p.tables e below (T.setTop g) target := by
  obtain ⟨q1, q2⟩ := own_neg hz
  obtain ⟨T', h', cA, X', e1, E, A, st⟩ := newP X hx hZ (aty := .long) w eT hg hd hs q1 (cap := cap) (by rw [q2]; exact hcap) hb hc hl
  exact ⟨T', h', X', e1, E, own_newA A hz, st⟩
theorem own_newI (X : Stand p l e R s m args below meth c T locs cells slots) (hx : p.tables.exec = Jvm.exec) (hZ : Z.Warmed39 s.vm) (w : (Cond.arrayClass .int).before a0 Z = true) (eT : T.heap = h) {g : JFrame} (hg : g.method = m) (hd : decode c.code g.pc = .ok (.newarray .int, 2)) {z : Int32} {rest : List Value} (hs : g.stack = .int z :: rest)
    {N : Nat} (hz : z.toInt = N) {cap : Nat} (hcap : N ≤ cap) (hb : cap * 8 ≤ 536870912) (hc : cells + 1 ≤ R.cells) (hl : slots + cap ≤ R.slots) :
    ∃ T' h', Stand p l e R s m args below meth c T' locs (cells + 1) (slots + cap) ∧ T'.heap = h' ∧ Ext h h' ∧ own_AI Z h' h.size N (fun _ => 0) ∧ ∀ target, Steps p.tables e below (T'.setTop { g with pc := g.pc + 2, stack := .ref h.size :: rest }) target → Steps p.tables e below (T.setTop g) target := by
  obtain ⟨q1, q2⟩ := own_neg hz
  obtain ⟨T', h', cA, X', e1, E, A, st⟩ := newP X hx hZ (aty := .int) w eT hg hd hs q1 (cap := cap) (by rw [q2]; exact hcap) hb hc hl
  exact ⟨T', h', X', e1, E, own_newA A hz, st⟩
theorem own_newB (X : Stand p l e R s m args below meth c T locs cells slots) (hx : p.tables.exec = Jvm.exec) (hZ : Z.Warmed39 s.vm) (w : (Cond.arrayClass .byte).before a0 Z = true) (eT : T.heap = h) {g : JFrame} (hg : g.method = m) (hd : decode c.code g.pc = .ok (.newarray .byte, 2)) {z : Int32} {rest : List Value} (hs : g.stack = .int z :: rest)
    {N : Nat} (hz : z.toInt = N) {cap : Nat} (hcap : N ≤ cap) (hb : cap * 8 ≤ 536870912) (hc : cells + 1 ≤ R.cells) (hl : slots + cap ≤ R.slots) :
    ∃ T' h', Stand p l e R s m args below meth c T' locs (cells + 1) (slots + cap) ∧ T'.heap = h' ∧ Ext h h' ∧ own_AB Z h' h.size N (fun _ => 0) ∧ ∀ target, Steps p.tables e below (T'.setTop { g with pc := g.pc + 2, stack := .ref h.size :: rest }) target → Steps p.tables e below (T.setTop g) target := by
  obtain ⟨q1, q2⟩ := own_neg hz
  obtain ⟨T', h', cA, X', e1, E, A, st⟩ := newP X hx hZ (aty := .byte) w eT hg hd hs q1 (cap := cap) (by rw [q2]; exact hcap) hb hc hl
  exact ⟨T', h', X', e1, E, own_newA A hz, st⟩
theorem own_len (X : Stand p l e R s m args below meth c T locs cells slots) (hx : p.tables.exec = Jvm.exec) (hZ : Z.Warmed39 s.vm) (eT : T.heap = h) (V : own_A Z h a ty n f) {z : Int32} (hz : z.toInt = n) {g : JFrame} (hg : g.method = m) {rest : List Value} (hs : g.stack = .ref a :: rest) (hd : decode c.code g.pc = .ok (.arraylength, 1)) :
    ∀ target, Steps p.tables e below (T.setTop { g with pc := g.pc + 1, stack := .int z :: rest }) target → Steps p.tables e below (T.setTop g) target := by
  obtain ⟨c, A, S, H⟩ := V
  obtain ⟨q1, q2⟩ := own_neg hz
  intro target hr
  exact X.arraylength hx (by rw [eT]; exact A.1) (State.isArrayOf_alike hZ.alike A.2.1) hg hs hd target (by rw [len_of (S.trans q2.symm) q1]; exact hr)
end New
end Jvm.RoadKit
namespace Jvm.Pilot.@@N@@
open Jvm Jvm.ClassFile Sem Op Lib Jvm.Free Jvm.Stand Jvm.LawKit Jvm.RoadKit Bundle Jvm.Pilot.@@N@@.Jvm.D
theorem own_nat {x : Int32} {a : Nat} (h : x.toInt = a) : x = Int32.ofNat a := by
  have r := rng32 x
  rw [← Int32.toInt_inj, h, Int32.toInt_ofNat_of_lt (by omega)]
theorem own_ushrL_def (x : Int64) (y : Int32) : XT.ushrL x y = (x.toUInt64 >>> (y.toInt64.toUInt64 &&& Int64.toUInt64 63)).toInt64 := rfl
theorem own_k64 : ∀ k : Fin 64, ((Int32.ofNat k.val).toInt64.toUInt64 &&& Int64.toUInt64 63).toBitVec = BitVec.ofNat 64 k.val ∧ (((Int32.ofNat k.val).toInt64 &&& 63).toBitVec.smod 64) = BitVec.ofNat 64 k.val ∧ (((1 : Int64) <<< ((Int32.ofNat k.val).toInt64 &&& 63)) - (1 : Int64)).toBitVec = BitVec.ofNat 64 (2 ^ k.val - 1) := by decide +kernel
theorem own_ushr (x : Int64) {y : Int32} {k : Nat} (h : y.toInt = k) (hk : k < 64) : (XT.ushrL x y).toBitVec = x.toBitVec >>> k := by
  have q := (own_k64 ⟨k, hk⟩).1
  rw [own_nat h, own_ushrL_def]
  show ((x.toUInt64 >>> ((Int32.ofNat k).toInt64.toUInt64 &&& Int64.toUInt64 63))).toBitVec = _
  rw [UInt64.toBitVec_shiftRight, q, BitVec.ushiftRight_eq', BitVec.toNat_umod, BitVec.toNat_ofNat]
  show x.toBitVec >>> (k % 2 ^ 64 % 64) = _
  rw [Nat.mod_eq_of_lt (show k < 2 ^ 64 by omega), Nat.mod_eq_of_lt hk]
theorem own_shl (x : Int64) {y : Int32} {k : Nat} (h : y.toInt = k) (hk : k < 64) : (x <<< (y.toInt64 &&& 63)).toBitVec = x.toBitVec <<< k := by
  have q := (own_k64 ⟨k, hk⟩).2.1
  rw [own_nat h, Int64.toBitVec_shiftLeft, q, BitVec.shiftLeft_eq', BitVec.toNat_ofNat, Nat.mod_eq_of_lt (show k < 2 ^ 64 by omega)]
theorem own_m1 {y : Int32} {k : Nat} (h : y.toInt = k) (hk : k < 64) (i : Nat) : (((1 : Int64) <<< (y.toInt64 &&& 63)) - (1 : Int64)).toBitVec.getLsbD i = (decide (i < k)) := by
  rw [own_nat h, (own_k64 ⟨k, hk⟩).2.2, BitVec.getLsbD_ofNat, Nat.testBit_two_pow_sub_one]
  by_cases a : i < k
  · simp [a, show i < 64 by omega]
  · simp [a]
/-- the bit b of a row of words -/
def own_at (F : Nat → Int64) (b : Nat) : Bool := (F (b / 64)).toBitVec.getLsbD (b % 64)
theorem own_bitJ (x : Int64) {y : Int32} {k : Nat} (h : y.toInt = k) (hk : k < 64) : (XT.ushrL x y &&& (1 : Int64)) = if x.toBitVec.getLsbD k then 1 else 0 := by
  rw [← Int64.toBitVec_inj, Int64.toBitVec_and, own_ushr x h hk]
  show (x.toBitVec >>> k) &&& 1#64 = _
  rw [BitVec.and_one_eq_setWidth_ofBool_getLsbD, BitVec.getLsbD_ushiftRight, Nat.add_zero]
  cases x.toBitVec.getLsbD k <;> decide
theorem own_ext {x y : Int64} (h : ∀ i, i < 64 → x.toBitVec.getLsbD i = y.toBitVec.getLsbD i) : x = y := by
  rw [← Int64.toBitVec_inj]
  exact BitVec.eq_of_getLsbD_eq h
def own_sv (k : Nat) : Int32 := Int32.ofNat (384 * k / 13)
theorem own_of {k : Nat} (h : k < 2147483648) : (Int32.ofNat k).toInt = k := Int32.toInt_ofNat_of_lt h
theorem own_lt {x y : Int32} {a b : Nat} (hx : x.toInt = a) (hy : y.toInt = b) : x < y ↔ a < b := by
  rw [Int32.lt_iff_toInt_lt]; omega
theorem own_add {x y : Int32} {a b : Nat} (hx : x.toInt = a) (hy : y.toInt = b) (h : a + b < 2147483648) : (x + y).toInt = ((a + b : Nat) : Int) := by
  have q := c_iadd x y
  have r := rng32 (x + y)
  omega
theorem own_sub {x y : Int32} {a b : Nat} (hx : x.toInt = a) (hy : y.toInt = b) (h : b ≤ a) : (x - y).toInt = ((a - b : Nat) : Int) := by
  have q := c_isub x y
  have r := rng32 (x - y)
  have r1 := rng32 x
  omega
theorem own_S {p : Int32} {P : Nat} (h : p.toInt = P) (hP : P < 1000) : (((384 : Int32) * p) / (13 : Int32)).toInt = ((384 * P / 13 : Nat) : Int) := by
  have k : (384 : Int32).toInt = 384 := by decide
  have q : ((384 : Int32) * p).toInt = 384 * (P : Int) := by rw [XT.mul32 (by rw [k, h]; exact ⟨by omega, by omega⟩), k, h]
  have d := (c_idiv ((384 : Int32) * p) (13 : Int32) 13 (by decide) (by decide)).1 (by omega)
  omega
theorem own_div64 {x : Int32} {a : Nat} (h : x.toInt = a) : (x / (64 : Int32)).toInt = ((a / 64 : Nat) : Int) := by
  have d := (c_idiv x (64 : Int32) 64 (by decide) (by decide)).1 (by omega)
  omega
theorem own_mod64 {x : Int32} {a : Nat} (h : x.toInt = a) : (x % (64 : Int32)).toInt = ((a % 64 : Nat) : Int) := by
  have d := (c_irem x (64 : Int32) 64 (by decide)).1 (by omega)
  omega
theorem own_remN (x y : Int32) (n : Nat) (hy : y.toInt = n) (hn : 0 < n) : ∃ a : Nat, ((x &&& (2147483647 : Int32)) % y).toInt = a ∧ a < n := by
  have h1 := c_mask x (2147483647 : Int32) 31 (by decide) (by decide)
  have h2 := (c_irem (x &&& (2147483647 : Int32)) y n hy).1 (by omega)
  have b1 := Int.emod_nonneg (x &&& (2147483647 : Int32)).toInt (show (n : Int) ≠ 0 by omega)
  have b2 := Int.emod_lt_of_pos (x &&& (2147483647 : Int32)).toInt (show (0 : Int) < n by omega)
  exact ⟨((x &&& (2147483647 : Int32)) % y).toInt.toNat, by omega, by omega⟩
theorem own_63 (x : Int32) : ∃ a : Nat, (x &&& (63 : Int32)).toInt = a ∧ a < 64 := by
  have h := c_mask x (63 : Int32) 6 (by decide) (by decide)
  exact ⟨(x &&& (63 : Int32)).toInt.toNat, by omega, by omega⟩
theorem own_g63 {x : Int32} {g : Nat} (h : x.toInt = g) : (x &&& (63 : Int32)).toInt = ((g % 64 : Nat) : Int) := by
  have q := c_mask x (63 : Int32) 6 (by decide) (by decide)
  omega
theorem own_g6 {x : Int32} {g : Nat} (h : x.toInt = g) : (x >>> ((6 : Int32) &&& 31)).toInt = ((g / 64 : Nat) : Int) := by
  have q := c_ishr x (6 : Int32) 6 (by decide)
  omega
def own_piece (F : Nat → Int64) (W S L : Nat) : Int64 := ((if 64 < S % 64 + L then ((XT.ushrL (F (W + S / 64)) (Int32.ofNat (S % 64))) ||| ((F (W + S / 64 + 1)) <<< (((64 : Int32) - Int32.ofNat (S % 64)).toInt64 &&& 63))) else (XT.ushrL (F (W + S / 64)) (Int32.ofNat (S % 64)))) &&& (((1 : Int64) <<< ((Int32.ofNat L).toInt64 &&& 63)) - (1 : Int64)))
theorem own_piece_bit (F : Nat → Int64) (W S L i : Nat) (hL : L < 64) : (own_piece F W S L).toBitVec.getLsbD i = (decide (i < L) && own_at F (64 * W + S + i)) := by
  have hs : S % 64 < 64 := Nat.mod_lt _ (by decide)
  unfold own_piece
  rw [Int64.toBitVec_and, BitVec.getLsbD_and, own_m1 (own_of (by omega)) hL, Bool.and_comm]
  by_cases a : i < L
  · simp only [a, decide_true, Bool.true_and]
    unfold own_at
    by_cases g : 64 < S % 64 + L
    · rw [if_pos g, Int64.toBitVec_or, BitVec.getLsbD_or, own_ushr _ (own_of (by omega)) hs, own_shl _ (own_sub (show (64 : Int32).toInt = (64 : Nat) by decide) (own_of (k := S % 64) (by omega)) (by omega)) (by omega), BitVec.getLsbD_ushiftRight, BitVec.getLsbD_shiftLeft]
      by_cases d : S % 64 + i < 64
      · rw [show (64 * W + S + i) / 64 = W + S / 64 by omega, show (64 * W + S + i) % 64 = S % 64 + i by omega]
        simp [show i < 64 - S % 64 by omega]
      · rw [show (64 * W + S + i) / 64 = W + S / 64 + 1 by omega, show (64 * W + S + i) % 64 = i - (64 - S % 64) by omega, BitVec.getLsbD_of_ge _ _ (show 64 ≤ S % 64 + i by omega)]
        simp [show ¬ i < 64 - S % 64 by omega, show i < 64 by omega]
    · rw [if_neg g, own_ushr _ (own_of (by omega)) hs, BitVec.getLsbD_ushiftRight, show (64 * W + S + i) / 64 = W + S / 64 by omega, show (64 * W + S + i) % 64 = S % 64 + i by omega]
  · simp [a]
theorem own_above (F : Nat → Int64) (W S L : Nat) (hL : L < 64) {le : Int32} (h : le.toInt = L) : (XT.ushrL (own_piece F W S L) le) = (0 : Int64) := by
  apply own_ext
  intro i _
  rw [own_ushr _ h hL, BitVec.getLsbD_ushiftRight, own_piece_bit F W S L _ hL]
  simp [show ¬ (L + i < L) by omega]
theorem own_bit0 (F : Nat → Int64) (W S L J : Nat) (hL : L < 64) {jj : Int32} (h : jj.toInt = J) (hJ : J < 64) (hj : ¬ J < L) : ((XT.ushrL (own_piece F W S L) jj) &&& (1 : Int64)) = (0 : Int64) := by
  rw [own_bitJ _ h hJ, own_piece_bit F W S L _ hL]; simp [hj]
theorem own_bit1 (F : Nat → Int64) (W S L J : Nat) (hL : L < 64) {jj g : Int32} (h : jj.toInt = J) (hJ : J < 64) (hj : J < L) (hg : g.toInt = ((S + J : Nat) : Int)) : ((XT.ushrL (own_piece F W S L) jj) &&& (1 : Int64)) = ((XT.ushrL (F (W + (S + J) / 64)) (g &&& (63 : Int32))) &&& (1 : Int64)) := by
  rw [own_bitJ _ h hJ, own_bitJ _ (own_g63 hg) (Nat.mod_lt _ (by decide)), own_piece_bit F W S L _ hL]
  unfold own_at
  rw [show (64 * W + S + J) / 64 = W + (S + J) / 64 by omega, show (64 * W + S + J) % 64 = (S + J) % 64 by omega]
  simp [hj]
theorem own_a1 {P W Sn Ln J : Nat} (hP : P < 13) (hW : W < 3) (hJ : J < 64) (hS : Sn = 384 * P / 13) (hL : Ln = 384 * (P + 1) / 13 - 384 * P / 13) : Ln < 64 ∧ 384 * P / 13 < 2147483648 ∧ 384 * (P + 1) / 13 < 2147483648 ∧ Sn ≤ 384 * (P + 1) / 13 ∧ Sn + J < 2147483648 ∧ W + (Sn + J) / 64 < 2147483648 ∧ P + 1 < 2147483648 ∧ P < 14 ∧ P + 1 < 14 ∧ (J < Ln → W + (Sn + J) / 64 < 8) := by omega
theorem own_d1_0 : decode prog_17_method_8_code 0 = .ok (.sipush 384, 3) := by decide +kernel
theorem own_d1_3 : decode prog_17_method_8_code 3 = .ok (.iload_n 2, 1) := by decide +kernel
theorem own_d1_4 : decode prog_17_method_8_code 4 = .ok (.imul, 1) := by decide +kernel
theorem own_d1_5 : decode prog_17_method_8_code 5 = .ok (.bipush 13, 2) := by decide +kernel
theorem own_d1_7 : decode prog_17_method_8_code 7 = .ok (.idiv, 1) := by decide +kernel
theorem own_d1_8 : decode prog_17_method_8_code 8 = .ok (.istore_n 3, 1) := by decide +kernel
theorem own_d1_9 : decode prog_17_method_8_code 9 = .ok (.sipush 384, 3) := by decide +kernel
theorem own_d1_12 : decode prog_17_method_8_code 12 = .ok (.iload_n 2, 1) := by decide +kernel
theorem own_d1_13 : decode prog_17_method_8_code 13 = .ok (.iconst 1, 1) := by decide +kernel
theorem own_d1_14 : decode prog_17_method_8_code 14 = .ok (.iadd, 1) := by decide +kernel
theorem own_d1_15 : decode prog_17_method_8_code 15 = .ok (.imul, 1) := by decide +kernel
theorem own_d1_16 : decode prog_17_method_8_code 16 = .ok (.bipush 13, 2) := by decide +kernel
theorem own_d1_18 : decode prog_17_method_8_code 18 = .ok (.idiv, 1) := by decide +kernel
theorem own_d1_19 : decode prog_17_method_8_code 19 = .ok (.iload_n 3, 1) := by decide +kernel
theorem own_d1_20 : decode prog_17_method_8_code 20 = .ok (.isub, 1) := by decide +kernel
theorem own_d1_21 : decode prog_17_method_8_code 21 = .ok (.istore 4, 2) := by decide +kernel
theorem own_d1_23 : decode prog_17_method_8_code 23 = .ok (.iload_n 1, 1) := by decide +kernel
theorem own_d1_24 : decode prog_17_method_8_code 24 = .ok (.iload_n 3, 1) := by decide +kernel
theorem own_d1_25 : decode prog_17_method_8_code 25 = .ok (.bipush 64, 2) := by decide +kernel
theorem own_d1_27 : decode prog_17_method_8_code 27 = .ok (.idiv, 1) := by decide +kernel
theorem own_d1_28 : decode prog_17_method_8_code 28 = .ok (.iadd, 1) := by decide +kernel
theorem own_d1_29 : decode prog_17_method_8_code 29 = .ok (.istore 5, 2) := by decide +kernel
theorem own_d1_31 : decode prog_17_method_8_code 31 = .ok (.iload_n 3, 1) := by decide +kernel
theorem own_d1_32 : decode prog_17_method_8_code 32 = .ok (.bipush 64, 2) := by decide +kernel
theorem own_d1_34 : decode prog_17_method_8_code 34 = .ok (.irem, 1) := by decide +kernel
theorem own_d1_35 : decode prog_17_method_8_code 35 = .ok (.istore 6, 2) := by decide +kernel
theorem own_d1_37 : decode prog_17_method_8_code 37 = .ok (.aload_n 0, 1) := by decide +kernel
theorem own_d1_38 : decode prog_17_method_8_code 38 = .ok (.iload 5, 2) := by decide +kernel
theorem own_d1_40 : decode prog_17_method_8_code 40 = .ok (.laload, 1) := by decide +kernel
theorem own_d1_41 : decode prog_17_method_8_code 41 = .ok (.iload 6, 2) := by decide +kernel
theorem own_d1_43 : decode prog_17_method_8_code 43 = .ok (.lushr, 1) := by decide +kernel
theorem own_d1_44 : decode prog_17_method_8_code 44 = .ok (.lstore 7, 2) := by decide +kernel
theorem own_d1_46 : decode prog_17_method_8_code 46 = .ok (.iload 6, 2) := by decide +kernel
theorem own_d1_48 : decode prog_17_method_8_code 48 = .ok (.iload 4, 2) := by decide +kernel
theorem own_d1_50 : decode prog_17_method_8_code 50 = .ok (.iadd, 1) := by decide +kernel
theorem own_d1_51 : decode prog_17_method_8_code 51 = .ok (.bipush 64, 2) := by decide +kernel
theorem own_d1_53 : decode prog_17_method_8_code 53 = .ok (.if_icmp .le 20, 3) := by decide +kernel
theorem own_d1_56 : decode prog_17_method_8_code 56 = .ok (.lload 7, 2) := by decide +kernel
theorem own_d1_58 : decode prog_17_method_8_code 58 = .ok (.aload_n 0, 1) := by decide +kernel
theorem own_d1_59 : decode prog_17_method_8_code 59 = .ok (.iload 5, 2) := by decide +kernel
theorem own_d1_61 : decode prog_17_method_8_code 61 = .ok (.iconst 1, 1) := by decide +kernel
theorem own_d1_62 : decode prog_17_method_8_code 62 = .ok (.iadd, 1) := by decide +kernel
theorem own_d1_63 : decode prog_17_method_8_code 63 = .ok (.laload, 1) := by decide +kernel
theorem own_d1_64 : decode prog_17_method_8_code 64 = .ok (.bipush 64, 2) := by decide +kernel
theorem own_d1_66 : decode prog_17_method_8_code 66 = .ok (.iload 6, 2) := by decide +kernel
theorem own_d1_68 : decode prog_17_method_8_code 68 = .ok (.isub, 1) := by decide +kernel
theorem own_d1_69 : decode prog_17_method_8_code 69 = .ok (.lshl, 1) := by decide +kernel
theorem own_d1_70 : decode prog_17_method_8_code 70 = .ok (.lor, 1) := by decide +kernel
theorem own_d1_71 : decode prog_17_method_8_code 71 = .ok (.lstore 7, 2) := by decide +kernel
theorem own_d1_73 : decode prog_17_method_8_code 73 = .ok (.lload 7, 2) := by decide +kernel
theorem own_d1_75 : decode prog_17_method_8_code 75 = .ok (.lconst 1, 1) := by decide +kernel
theorem own_d1_76 : decode prog_17_method_8_code 76 = .ok (.iload 4, 2) := by decide +kernel
theorem own_d1_78 : decode prog_17_method_8_code 78 = .ok (.lshl, 1) := by decide +kernel
theorem own_d1_79 : decode prog_17_method_8_code 79 = .ok (.lconst 1, 1) := by decide +kernel
theorem own_d1_80 : decode prog_17_method_8_code 80 = .ok (.lsub, 1) := by decide +kernel
theorem own_d1_81 : decode prog_17_method_8_code 81 = .ok (.land, 1) := by decide +kernel
theorem own_d1_82 : decode prog_17_method_8_code 82 = .ok (.lreturn, 1) := by decide +kernel
theorem own_pn0 : plainName "com/example/vote64/vote64/sketch/ProjectionFingerprint" = true := by first | (simp [plainName, overriddenIn]; done) | decide +kernel
theorem own_ef1 (m : MethodId) (x0 : Addr) (x1 : Int32) (x2 : Int32) : entryFrame m #[(.ref x0), (.int x1), (.int x2)] 9 = mkF m 0 #[.val (.ref x0), .val (.int x1), .val (.int x2), .unset, .unset, .unset, .unset, .unset, .unset] [] := by first | (simp [entryFrame, mkF, argsToLocals, Value.category]; done) | rfl
def own_Q1 (Z : State) (a0 : Addr) (p1 : Int32) (p2 : Int32) (F : Nat → Int64) (W : Nat) (P : Nat) (Sn : Nat) (Ln : Nat) (h0 : Heap) (n0 : Nat) (v : Option Value) (h : Heap) (L : List Loc) : Prop := v = some (.long (own_piece F W Sn Ln)) ∧ Fr n0 L ∧ h = h0
set_option maxRecDepth 65536 in
set_option maxHeartbeats 40000000 in
theorem rm1 (l : Launch) (Z : State) (aw : Array Value) (hw : ∀ d ∈ tables_1, d.before aw Z = true) (ws : List Jvm.Cond) (a0 : Addr) (p1 : Int32) (p2 : Int32) (F : Nat → Int64) (W : Nat) (P : Nat) (Sn : Nat) (Ln : Nat) (h0 : Heap) (n0 : Nat) (Z0 : n0 ≤ h0.size) (VA : own_AJ Z h0 a0 8 F) (h1 : p1.toInt = W) (h2 : p2.toInt = P) (hW : W < 3) (hP : P < 13) (hS : Sn = 384 * P / 13) (hL : Ln = 384 * (P + 1) / 13 - 384 * P / 13) :
    MetFree l (⟨"com/example/vote64/vote64/sketch/ProjectionFingerprint", "piece", "([JII)J"⟩ : MethodName) (head1 (Jvm.Cond.code (⟨"com/example/vote64/vote64/sketch/ProjectionFingerprint", "piece", "([JII)J"⟩ : MethodName) prog_17_method_8_code 9 (some .long) :: ws) ({ frames := 0, cells := 0, slots := 0, locals := 0 } : Room)) (fun a U => a = #[(.ref a0), (.int p1), (.int p2)] ∧ Z.Warmed39 U.vm ∧ U.heap = h0) (fun _ _ _ _ _ => True) (fun _ U o U' => ∃ v L, o = .returned v ∧ own_Q1 Z a0 p1 p2 F W P Sn Ln h0 n0 v U'.heap L ∧ FrameEnd U o U' L ({ frames := 0, cells := 0, slots := 0, locals := 0 } : Room).cells ({ frames := 0, cells := 0, slots := 0, locals := 0 } : Room).slots) := by
  refine MetFree.of_bodySF (plainFor_of_name own_pn0) hisR ?_
  intro p e s m args below meth c s₁ Bd hml0 hP hK
  obtain ⟨rfl, hZ, hh⟩ := hP
  have hx := Bd.exec
  have hby := Bd.bytes
  have hml : c.maxLocals = 9 := hml0
  have hown : s.vm.findClass "com/example/vote64/vote64/sketch/ProjectionFingerprint" = some m.cls := findClass_of_methodNamed Bd.named
  have hnm := (name_of_methodNamed Bd.named Bd.method).1
  have X0 : Stand p l e ({ frames := 0, cells := 0, slots := 0, locals := 0 } : Room) s m #[(.ref a0), (.int p1), (.int p2)] below meth c s₁ [] 0 0 := Stand.of_body Bd
  have e0 : s₁.heap = h0 := by rw [← hh, Bd.state]; rfl
  have N0 := Fr.nil n0
  show own_G p.tables e below s (own_Q1 Z a0 p1 p2 F W P Sn Ln h0 n0) ({ frames := 0, cells := 0, slots := 0, locals := 0 } : Room).cells ({ frames := 0, cells := 0, slots := 0, locals := 0 } : Room).slots (s₁.setTop (entryFrame m #[(.ref a0), (.int p1), (.int p2)] 9))
  refine own_by (fun _ k => castTop (own_ef1 m a0 p1 p2) k) ?_
  show own_G _ _ _ _ _ _ _ (s₁.setTop (mkF m 0 #[.val (.ref a0), .val (.int p1), .val (.int p2), .unset, .unset, .unset, .unset, .unset, .unset] []))
  refine own_by (fun _ k => XS.sipush X0.here hx rfl (hb hby own_d1_0) k) ?_
  show own_G _ _ _ _ _ _ _ (s₁.setTop (mkF m 3 #[.val (.ref a0), .val (.int p1), .val (.int p2), .unset, .unset, .unset, .unset, .unset, .unset] [(.int (384 : Int32))]))
  refine own_by (fun _ k => XS.iloadN X0.here hx rfl (hb hby own_d1_3) rfl  k) ?_
  show own_G _ _ _ _ _ _ _ (s₁.setTop (mkF m 4 #[.val (.ref a0), .val (.int p1), .val (.int p2), .unset, .unset, .unset, .unset, .unset, .unset] [(.int p2), (.int (384 : Int32))]))
  refine own_by (fun _ k => XS.imul X0.here hx rfl (hb hby own_d1_4) rfl k) ?_
  show own_G _ _ _ _ _ _ _ (s₁.setTop (mkF m 5 #[.val (.ref a0), .val (.int p1), .val (.int p2), .unset, .unset, .unset, .unset, .unset, .unset] [(.int ((384 : Int32) * p2))]))
  refine own_by (fun _ k => XS.bipush X0.here hx rfl (hb hby own_d1_5) k) ?_
  show own_G _ _ _ _ _ _ _ (s₁.setTop (mkF m 7 #[.val (.ref a0), .val (.int p1), .val (.int p2), .unset, .unset, .unset, .unset, .unset, .unset] [(.int (13 : Int32)), (.int ((384 : Int32) * p2))]))
  refine own_by (fun _ k => XS.idiv X0.here hx rfl (hb hby own_d1_7) rfl (by decide) k) ?_
  show own_G _ _ _ _ _ _ _ (s₁.setTop (mkF m 8 #[.val (.ref a0), .val (.int p1), .val (.int p2), .unset, .unset, .unset, .unset, .unset, .unset] [(.int (((384 : Int32) * p2) / (13 : Int32)))]))
  refine own_by (fun _ k => XS.istoreN X0.here hx rfl (hb hby own_d1_8) rfl (l' := #[.val (.ref a0), .val (.int p1), .val (.int p2), .val (.int (((384 : Int32) * p2) / (13 : Int32))), .unset, .unset, .unset, .unset, .unset]) rfl k) ?_
  show own_G _ _ _ _ _ _ _ (s₁.setTop (mkF m 9 #[.val (.ref a0), .val (.int p1), .val (.int p2), .val (.int (((384 : Int32) * p2) / (13 : Int32))), .unset, .unset, .unset, .unset, .unset] []))
  generalize hnst : (((384 : Int32) * p2) / (13 : Int32)) = st
  show own_G _ _ _ _ _ _ _ (s₁.setTop (mkF m 9 #[.val (.ref a0), .val (.int p1), .val (.int p2), .val (.int st), .unset, .unset, .unset, .unset, .unset] []))
  have hst : st.toInt = Sn := by rw [← hnst, own_S h2 (by omega), hS]
  refine own_by (fun _ k => XS.sipush X0.here hx rfl (hb hby own_d1_9) k) ?_
  show own_G _ _ _ _ _ _ _ (s₁.setTop (mkF m 12 #[.val (.ref a0), .val (.int p1), .val (.int p2), .val (.int st), .unset, .unset, .unset, .unset, .unset] [(.int (384 : Int32))]))
  refine own_by (fun _ k => XS.iloadN X0.here hx rfl (hb hby own_d1_12) rfl  k) ?_
  show own_G _ _ _ _ _ _ _ (s₁.setTop (mkF m 13 #[.val (.ref a0), .val (.int p1), .val (.int p2), .val (.int st), .unset, .unset, .unset, .unset, .unset] [(.int p2), (.int (384 : Int32))]))
  refine own_by (fun _ k => XS.iconst X0.here hx rfl (hb hby own_d1_13) k) ?_
  show own_G _ _ _ _ _ _ _ (s₁.setTop (mkF m 14 #[.val (.ref a0), .val (.int p1), .val (.int p2), .val (.int st), .unset, .unset, .unset, .unset, .unset] [(.int (1 : Int32)), (.int p2), (.int (384 : Int32))]))
  refine own_by (fun _ k => XS.iadd X0.here hx rfl (hb hby own_d1_14) rfl k) ?_
  show own_G _ _ _ _ _ _ _ (s₁.setTop (mkF m 15 #[.val (.ref a0), .val (.int p1), .val (.int p2), .val (.int st), .unset, .unset, .unset, .unset, .unset] [(.int (p2 + (1 : Int32))), (.int (384 : Int32))]))
  refine own_by (fun _ k => XS.imul X0.here hx rfl (hb hby own_d1_15) rfl k) ?_
  show own_G _ _ _ _ _ _ _ (s₁.setTop (mkF m 16 #[.val (.ref a0), .val (.int p1), .val (.int p2), .val (.int st), .unset, .unset, .unset, .unset, .unset] [(.int ((384 : Int32) * (p2 + (1 : Int32))))]))
  refine own_by (fun _ k => XS.bipush X0.here hx rfl (hb hby own_d1_16) k) ?_
  show own_G _ _ _ _ _ _ _ (s₁.setTop (mkF m 18 #[.val (.ref a0), .val (.int p1), .val (.int p2), .val (.int st), .unset, .unset, .unset, .unset, .unset] [(.int (13 : Int32)), (.int ((384 : Int32) * (p2 + (1 : Int32))))]))
  refine own_by (fun _ k => XS.idiv X0.here hx rfl (hb hby own_d1_18) rfl (by decide) k) ?_
  show own_G _ _ _ _ _ _ _ (s₁.setTop (mkF m 19 #[.val (.ref a0), .val (.int p1), .val (.int p2), .val (.int st), .unset, .unset, .unset, .unset, .unset] [(.int (((384 : Int32) * (p2 + (1 : Int32))) / (13 : Int32)))]))
  refine own_by (fun _ k => XS.iloadN X0.here hx rfl (hb hby own_d1_19) rfl  k) ?_
  show own_G _ _ _ _ _ _ _ (s₁.setTop (mkF m 20 #[.val (.ref a0), .val (.int p1), .val (.int p2), .val (.int st), .unset, .unset, .unset, .unset, .unset] [(.int st), (.int (((384 : Int32) * (p2 + (1 : Int32))) / (13 : Int32)))]))
  refine own_by (fun _ k => XS.isub X0.here hx rfl (hb hby own_d1_20) rfl k) ?_
  show own_G _ _ _ _ _ _ _ (s₁.setTop (mkF m 21 #[.val (.ref a0), .val (.int p1), .val (.int p2), .val (.int st), .unset, .unset, .unset, .unset, .unset] [(.int ((((384 : Int32) * (p2 + (1 : Int32))) / (13 : Int32)) - st))]))
  refine own_by (fun _ k => XS.istore X0.here hx rfl (hb hby own_d1_21) rfl (l' := #[.val (.ref a0), .val (.int p1), .val (.int p2), .val (.int st), .val (.int ((((384 : Int32) * (p2 + (1 : Int32))) / (13 : Int32)) - st)), .unset, .unset, .unset, .unset]) rfl k) ?_
  show own_G _ _ _ _ _ _ _ (s₁.setTop (mkF m 23 #[.val (.ref a0), .val (.int p1), .val (.int p2), .val (.int st), .val (.int ((((384 : Int32) * (p2 + (1 : Int32))) / (13 : Int32)) - st)), .unset, .unset, .unset, .unset] []))
  generalize hnle : ((((384 : Int32) * (p2 + (1 : Int32))) / (13 : Int32)) - st) = le
  show own_G _ _ _ _ _ _ _ (s₁.setTop (mkF m 23 #[.val (.ref a0), .val (.int p1), .val (.int p2), .val (.int st), .val (.int le), .unset, .unset, .unset, .unset] []))
  have hle : le.toInt = Ln := by rw [← hnle, own_sub (own_S (own_add h2 (show (1 : Int32).toInt = (1 : Nat) by decide) (by omega)) (by omega)) hst (by omega), hL, hS]
  refine own_by (fun _ k => XS.iloadN X0.here hx rfl (hb hby own_d1_23) rfl  k) ?_
  show own_G _ _ _ _ _ _ _ (s₁.setTop (mkF m 24 #[.val (.ref a0), .val (.int p1), .val (.int p2), .val (.int st), .val (.int le), .unset, .unset, .unset, .unset] [(.int p1)]))
  refine own_by (fun _ k => XS.iloadN X0.here hx rfl (hb hby own_d1_24) rfl  k) ?_
  show own_G _ _ _ _ _ _ _ (s₁.setTop (mkF m 25 #[.val (.ref a0), .val (.int p1), .val (.int p2), .val (.int st), .val (.int le), .unset, .unset, .unset, .unset] [(.int st), (.int p1)]))
  refine own_by (fun _ k => XS.bipush X0.here hx rfl (hb hby own_d1_25) k) ?_
  show own_G _ _ _ _ _ _ _ (s₁.setTop (mkF m 27 #[.val (.ref a0), .val (.int p1), .val (.int p2), .val (.int st), .val (.int le), .unset, .unset, .unset, .unset] [(.int (64 : Int32)), (.int st), (.int p1)]))
  refine own_by (fun _ k => XS.idiv X0.here hx rfl (hb hby own_d1_27) rfl (by decide) k) ?_
  show own_G _ _ _ _ _ _ _ (s₁.setTop (mkF m 28 #[.val (.ref a0), .val (.int p1), .val (.int p2), .val (.int st), .val (.int le), .unset, .unset, .unset, .unset] [(.int (st / (64 : Int32))), (.int p1)]))
  refine own_by (fun _ k => XS.iadd X0.here hx rfl (hb hby own_d1_28) rfl k) ?_
  show own_G _ _ _ _ _ _ _ (s₁.setTop (mkF m 29 #[.val (.ref a0), .val (.int p1), .val (.int p2), .val (.int st), .val (.int le), .unset, .unset, .unset, .unset] [(.int (p1 + (st / (64 : Int32))))]))
  refine own_by (fun _ k => XS.istore X0.here hx rfl (hb hby own_d1_29) rfl (l' := #[.val (.ref a0), .val (.int p1), .val (.int p2), .val (.int st), .val (.int le), .val (.int (p1 + (st / (64 : Int32)))), .unset, .unset, .unset]) rfl k) ?_
  show own_G _ _ _ _ _ _ _ (s₁.setTop (mkF m 31 #[.val (.ref a0), .val (.int p1), .val (.int p2), .val (.int st), .val (.int le), .val (.int (p1 + (st / (64 : Int32)))), .unset, .unset, .unset] []))
  generalize hnwi : (p1 + (st / (64 : Int32))) = wi
  show own_G _ _ _ _ _ _ _ (s₁.setTop (mkF m 31 #[.val (.ref a0), .val (.int p1), .val (.int p2), .val (.int st), .val (.int le), .val (.int wi), .unset, .unset, .unset] []))
  have hwi : wi.toInt = ((W + Sn / 64 : Nat) : Int) := by rw [← hnwi, own_add h1 (own_div64 hst) (by omega)]
  refine own_by (fun _ k => XS.iloadN X0.here hx rfl (hb hby own_d1_31) rfl  k) ?_
  show own_G _ _ _ _ _ _ _ (s₁.setTop (mkF m 32 #[.val (.ref a0), .val (.int p1), .val (.int p2), .val (.int st), .val (.int le), .val (.int wi), .unset, .unset, .unset] [(.int st)]))
  refine own_by (fun _ k => XS.bipush X0.here hx rfl (hb hby own_d1_32) k) ?_
  show own_G _ _ _ _ _ _ _ (s₁.setTop (mkF m 34 #[.val (.ref a0), .val (.int p1), .val (.int p2), .val (.int st), .val (.int le), .val (.int wi), .unset, .unset, .unset] [(.int (64 : Int32)), (.int st)]))
  refine own_by (fun _ k => iremM (g := (mkF m 34 #[.val (.ref a0), .val (.int p1), .val (.int p2), .val (.int st), .val (.int le), .val (.int wi), .unset, .unset, .unset] [(.int (64 : Int32)), (.int st)])) X0 hx rfl (hb hby own_d1_34) rfl (by decide) k) ?_
  show own_G _ _ _ _ _ _ _ (s₁.setTop (mkF m 35 #[.val (.ref a0), .val (.int p1), .val (.int p2), .val (.int st), .val (.int le), .val (.int wi), .unset, .unset, .unset] [(.int (st % (64 : Int32)))]))
  refine own_by (fun _ k => XS.istore X0.here hx rfl (hb hby own_d1_35) rfl (l' := #[.val (.ref a0), .val (.int p1), .val (.int p2), .val (.int st), .val (.int le), .val (.int wi), .val (.int (st % (64 : Int32))), .unset, .unset]) rfl k) ?_
  show own_G _ _ _ _ _ _ _ (s₁.setTop (mkF m 37 #[.val (.ref a0), .val (.int p1), .val (.int p2), .val (.int st), .val (.int le), .val (.int wi), .val (.int (st % (64 : Int32))), .unset, .unset] []))
  generalize hnsh : (st % (64 : Int32)) = sh
  show own_G _ _ _ _ _ _ _ (s₁.setTop (mkF m 37 #[.val (.ref a0), .val (.int p1), .val (.int p2), .val (.int st), .val (.int le), .val (.int wi), .val (.int sh), .unset, .unset] []))
  have hsh : sh.toInt = ((Sn % 64 : Nat) : Int) := by rw [← hnsh, own_mod64 hst]
  refine own_by (fun _ k => XS.aloadN X0.here hx rfl (hb hby own_d1_37) rfl rfl k) ?_
  show own_G _ _ _ _ _ _ _ (s₁.setTop (mkF m 38 #[.val (.ref a0), .val (.int p1), .val (.int p2), .val (.int st), .val (.int le), .val (.int wi), .val (.int sh), .unset, .unset] [(.ref a0)]))
  refine own_by (fun _ k => XS.iload X0.here hx rfl (hb hby own_d1_38) rfl  k) ?_
  show own_G _ _ _ _ _ _ _ (s₁.setTop (mkF m 40 #[.val (.ref a0), .val (.int p1), .val (.int p2), .val (.int st), .val (.int le), .val (.int wi), .val (.int sh), .unset, .unset] [(.int wi), (.ref a0)]))
  refine own_by (own_ldJ X0 hx hZ e0 VA (k := (W + Sn / 64)) hwi (by omega) (g := (mkF m 40 #[.val (.ref a0), .val (.int p1), .val (.int p2), .val (.int st), .val (.int le), .val (.int wi), .val (.int sh), .unset, .unset] [(.int wi), (.ref a0)])) rfl rfl (hb hby own_d1_40)) ?_
  show own_G _ _ _ _ _ _ _ (s₁.setTop (mkF m 41 #[.val (.ref a0), .val (.int p1), .val (.int p2), .val (.int st), .val (.int le), .val (.int wi), .val (.int sh), .unset, .unset] [(.long (F (W + Sn / 64)))]))
  refine own_by (fun _ k => XS.iload X0.here hx rfl (hb hby own_d1_41) rfl  k) ?_
  show own_G _ _ _ _ _ _ _ (s₁.setTop (mkF m 43 #[.val (.ref a0), .val (.int p1), .val (.int p2), .val (.int st), .val (.int le), .val (.int wi), .val (.int sh), .unset, .unset] [(.int sh), (.long (F (W + Sn / 64)))]))
  refine own_by (fun _ k => XT.lushr X0.here hx rfl (hb hby own_d1_43) rfl k) ?_
  show own_G _ _ _ _ _ _ _ (s₁.setTop (mkF m 44 #[.val (.ref a0), .val (.int p1), .val (.int p2), .val (.int st), .val (.int le), .val (.int wi), .val (.int sh), .unset, .unset] [(.long (XT.ushrL (F (W + Sn / 64)) sh))]))
  refine own_by (fun _ k => XT.lstore X0.here hx rfl (hb hby own_d1_44) rfl (l' := #[.val (.ref a0), .val (.int p1), .val (.int p2), .val (.int st), .val (.int le), .val (.int wi), .val (.int sh), .val (.long (XT.ushrL (F (W + Sn / 64)) sh)), .second]) rfl k) ?_
  show own_G _ _ _ _ _ _ _ (s₁.setTop (mkF m 46 #[.val (.ref a0), .val (.int p1), .val (.int p2), .val (.int st), .val (.int le), .val (.int wi), .val (.int sh), .val (.long (XT.ushrL (F (W + Sn / 64)) sh)), .second] []))
  refine own_by (fun _ k => XS.iload X0.here hx rfl (hb hby own_d1_46) rfl  k) ?_
  show own_G _ _ _ _ _ _ _ (s₁.setTop (mkF m 48 #[.val (.ref a0), .val (.int p1), .val (.int p2), .val (.int st), .val (.int le), .val (.int wi), .val (.int sh), .val (.long (XT.ushrL (F (W + Sn / 64)) sh)), .second] [(.int sh)]))
  refine own_by (fun _ k => XS.iload X0.here hx rfl (hb hby own_d1_48) rfl  k) ?_
  show own_G _ _ _ _ _ _ _ (s₁.setTop (mkF m 50 #[.val (.ref a0), .val (.int p1), .val (.int p2), .val (.int st), .val (.int le), .val (.int wi), .val (.int sh), .val (.long (XT.ushrL (F (W + Sn / 64)) sh)), .second] [(.int le), (.int sh)]))
  refine own_by (fun _ k => XS.iadd X0.here hx rfl (hb hby own_d1_50) rfl k) ?_
  show own_G _ _ _ _ _ _ _ (s₁.setTop (mkF m 51 #[.val (.ref a0), .val (.int p1), .val (.int p2), .val (.int st), .val (.int le), .val (.int wi), .val (.int sh), .val (.long (XT.ushrL (F (W + Sn / 64)) sh)), .second] [(.int (sh + le))]))
  refine own_by (fun _ k => XS.bipush X0.here hx rfl (hb hby own_d1_51) k) ?_
  show own_G _ _ _ _ _ _ _ (s₁.setTop (mkF m 53 #[.val (.ref a0), .val (.int p1), .val (.int p2), .val (.int st), .val (.int le), .val (.int wi), .val (.int sh), .val (.long (XT.ushrL (F (W + Sn / 64)) sh)), .second] [(.int (64 : Int32)), (.int (sh + le))]))
  by_cases hc53 : (64 : Int32) < (sh + le)
  · refine own_by (fun _ k => XS.icmpNo X0.here hx rfl (hb hby own_d1_53) rfl (XT.ii_le_f hc53) k) ?_
    show own_G _ _ _ _ _ _ _ (s₁.setTop (mkF m 56 #[.val (.ref a0), .val (.int p1), .val (.int p2), .val (.int st), .val (.int le), .val (.int wi), .val (.int sh), .val (.long (XT.ushrL (F (W + Sn / 64)) sh)), .second] []))
    refine own_by (fun _ k => XT.lload X0.here hx rfl (hb hby own_d1_56) rfl  k) ?_
    show own_G _ _ _ _ _ _ _ (s₁.setTop (mkF m 58 #[.val (.ref a0), .val (.int p1), .val (.int p2), .val (.int st), .val (.int le), .val (.int wi), .val (.int sh), .val (.long (XT.ushrL (F (W + Sn / 64)) sh)), .second] [(.long (XT.ushrL (F (W + Sn / 64)) sh))]))
    refine own_by (fun _ k => XS.aloadN X0.here hx rfl (hb hby own_d1_58) rfl rfl k) ?_
    show own_G _ _ _ _ _ _ _ (s₁.setTop (mkF m 59 #[.val (.ref a0), .val (.int p1), .val (.int p2), .val (.int st), .val (.int le), .val (.int wi), .val (.int sh), .val (.long (XT.ushrL (F (W + Sn / 64)) sh)), .second] [(.ref a0), (.long (XT.ushrL (F (W + Sn / 64)) sh))]))
    refine own_by (fun _ k => XS.iload X0.here hx rfl (hb hby own_d1_59) rfl  k) ?_
    show own_G _ _ _ _ _ _ _ (s₁.setTop (mkF m 61 #[.val (.ref a0), .val (.int p1), .val (.int p2), .val (.int st), .val (.int le), .val (.int wi), .val (.int sh), .val (.long (XT.ushrL (F (W + Sn / 64)) sh)), .second] [(.int wi), (.ref a0), (.long (XT.ushrL (F (W + Sn / 64)) sh))]))
    refine own_by (fun _ k => XS.iconst X0.here hx rfl (hb hby own_d1_61) k) ?_
    show own_G _ _ _ _ _ _ _ (s₁.setTop (mkF m 62 #[.val (.ref a0), .val (.int p1), .val (.int p2), .val (.int st), .val (.int le), .val (.int wi), .val (.int sh), .val (.long (XT.ushrL (F (W + Sn / 64)) sh)), .second] [(.int (1 : Int32)), (.int wi), (.ref a0), (.long (XT.ushrL (F (W + Sn / 64)) sh))]))
    refine own_by (fun _ k => XS.iadd X0.here hx rfl (hb hby own_d1_62) rfl k) ?_
    show own_G _ _ _ _ _ _ _ (s₁.setTop (mkF m 63 #[.val (.ref a0), .val (.int p1), .val (.int p2), .val (.int st), .val (.int le), .val (.int wi), .val (.int sh), .val (.long (XT.ushrL (F (W + Sn / 64)) sh)), .second] [(.int (wi + (1 : Int32))), (.ref a0), (.long (XT.ushrL (F (W + Sn / 64)) sh))]))
    refine own_by (own_ldJ X0 hx hZ e0 VA (k := (W + Sn / 64 + 1)) (own_add hwi (show (1 : Int32).toInt = (1 : Nat) by decide) (by omega)) (by have := (own_lt (show (64 : Int32).toInt = (64 : Nat) by decide) (own_add hsh hle (by omega))).mp hc53; omega) (g := (mkF m 63 #[.val (.ref a0), .val (.int p1), .val (.int p2), .val (.int st), .val (.int le), .val (.int wi), .val (.int sh), .val (.long (XT.ushrL (F (W + Sn / 64)) sh)), .second] [(.int (wi + (1 : Int32))), (.ref a0), (.long (XT.ushrL (F (W + Sn / 64)) sh))])) rfl rfl (hb hby own_d1_63)) ?_
    show own_G _ _ _ _ _ _ _ (s₁.setTop (mkF m 64 #[.val (.ref a0), .val (.int p1), .val (.int p2), .val (.int st), .val (.int le), .val (.int wi), .val (.int sh), .val (.long (XT.ushrL (F (W + Sn / 64)) sh)), .second] [(.long (F (W + Sn / 64 + 1))), (.long (XT.ushrL (F (W + Sn / 64)) sh))]))
    refine own_by (fun _ k => XS.bipush X0.here hx rfl (hb hby own_d1_64) k) ?_
    show own_G _ _ _ _ _ _ _ (s₁.setTop (mkF m 66 #[.val (.ref a0), .val (.int p1), .val (.int p2), .val (.int st), .val (.int le), .val (.int wi), .val (.int sh), .val (.long (XT.ushrL (F (W + Sn / 64)) sh)), .second] [(.int (64 : Int32)), (.long (F (W + Sn / 64 + 1))), (.long (XT.ushrL (F (W + Sn / 64)) sh))]))
    refine own_by (fun _ k => XS.iload X0.here hx rfl (hb hby own_d1_66) rfl  k) ?_
    show own_G _ _ _ _ _ _ _ (s₁.setTop (mkF m 68 #[.val (.ref a0), .val (.int p1), .val (.int p2), .val (.int st), .val (.int le), .val (.int wi), .val (.int sh), .val (.long (XT.ushrL (F (W + Sn / 64)) sh)), .second] [(.int sh), (.int (64 : Int32)), (.long (F (W + Sn / 64 + 1))), (.long (XT.ushrL (F (W + Sn / 64)) sh))]))
    refine own_by (fun _ k => XS.isub X0.here hx rfl (hb hby own_d1_68) rfl k) ?_
    show own_G _ _ _ _ _ _ _ (s₁.setTop (mkF m 69 #[.val (.ref a0), .val (.int p1), .val (.int p2), .val (.int st), .val (.int le), .val (.int wi), .val (.int sh), .val (.long (XT.ushrL (F (W + Sn / 64)) sh)), .second] [(.int ((64 : Int32) - sh)), (.long (F (W + Sn / 64 + 1))), (.long (XT.ushrL (F (W + Sn / 64)) sh))]))
    refine own_by (fun _ k => XT.lshl X0.here hx rfl (hb hby own_d1_69) rfl k) ?_
    show own_G _ _ _ _ _ _ _ (s₁.setTop (mkF m 70 #[.val (.ref a0), .val (.int p1), .val (.int p2), .val (.int st), .val (.int le), .val (.int wi), .val (.int sh), .val (.long (XT.ushrL (F (W + Sn / 64)) sh)), .second] [(.long ((F (W + Sn / 64 + 1)) <<< (((64 : Int32) - sh).toInt64 &&& 63))), (.long (XT.ushrL (F (W + Sn / 64)) sh))]))
    refine own_by (fun _ k => XT.lor X0.here hx rfl (hb hby own_d1_70) rfl k) ?_
    show own_G _ _ _ _ _ _ _ (s₁.setTop (mkF m 71 #[.val (.ref a0), .val (.int p1), .val (.int p2), .val (.int st), .val (.int le), .val (.int wi), .val (.int sh), .val (.long (XT.ushrL (F (W + Sn / 64)) sh)), .second] [(.long ((XT.ushrL (F (W + Sn / 64)) sh) ||| ((F (W + Sn / 64 + 1)) <<< (((64 : Int32) - sh).toInt64 &&& 63))))]))
    refine own_by (fun _ k => XT.lstore X0.here hx rfl (hb hby own_d1_71) rfl (l' := #[.val (.ref a0), .val (.int p1), .val (.int p2), .val (.int st), .val (.int le), .val (.int wi), .val (.int sh), .val (.long ((XT.ushrL (F (W + Sn / 64)) sh) ||| ((F (W + Sn / 64 + 1)) <<< (((64 : Int32) - sh).toInt64 &&& 63)))), .second]) rfl k) ?_
    show own_G _ _ _ _ _ _ _ (s₁.setTop (mkF m 73 #[.val (.ref a0), .val (.int p1), .val (.int p2), .val (.int st), .val (.int le), .val (.int wi), .val (.int sh), .val (.long ((XT.ushrL (F (W + Sn / 64)) sh) ||| ((F (W + Sn / 64 + 1)) <<< (((64 : Int32) - sh).toInt64 &&& 63)))), .second] []))
    refine own_by (fun _ k => XT.lload X0.here hx rfl (hb hby own_d1_73) rfl  k) ?_
    show own_G _ _ _ _ _ _ _ (s₁.setTop (mkF m 75 #[.val (.ref a0), .val (.int p1), .val (.int p2), .val (.int st), .val (.int le), .val (.int wi), .val (.int sh), .val (.long ((XT.ushrL (F (W + Sn / 64)) sh) ||| ((F (W + Sn / 64 + 1)) <<< (((64 : Int32) - sh).toInt64 &&& 63)))), .second] [(.long ((XT.ushrL (F (W + Sn / 64)) sh) ||| ((F (W + Sn / 64 + 1)) <<< (((64 : Int32) - sh).toInt64 &&& 63))))]))
    refine own_by (fun _ k => XT.lconst X0.here hx rfl (hb hby own_d1_75) k) ?_
    show own_G _ _ _ _ _ _ _ (s₁.setTop (mkF m 76 #[.val (.ref a0), .val (.int p1), .val (.int p2), .val (.int st), .val (.int le), .val (.int wi), .val (.int sh), .val (.long ((XT.ushrL (F (W + Sn / 64)) sh) ||| ((F (W + Sn / 64 + 1)) <<< (((64 : Int32) - sh).toInt64 &&& 63)))), .second] [(.long (1 : Int64)), (.long ((XT.ushrL (F (W + Sn / 64)) sh) ||| ((F (W + Sn / 64 + 1)) <<< (((64 : Int32) - sh).toInt64 &&& 63))))]))
    refine own_by (fun _ k => XS.iload X0.here hx rfl (hb hby own_d1_76) rfl  k) ?_
    show own_G _ _ _ _ _ _ _ (s₁.setTop (mkF m 78 #[.val (.ref a0), .val (.int p1), .val (.int p2), .val (.int st), .val (.int le), .val (.int wi), .val (.int sh), .val (.long ((XT.ushrL (F (W + Sn / 64)) sh) ||| ((F (W + Sn / 64 + 1)) <<< (((64 : Int32) - sh).toInt64 &&& 63)))), .second] [(.int le), (.long (1 : Int64)), (.long ((XT.ushrL (F (W + Sn / 64)) sh) ||| ((F (W + Sn / 64 + 1)) <<< (((64 : Int32) - sh).toInt64 &&& 63))))]))
    refine own_by (fun _ k => XT.lshl X0.here hx rfl (hb hby own_d1_78) rfl k) ?_
    show own_G _ _ _ _ _ _ _ (s₁.setTop (mkF m 79 #[.val (.ref a0), .val (.int p1), .val (.int p2), .val (.int st), .val (.int le), .val (.int wi), .val (.int sh), .val (.long ((XT.ushrL (F (W + Sn / 64)) sh) ||| ((F (W + Sn / 64 + 1)) <<< (((64 : Int32) - sh).toInt64 &&& 63)))), .second] [(.long ((1 : Int64) <<< (le.toInt64 &&& 63))), (.long ((XT.ushrL (F (W + Sn / 64)) sh) ||| ((F (W + Sn / 64 + 1)) <<< (((64 : Int32) - sh).toInt64 &&& 63))))]))
    refine own_by (fun _ k => XT.lconst X0.here hx rfl (hb hby own_d1_79) k) ?_
    show own_G _ _ _ _ _ _ _ (s₁.setTop (mkF m 80 #[.val (.ref a0), .val (.int p1), .val (.int p2), .val (.int st), .val (.int le), .val (.int wi), .val (.int sh), .val (.long ((XT.ushrL (F (W + Sn / 64)) sh) ||| ((F (W + Sn / 64 + 1)) <<< (((64 : Int32) - sh).toInt64 &&& 63)))), .second] [(.long (1 : Int64)), (.long ((1 : Int64) <<< (le.toInt64 &&& 63))), (.long ((XT.ushrL (F (W + Sn / 64)) sh) ||| ((F (W + Sn / 64 + 1)) <<< (((64 : Int32) - sh).toInt64 &&& 63))))]))
    refine own_by (fun _ k => XT.lsub X0.here hx rfl (hb hby own_d1_80) rfl k) ?_
    show own_G _ _ _ _ _ _ _ (s₁.setTop (mkF m 81 #[.val (.ref a0), .val (.int p1), .val (.int p2), .val (.int st), .val (.int le), .val (.int wi), .val (.int sh), .val (.long ((XT.ushrL (F (W + Sn / 64)) sh) ||| ((F (W + Sn / 64 + 1)) <<< (((64 : Int32) - sh).toInt64 &&& 63)))), .second] [(.long (((1 : Int64) <<< (le.toInt64 &&& 63)) - (1 : Int64))), (.long ((XT.ushrL (F (W + Sn / 64)) sh) ||| ((F (W + Sn / 64 + 1)) <<< (((64 : Int32) - sh).toInt64 &&& 63))))]))
    refine own_by (fun _ k => XT.land X0.here hx rfl (hb hby own_d1_81) rfl k) ?_
    show own_G _ _ _ _ _ _ _ (s₁.setTop (mkF m 82 #[.val (.ref a0), .val (.int p1), .val (.int p2), .val (.int st), .val (.int le), .val (.int wi), .val (.int sh), .val (.long ((XT.ushrL (F (W + Sn / 64)) sh) ||| ((F (W + Sn / 64 + 1)) <<< (((64 : Int32) - sh).toInt64 &&& 63)))), .second] [(.long (((XT.ushrL (F (W + Sn / 64)) sh) ||| ((F (W + Sn / 64 + 1)) <<< (((64 : Int32) - sh).toInt64 &&& 63))) &&& (((1 : Int64) <<< (le.toInt64 &&& 63)) - (1 : Int64))))]))
    exact own_end X0 (v := some (.long (((XT.ushrL (F (W + Sn / 64)) sh) ||| ((F (W + Sn / 64 + 1)) <<< (((64 : Int32) - sh).toInt64 &&& 63))) &&& (((1 : Int64) <<< (le.toInt64 &&& 63)) - (1 : Int64))))) (fun h => by rw [Bd.returns] at h; cases h) (BodyLoose.notSynchronized Bd) (fun fs hr => X0.lreturnOut hx Bd.returns (hb hby own_d1_82) hr) (by rw [e0]; exact ⟨(by rw [own_piece, if_pos ((own_lt (show (64 : Int32).toInt = (64 : Nat) by decide) (own_add hsh hle (by omega))).mp hc53), ← own_nat hsh, ← own_nat hle]), N0, rfl⟩) (by decide) (by decide)
  · refine own_by (fun _ k => XS.icmpYes X0.here hx rfl (pc0 := 53) (pc' := 73) rfl (hb hby own_d1_53) rfl (XT.ii_le_t hc53) (by decide) (by decide) k) ?_
    show own_G _ _ _ _ _ _ _ (s₁.setTop (mkF m 73 #[.val (.ref a0), .val (.int p1), .val (.int p2), .val (.int st), .val (.int le), .val (.int wi), .val (.int sh), .val (.long (XT.ushrL (F (W + Sn / 64)) sh)), .second] []))
    refine own_by (fun _ k => XT.lload X0.here hx rfl (hb hby own_d1_73) rfl  k) ?_
    show own_G _ _ _ _ _ _ _ (s₁.setTop (mkF m 75 #[.val (.ref a0), .val (.int p1), .val (.int p2), .val (.int st), .val (.int le), .val (.int wi), .val (.int sh), .val (.long (XT.ushrL (F (W + Sn / 64)) sh)), .second] [(.long (XT.ushrL (F (W + Sn / 64)) sh))]))
    refine own_by (fun _ k => XT.lconst X0.here hx rfl (hb hby own_d1_75) k) ?_
    show own_G _ _ _ _ _ _ _ (s₁.setTop (mkF m 76 #[.val (.ref a0), .val (.int p1), .val (.int p2), .val (.int st), .val (.int le), .val (.int wi), .val (.int sh), .val (.long (XT.ushrL (F (W + Sn / 64)) sh)), .second] [(.long (1 : Int64)), (.long (XT.ushrL (F (W + Sn / 64)) sh))]))
    refine own_by (fun _ k => XS.iload X0.here hx rfl (hb hby own_d1_76) rfl  k) ?_
    show own_G _ _ _ _ _ _ _ (s₁.setTop (mkF m 78 #[.val (.ref a0), .val (.int p1), .val (.int p2), .val (.int st), .val (.int le), .val (.int wi), .val (.int sh), .val (.long (XT.ushrL (F (W + Sn / 64)) sh)), .second] [(.int le), (.long (1 : Int64)), (.long (XT.ushrL (F (W + Sn / 64)) sh))]))
    refine own_by (fun _ k => XT.lshl X0.here hx rfl (hb hby own_d1_78) rfl k) ?_
    show own_G _ _ _ _ _ _ _ (s₁.setTop (mkF m 79 #[.val (.ref a0), .val (.int p1), .val (.int p2), .val (.int st), .val (.int le), .val (.int wi), .val (.int sh), .val (.long (XT.ushrL (F (W + Sn / 64)) sh)), .second] [(.long ((1 : Int64) <<< (le.toInt64 &&& 63))), (.long (XT.ushrL (F (W + Sn / 64)) sh))]))
    refine own_by (fun _ k => XT.lconst X0.here hx rfl (hb hby own_d1_79) k) ?_
    show own_G _ _ _ _ _ _ _ (s₁.setTop (mkF m 80 #[.val (.ref a0), .val (.int p1), .val (.int p2), .val (.int st), .val (.int le), .val (.int wi), .val (.int sh), .val (.long (XT.ushrL (F (W + Sn / 64)) sh)), .second] [(.long (1 : Int64)), (.long ((1 : Int64) <<< (le.toInt64 &&& 63))), (.long (XT.ushrL (F (W + Sn / 64)) sh))]))
    refine own_by (fun _ k => XT.lsub X0.here hx rfl (hb hby own_d1_80) rfl k) ?_
    show own_G _ _ _ _ _ _ _ (s₁.setTop (mkF m 81 #[.val (.ref a0), .val (.int p1), .val (.int p2), .val (.int st), .val (.int le), .val (.int wi), .val (.int sh), .val (.long (XT.ushrL (F (W + Sn / 64)) sh)), .second] [(.long (((1 : Int64) <<< (le.toInt64 &&& 63)) - (1 : Int64))), (.long (XT.ushrL (F (W + Sn / 64)) sh))]))
    refine own_by (fun _ k => XT.land X0.here hx rfl (hb hby own_d1_81) rfl k) ?_
    show own_G _ _ _ _ _ _ _ (s₁.setTop (mkF m 82 #[.val (.ref a0), .val (.int p1), .val (.int p2), .val (.int st), .val (.int le), .val (.int wi), .val (.int sh), .val (.long (XT.ushrL (F (W + Sn / 64)) sh)), .second] [(.long ((XT.ushrL (F (W + Sn / 64)) sh) &&& (((1 : Int64) <<< (le.toInt64 &&& 63)) - (1 : Int64))))]))
    exact own_end X0 (v := some (.long ((XT.ushrL (F (W + Sn / 64)) sh) &&& (((1 : Int64) <<< (le.toInt64 &&& 63)) - (1 : Int64))))) (fun h => by rw [Bd.returns] at h; cases h) (BodyLoose.notSynchronized Bd) (fun fs hr => X0.lreturnOut hx Bd.returns (hb hby own_d1_82) hr) (by rw [e0]; exact ⟨(by rw [own_piece, if_neg (fun z => hc53 ((own_lt (show (64 : Int32).toInt = (64 : Nat) by decide) (own_add hsh hle (by omega))).mpr z)), ← own_nat hsh, ← own_nat hle]), N0, rfl⟩) (by decide) (by decide)
theorem own_pd0 : parseMethodDescriptor "([JII)J" = some ⟨[(.array .long), .int, .int], some .long⟩ := by decide +kernel
theorem own_pn1 : plainName "com/example/vote64/vote64/sketch/ProjectionFingerprintPiecePinLaw" = true := by first | (simp [plainName, overriddenIn]; done) | decide +kernel
theorem own_ef0 (m : MethodId) (x0 : Int32) (x1 : Int32) (x2 : Int32) (x3 : Int64) (x4 : Int64) : entryFrame m #[(.int x0), (.int x1), (.int x2), (.long x3), (.long x4)] maxLocals = mkF m 0 #[.val (.int x0), .val (.int x1), .val (.int x2), .val (.long x3), .second, .val (.long x4), .second, .unset, .unset, .unset, .unset, .unset, .unset, .unset, .unset, .unset, .unset, .unset, .unset, .unset, .unset, .unset] [] := by first | (simp [entryFrame, mkF, argsToLocals, Value.category, maxLocals]; done) | rfl
def own_Q0 (Z : State) (p0 : Int32) (p1 : Int32) (p2 : Int32) (q3 : Int64) (q4 : Int64) (h0 : Heap) (n0 : Nat) (v : Option Value) (h : Heap) (L : List Loc) : Prop := v = some (.int 1) ∧ Fr n0 L
set_option maxRecDepth 65536 in
set_option maxHeartbeats 40000000 in
theorem rm0 (l : Launch) (Z : State) (aw : Array Value) (hw : ∀ d ∈ tables_1, d.before aw Z = true) (ws : List Jvm.Cond) (p0 : Int32) (p1 : Int32) (p2 : Int32) (q3 : Int64) (q4 : Int64) (h0 : Heap) (n0 : Nat) (Z0 : n0 ≤ h0.size) :
    MetFree l x (head1 (Jvm.Cond.code x code maxLocals ret :: ws) room_1) (fun a U => a = #[(.int p0), (.int p1), (.int p2), (.long q3), (.long q4)] ∧ Z.Warmed39 U.vm ∧ U.heap = h0) (fun _ _ _ _ _ => True) (fun _ U o U' => ∃ v L, o = .returned v ∧ own_Q0 Z p0 p1 p2 q3 q4 h0 n0 v U'.heap L ∧ FrameEnd U o U' L room_1.cells room_1.slots) := by
  refine MetFree.of_bodySF (plainFor_of_name own_pn1) hisR ?_
  intro p e s m args below meth c s₁ Bd hml0 hP hK
  obtain ⟨rfl, hZ, hh⟩ := hP
  have hx := Bd.exec
  have hby := Bd.bytes
  have hml : c.maxLocals = 22 := hml0
  have hown : s.vm.findClass "com/example/vote64/vote64/sketch/ProjectionFingerprintPiecePinLaw" = some m.cls := findClass_of_methodNamed Bd.named
  have hnm := (name_of_methodNamed Bd.named Bd.method).1
  have X0 : Stand p l e room_1 s m #[(.int p0), (.int p1), (.int p2), (.long q3), (.long q4)] below meth c s₁ [] 0 0 := Stand.of_body Bd
  have e0 : s₁.heap = h0 := by rw [← hh, Bd.state]; rfl
  have N0 := Fr.nil n0
  show own_G p.tables e below s (own_Q0 Z p0 p1 p2 q3 q4 h0 n0) room_1.cells room_1.slots (s₁.setTop (entryFrame m #[(.int p0), (.int p1), (.int p2), (.long q3), (.long q4)] maxLocals))
  refine own_by (fun _ k => castTop (own_ef0 m p0 p1 p2 q3 q4) k) ?_
  show own_G _ _ _ _ _ _ _ (s₁.setTop (mkF m 0 #[.val (.int p0), .val (.int p1), .val (.int p2), .val (.long q3), .second, .val (.long q4), .second, .unset, .unset, .unset, .unset, .unset, .unset, .unset, .unset, .unset, .unset, .unset, .unset, .unset, .unset, .unset] []))
  refine own_by (fun _ k => XS.iloadN X0.here hx rfl (hb hby at_0) rfl  k) ?_
  show own_G _ _ _ _ _ _ _ (s₁.setTop (mkF m 1 #[.val (.int p0), .val (.int p1), .val (.int p2), .val (.long q3), .second, .val (.long q4), .second, .unset, .unset, .unset, .unset, .unset, .unset, .unset, .unset, .unset, .unset, .unset, .unset, .unset, .unset, .unset] [(.int p0)]))
  refine own_by (X0.ldcInt hx hown (mvT hZ (hw _ (List.mem_of_getElem? (i := 0) rfl))) (g := (mkF m 1 #[.val (.int p0), .val (.int p1), .val (.int p2), .val (.long q3), .second, .val (.long q4), .second, .unset, .unset, .unset, .unset, .unset, .unset, .unset, .unset, .unset, .unset, .unset, .unset, .unset, .unset, .unset] [(.int p0)])) rfl (hb hby at_1)) ?_
  show own_G _ _ _ _ _ _ _ (s₁.setTop (mkF m 3 #[.val (.int p0), .val (.int p1), .val (.int p2), .val (.long q3), .second, .val (.long q4), .second, .unset, .unset, .unset, .unset, .unset, .unset, .unset, .unset, .unset, .unset, .unset, .unset, .unset, .unset, .unset] [(.int (2147483647 : Int32)), (.int p0)]))
  refine own_by (fun _ k => XS.iand X0.here hx rfl (hb hby at_3) rfl k) ?_
  show own_G _ _ _ _ _ _ _ (s₁.setTop (mkF m 4 #[.val (.int p0), .val (.int p1), .val (.int p2), .val (.long q3), .second, .val (.long q4), .second, .unset, .unset, .unset, .unset, .unset, .unset, .unset, .unset, .unset, .unset, .unset, .unset, .unset, .unset, .unset] [(.int (p0 &&& (2147483647 : Int32)))]))
  refine own_by (fun _ k => XS.bipush X0.here hx rfl (hb hby at_4) k) ?_
  show own_G _ _ _ _ _ _ _ (s₁.setTop (mkF m 6 #[.val (.int p0), .val (.int p1), .val (.int p2), .val (.long q3), .second, .val (.long q4), .second, .unset, .unset, .unset, .unset, .unset, .unset, .unset, .unset, .unset, .unset, .unset, .unset, .unset, .unset, .unset] [(.int (13 : Int32)), (.int (p0 &&& (2147483647 : Int32)))]))
  refine own_by (fun _ k => iremM (g := (mkF m 6 #[.val (.int p0), .val (.int p1), .val (.int p2), .val (.long q3), .second, .val (.long q4), .second, .unset, .unset, .unset, .unset, .unset, .unset, .unset, .unset, .unset, .unset, .unset, .unset, .unset, .unset, .unset] [(.int (13 : Int32)), (.int (p0 &&& (2147483647 : Int32)))])) X0 hx rfl (hb hby at_6) rfl (by decide) k) ?_
  show own_G _ _ _ _ _ _ _ (s₁.setTop (mkF m 7 #[.val (.int p0), .val (.int p1), .val (.int p2), .val (.long q3), .second, .val (.long q4), .second, .unset, .unset, .unset, .unset, .unset, .unset, .unset, .unset, .unset, .unset, .unset, .unset, .unset, .unset, .unset] [(.int ((p0 &&& (2147483647 : Int32)) % (13 : Int32)))]))
  refine own_by (fun _ k => XS.istore X0.here hx rfl (hb hby at_7) rfl (l' := #[.val (.int p0), .val (.int p1), .val (.int p2), .val (.long q3), .second, .val (.long q4), .second, .val (.int ((p0 &&& (2147483647 : Int32)) % (13 : Int32))), .unset, .unset, .unset, .unset, .unset, .unset, .unset, .unset, .unset, .unset, .unset, .unset, .unset, .unset]) rfl k) ?_
  show own_G _ _ _ _ _ _ _ (s₁.setTop (mkF m 9 #[.val (.int p0), .val (.int p1), .val (.int p2), .val (.long q3), .second, .val (.long q4), .second, .val (.int ((p0 &&& (2147483647 : Int32)) % (13 : Int32))), .unset, .unset, .unset, .unset, .unset, .unset, .unset, .unset, .unset, .unset, .unset, .unset, .unset, .unset] []))
  generalize hnpp : ((p0 &&& (2147483647 : Int32)) % (13 : Int32)) = pp
  show own_G _ _ _ _ _ _ _ (s₁.setTop (mkF m 9 #[.val (.int p0), .val (.int p1), .val (.int p2), .val (.long q3), .second, .val (.long q4), .second, .val (.int pp), .unset, .unset, .unset, .unset, .unset, .unset, .unset, .unset, .unset, .unset, .unset, .unset, .unset, .unset] []))
  obtain ⟨P, hpp, hP⟩ : ∃ P : Nat, pp.toInt = P ∧ P < 13 := by rw [← hnpp]; exact own_remN _ _ 13 (by decide) (by decide)
  refine own_by (fun _ k => XS.iloadN X0.here hx rfl (hb hby at_9) rfl  k) ?_
  show own_G _ _ _ _ _ _ _ (s₁.setTop (mkF m 10 #[.val (.int p0), .val (.int p1), .val (.int p2), .val (.long q3), .second, .val (.long q4), .second, .val (.int pp), .unset, .unset, .unset, .unset, .unset, .unset, .unset, .unset, .unset, .unset, .unset, .unset, .unset, .unset] [(.int p1)]))
  refine own_by (fun _ k => XS.bipush X0.here hx rfl (hb hby at_10) k) ?_
  show own_G _ _ _ _ _ _ _ (s₁.setTop (mkF m 12 #[.val (.int p0), .val (.int p1), .val (.int p2), .val (.long q3), .second, .val (.long q4), .second, .val (.int pp), .unset, .unset, .unset, .unset, .unset, .unset, .unset, .unset, .unset, .unset, .unset, .unset, .unset, .unset] [(.int (63 : Int32)), (.int p1)]))
  refine own_by (fun _ k => XS.iand X0.here hx rfl (hb hby at_12) rfl k) ?_
  show own_G _ _ _ _ _ _ _ (s₁.setTop (mkF m 13 #[.val (.int p0), .val (.int p1), .val (.int p2), .val (.long q3), .second, .val (.long q4), .second, .val (.int pp), .unset, .unset, .unset, .unset, .unset, .unset, .unset, .unset, .unset, .unset, .unset, .unset, .unset, .unset] [(.int (p1 &&& (63 : Int32)))]))
  refine own_by (fun _ k => XS.istore X0.here hx rfl (hb hby at_13) rfl (l' := #[.val (.int p0), .val (.int p1), .val (.int p2), .val (.long q3), .second, .val (.long q4), .second, .val (.int pp), .val (.int (p1 &&& (63 : Int32))), .unset, .unset, .unset, .unset, .unset, .unset, .unset, .unset, .unset, .unset, .unset, .unset, .unset]) rfl k) ?_
  show own_G _ _ _ _ _ _ _ (s₁.setTop (mkF m 15 #[.val (.int p0), .val (.int p1), .val (.int p2), .val (.long q3), .second, .val (.long q4), .second, .val (.int pp), .val (.int (p1 &&& (63 : Int32))), .unset, .unset, .unset, .unset, .unset, .unset, .unset, .unset, .unset, .unset, .unset, .unset, .unset] []))
  generalize hnjj : (p1 &&& (63 : Int32)) = jj
  show own_G _ _ _ _ _ _ _ (s₁.setTop (mkF m 15 #[.val (.int p0), .val (.int p1), .val (.int p2), .val (.long q3), .second, .val (.long q4), .second, .val (.int pp), .val (.int jj), .unset, .unset, .unset, .unset, .unset, .unset, .unset, .unset, .unset, .unset, .unset, .unset, .unset] []))
  obtain ⟨J, hjj, hJ⟩ : ∃ J : Nat, jj.toInt = J ∧ J < 64 := by rw [← hnjj]; exact own_63 _
  refine own_by (fun _ k => XS.iloadN X0.here hx rfl (hb hby at_15) rfl  k) ?_
  show own_G _ _ _ _ _ _ _ (s₁.setTop (mkF m 16 #[.val (.int p0), .val (.int p1), .val (.int p2), .val (.long q3), .second, .val (.long q4), .second, .val (.int pp), .val (.int jj), .unset, .unset, .unset, .unset, .unset, .unset, .unset, .unset, .unset, .unset, .unset, .unset, .unset] [(.int p2)]))
  refine own_by (X0.ldcInt hx hown (mvT hZ (hw _ (List.mem_of_getElem? (i := 0) rfl))) (g := (mkF m 16 #[.val (.int p0), .val (.int p1), .val (.int p2), .val (.long q3), .second, .val (.long q4), .second, .val (.int pp), .val (.int jj), .unset, .unset, .unset, .unset, .unset, .unset, .unset, .unset, .unset, .unset, .unset, .unset, .unset] [(.int p2)])) rfl (hb hby at_16)) ?_
  show own_G _ _ _ _ _ _ _ (s₁.setTop (mkF m 18 #[.val (.int p0), .val (.int p1), .val (.int p2), .val (.long q3), .second, .val (.long q4), .second, .val (.int pp), .val (.int jj), .unset, .unset, .unset, .unset, .unset, .unset, .unset, .unset, .unset, .unset, .unset, .unset, .unset] [(.int (2147483647 : Int32)), (.int p2)]))
  refine own_by (fun _ k => XS.iand X0.here hx rfl (hb hby at_18) rfl k) ?_
  show own_G _ _ _ _ _ _ _ (s₁.setTop (mkF m 19 #[.val (.int p0), .val (.int p1), .val (.int p2), .val (.long q3), .second, .val (.long q4), .second, .val (.int pp), .val (.int jj), .unset, .unset, .unset, .unset, .unset, .unset, .unset, .unset, .unset, .unset, .unset, .unset, .unset] [(.int (p2 &&& (2147483647 : Int32)))]))
  refine own_by (fun _ k => XS.iconst X0.here hx rfl (hb hby at_19) k) ?_
  show own_G _ _ _ _ _ _ _ (s₁.setTop (mkF m 20 #[.val (.int p0), .val (.int p1), .val (.int p2), .val (.long q3), .second, .val (.long q4), .second, .val (.int pp), .val (.int jj), .unset, .unset, .unset, .unset, .unset, .unset, .unset, .unset, .unset, .unset, .unset, .unset, .unset] [(.int (3 : Int32)), (.int (p2 &&& (2147483647 : Int32)))]))
  refine own_by (fun _ k => iremM (g := (mkF m 20 #[.val (.int p0), .val (.int p1), .val (.int p2), .val (.long q3), .second, .val (.long q4), .second, .val (.int pp), .val (.int jj), .unset, .unset, .unset, .unset, .unset, .unset, .unset, .unset, .unset, .unset, .unset, .unset, .unset] [(.int (3 : Int32)), (.int (p2 &&& (2147483647 : Int32)))])) X0 hx rfl (hb hby at_20) rfl (by decide) k) ?_
  show own_G _ _ _ _ _ _ _ (s₁.setTop (mkF m 21 #[.val (.int p0), .val (.int p1), .val (.int p2), .val (.long q3), .second, .val (.long q4), .second, .val (.int pp), .val (.int jj), .unset, .unset, .unset, .unset, .unset, .unset, .unset, .unset, .unset, .unset, .unset, .unset, .unset] [(.int ((p2 &&& (2147483647 : Int32)) % (3 : Int32)))]))
  refine own_by (fun _ k => XS.istore X0.here hx rfl (hb hby at_21) rfl (l' := #[.val (.int p0), .val (.int p1), .val (.int p2), .val (.long q3), .second, .val (.long q4), .second, .val (.int pp), .val (.int jj), .val (.int ((p2 &&& (2147483647 : Int32)) % (3 : Int32))), .unset, .unset, .unset, .unset, .unset, .unset, .unset, .unset, .unset, .unset, .unset, .unset]) rfl k) ?_
  show own_G _ _ _ _ _ _ _ (s₁.setTop (mkF m 23 #[.val (.int p0), .val (.int p1), .val (.int p2), .val (.long q3), .second, .val (.long q4), .second, .val (.int pp), .val (.int jj), .val (.int ((p2 &&& (2147483647 : Int32)) % (3 : Int32))), .unset, .unset, .unset, .unset, .unset, .unset, .unset, .unset, .unset, .unset, .unset, .unset] []))
  generalize hnwf : ((p2 &&& (2147483647 : Int32)) % (3 : Int32)) = wf
  show own_G _ _ _ _ _ _ _ (s₁.setTop (mkF m 23 #[.val (.int p0), .val (.int p1), .val (.int p2), .val (.long q3), .second, .val (.long q4), .second, .val (.int pp), .val (.int jj), .val (.int wf), .unset, .unset, .unset, .unset, .unset, .unset, .unset, .unset, .unset, .unset, .unset, .unset] []))
  obtain ⟨W, hwf, hW⟩ : ∃ W : Nat, wf.toInt = W ∧ W < 3 := by rw [← hnwf]; exact own_remN _ _ 3 (by decide) (by decide)
  obtain ⟨Sn, hS⟩ : ∃ S : Nat, S = 384 * P / 13 := ⟨_, rfl⟩
  obtain ⟨Ln, hL⟩ : ∃ L : Nat, L = 384 * (P + 1) / 13 - 384 * P / 13 := ⟨_, rfl⟩
  have ar := own_a1 hP hW hJ hS hL
  refine own_by (fun _ k => XS.bipush X0.here hx rfl (hb hby at_23) k) ?_
  show own_G _ _ _ _ _ _ _ (s₁.setTop (mkF m 25 #[.val (.int p0), .val (.int p1), .val (.int p2), .val (.long q3), .second, .val (.long q4), .second, .val (.int pp), .val (.int jj), .val (.int wf), .unset, .unset, .unset, .unset, .unset, .unset, .unset, .unset, .unset, .unset, .unset, .unset] [(.int (8 : Int32))]))
  obtain ⟨T1, h1, X1, e1, E1, A1, st1⟩ := own_newJ X0 hx hZ (hw _ (List.mem_of_getElem? (i := 1) rfl)) e0 (g := (mkF m 25 #[.val (.int p0), .val (.int p1), .val (.int p2), .val (.long q3), .second, .val (.long q4), .second, .val (.int pp), .val (.int jj), .val (.int wf), .unset, .unset, .unset, .unset, .unset, .unset, .unset, .unset, .unset, .unset, .unset, .unset] [(.int (8 : Int32))])) rfl (hb hby at_25) rfl (N := 8) (by decide) (cap := 8) (Nat.le_refl _) (by decide) (by decide) (by decide)
  obtain ⟨b1, g1⟩ : ∃ z, z = h0.size := ⟨_, rfl⟩
  rw [← g1] at A1 st1
  have g_b1 : n0 ≤ b1 := Nat.le_trans Z0 (Nat.le_of_eq g1.symm)
  refine own_by st1 ?_
  have Z3 : n0 ≤ h1.size := Nat.le_trans Z0 E1.1
  show own_G _ _ _ _ _ _ _ (T1.setTop (mkF m 27 #[.val (.int p0), .val (.int p1), .val (.int p2), .val (.long q3), .second, .val (.long q4), .second, .val (.int pp), .val (.int jj), .val (.int wf), .unset, .unset, .unset, .unset, .unset, .unset, .unset, .unset, .unset, .unset, .unset, .unset] [(.ref b1)]))
  refine own_by (fun _ k => XS.astore X1.here hx rfl (hb hby at_27) rfl rfl (l' := #[.val (.int p0), .val (.int p1), .val (.int p2), .val (.long q3), .second, .val (.long q4), .second, .val (.int pp), .val (.int jj), .val (.int wf), .val (.ref b1), .unset, .unset, .unset, .unset, .unset, .unset, .unset, .unset, .unset, .unset, .unset]) rfl k) ?_
  show own_G _ _ _ _ _ _ _ (T1.setTop (mkF m 29 #[.val (.int p0), .val (.int p1), .val (.int p2), .val (.long q3), .second, .val (.long q4), .second, .val (.int pp), .val (.int jj), .val (.int wf), .val (.ref b1), .unset, .unset, .unset, .unset, .unset, .unset, .unset, .unset, .unset, .unset, .unset] []))
  refine own_by (fun _ k => XS.aload X1.here hx rfl (hb hby at_29) rfl rfl k) ?_
  show own_G _ _ _ _ _ _ _ (T1.setTop (mkF m 31 #[.val (.int p0), .val (.int p1), .val (.int p2), .val (.long q3), .second, .val (.long q4), .second, .val (.int pp), .val (.int jj), .val (.int wf), .val (.ref b1), .unset, .unset, .unset, .unset, .unset, .unset, .unset, .unset, .unset, .unset, .unset] [(.ref b1)]))
  refine own_by (fun _ k => XS.iconst X1.here hx rfl (hb hby at_31) k) ?_
  show own_G _ _ _ _ _ _ _ (T1.setTop (mkF m 32 #[.val (.int p0), .val (.int p1), .val (.int p2), .val (.long q3), .second, .val (.long q4), .second, .val (.int pp), .val (.int jj), .val (.int wf), .val (.ref b1), .unset, .unset, .unset, .unset, .unset, .unset, .unset, .unset, .unset, .unset, .unset] [(.int (0 : Int32)), (.ref b1)]))
  refine own_by (fun _ k => XT.lloadN X1.here hx rfl (hb hby at_32) rfl  k) ?_
  show own_G _ _ _ _ _ _ _ (T1.setTop (mkF m 33 #[.val (.int p0), .val (.int p1), .val (.int p2), .val (.long q3), .second, .val (.long q4), .second, .val (.int pp), .val (.int jj), .val (.int wf), .val (.ref b1), .unset, .unset, .unset, .unset, .unset, .unset, .unset, .unset, .unset, .unset, .unset] [(.long q3), (.int (0 : Int32)), (.ref b1)]))
  obtain ⟨T4, h4, X4, e4, W4, A4, st4⟩ := own_stJ X1 hx hZ e1 A1 (k := 0) (by decide) (by decide) (g := (mkF m 33 #[.val (.int p0), .val (.int p1), .val (.int p2), .val (.long q3), .second, .val (.long q4), .second, .val (.int pp), .val (.int jj), .val (.int wf), .val (.ref b1), .unset, .unset, .unset, .unset, .unset, .unset, .unset, .unset, .unset, .unset, .unset] [(.long q3), (.int (0 : Int32)), (.ref b1)])) rfl rfl (hb hby at_33)
  refine own_by st4 ?_
  have N4 := Fr.snoc X4 N0 g_b1
  have Z6 : n0 ≤ h4.size := Nat.le_trans Z3 (Nat.le_of_eq W4.size.symm)
  show own_G _ _ _ _ _ _ _ (T4.setTop (mkF m 34 #[.val (.int p0), .val (.int p1), .val (.int p2), .val (.long q3), .second, .val (.long q4), .second, .val (.int pp), .val (.int jj), .val (.int wf), .val (.ref b1), .unset, .unset, .unset, .unset, .unset, .unset, .unset, .unset, .unset, .unset, .unset] []))
  refine own_by (fun _ k => XS.aload X4.here hx rfl (hb hby at_34) rfl rfl k) ?_
  show own_G _ _ _ _ _ _ _ (T4.setTop (mkF m 36 #[.val (.int p0), .val (.int p1), .val (.int p2), .val (.long q3), .second, .val (.long q4), .second, .val (.int pp), .val (.int jj), .val (.int wf), .val (.ref b1), .unset, .unset, .unset, .unset, .unset, .unset, .unset, .unset, .unset, .unset, .unset] [(.ref b1)]))
  refine own_by (fun _ k => XS.iconst X4.here hx rfl (hb hby at_36) k) ?_
  show own_G _ _ _ _ _ _ _ (T4.setTop (mkF m 37 #[.val (.int p0), .val (.int p1), .val (.int p2), .val (.long q3), .second, .val (.long q4), .second, .val (.int pp), .val (.int jj), .val (.int wf), .val (.ref b1), .unset, .unset, .unset, .unset, .unset, .unset, .unset, .unset, .unset, .unset, .unset] [(.int (1 : Int32)), (.ref b1)]))
  refine own_by (fun _ k => XT.lloadN X4.here hx rfl (hb hby at_37) rfl  k) ?_
  show own_G _ _ _ _ _ _ _ (T4.setTop (mkF m 38 #[.val (.int p0), .val (.int p1), .val (.int p2), .val (.long q3), .second, .val (.long q4), .second, .val (.int pp), .val (.int jj), .val (.int wf), .val (.ref b1), .unset, .unset, .unset, .unset, .unset, .unset, .unset, .unset, .unset, .unset, .unset] [(.long q3), (.int (1 : Int32)), (.ref b1)]))
  refine own_by (fun _ k => XT.lload X4.here hx rfl (hb hby at_38) rfl  k) ?_
  show own_G _ _ _ _ _ _ _ (T4.setTop (mkF m 40 #[.val (.int p0), .val (.int p1), .val (.int p2), .val (.long q3), .second, .val (.long q4), .second, .val (.int pp), .val (.int jj), .val (.int wf), .val (.ref b1), .unset, .unset, .unset, .unset, .unset, .unset, .unset, .unset, .unset, .unset, .unset] [(.long q4), (.long q3), (.int (1 : Int32)), (.ref b1)]))
  refine own_by (fun _ k => XT.lxor X4.here hx rfl (hb hby at_40) rfl k) ?_
  show own_G _ _ _ _ _ _ _ (T4.setTop (mkF m 41 #[.val (.int p0), .val (.int p1), .val (.int p2), .val (.long q3), .second, .val (.long q4), .second, .val (.int pp), .val (.int jj), .val (.int wf), .val (.ref b1), .unset, .unset, .unset, .unset, .unset, .unset, .unset, .unset, .unset, .unset, .unset] [(.long (q3 ^^^ q4)), (.int (1 : Int32)), (.ref b1)]))
  obtain ⟨T7, h7, X7, e7, W7, A7, st7⟩ := own_stJ X4 hx hZ e4 A4 (k := 1) (by decide) (by decide) (g := (mkF m 41 #[.val (.int p0), .val (.int p1), .val (.int p2), .val (.long q3), .second, .val (.long q4), .second, .val (.int pp), .val (.int jj), .val (.int wf), .val (.ref b1), .unset, .unset, .unset, .unset, .unset, .unset, .unset, .unset, .unset, .unset, .unset] [(.long (q3 ^^^ q4)), (.int (1 : Int32)), (.ref b1)])) rfl rfl (hb hby at_41)
  refine own_by st7 ?_
  have N7 := Fr.snoc X7 N4 g_b1
  have Z9 : n0 ≤ h7.size := Nat.le_trans Z6 (Nat.le_of_eq W7.size.symm)
  show own_G _ _ _ _ _ _ _ (T7.setTop (mkF m 42 #[.val (.int p0), .val (.int p1), .val (.int p2), .val (.long q3), .second, .val (.long q4), .second, .val (.int pp), .val (.int jj), .val (.int wf), .val (.ref b1), .unset, .unset, .unset, .unset, .unset, .unset, .unset, .unset, .unset, .unset, .unset] []))
  refine own_by (fun _ k => XS.aload X7.here hx rfl (hb hby at_42) rfl rfl k) ?_
  show own_G _ _ _ _ _ _ _ (T7.setTop (mkF m 44 #[.val (.int p0), .val (.int p1), .val (.int p2), .val (.long q3), .second, .val (.long q4), .second, .val (.int pp), .val (.int jj), .val (.int wf), .val (.ref b1), .unset, .unset, .unset, .unset, .unset, .unset, .unset, .unset, .unset, .unset, .unset] [(.ref b1)]))
  refine own_by (fun _ k => XS.iconst X7.here hx rfl (hb hby at_44) k) ?_
  show own_G _ _ _ _ _ _ _ (T7.setTop (mkF m 45 #[.val (.int p0), .val (.int p1), .val (.int p2), .val (.long q3), .second, .val (.long q4), .second, .val (.int pp), .val (.int jj), .val (.int wf), .val (.ref b1), .unset, .unset, .unset, .unset, .unset, .unset, .unset, .unset, .unset, .unset, .unset] [(.int (2 : Int32)), (.ref b1)]))
  refine own_by (fun _ k => XT.lloadN X7.here hx rfl (hb hby at_45) rfl  k) ?_
  show own_G _ _ _ _ _ _ _ (T7.setTop (mkF m 46 #[.val (.int p0), .val (.int p1), .val (.int p2), .val (.long q3), .second, .val (.long q4), .second, .val (.int pp), .val (.int jj), .val (.int wf), .val (.ref b1), .unset, .unset, .unset, .unset, .unset, .unset, .unset, .unset, .unset, .unset, .unset] [(.long q3), (.int (2 : Int32)), (.ref b1)]))
  refine own_by (fun _ k => XT.lload X7.here hx rfl (hb hby at_46) rfl  k) ?_
  show own_G _ _ _ _ _ _ _ (T7.setTop (mkF m 48 #[.val (.int p0), .val (.int p1), .val (.int p2), .val (.long q3), .second, .val (.long q4), .second, .val (.int pp), .val (.int jj), .val (.int wf), .val (.ref b1), .unset, .unset, .unset, .unset, .unset, .unset, .unset, .unset, .unset, .unset, .unset] [(.long q4), (.long q3), (.int (2 : Int32)), (.ref b1)]))
  refine own_by (X7.ldc2Long hx hown (mvT hZ (hw _ (List.mem_of_getElem? (i := 2) rfl))) (g := (mkF m 48 #[.val (.int p0), .val (.int p1), .val (.int p2), .val (.long q3), .second, .val (.long q4), .second, .val (.int pp), .val (.int jj), .val (.int wf), .val (.ref b1), .unset, .unset, .unset, .unset, .unset, .unset, .unset, .unset, .unset, .unset, .unset] [(.long q4), (.long q3), (.int (2 : Int32)), (.ref b1)])) rfl (hb hby at_48)) ?_
  show own_G _ _ _ _ _ _ _ (T7.setTop (mkF m 51 #[.val (.int p0), .val (.int p1), .val (.int p2), .val (.long q3), .second, .val (.long q4), .second, .val (.int pp), .val (.int jj), .val (.int wf), .val (.ref b1), .unset, .unset, .unset, .unset, .unset, .unset, .unset, .unset, .unset, .unset, .unset] [(.long (2 : Int64)), (.long q4), (.long q3), (.int (2 : Int32)), (.ref b1)]))
  refine own_by (fun _ k => XT.lmul X7.here hx rfl (hb hby at_51) rfl k) ?_
  show own_G _ _ _ _ _ _ _ (T7.setTop (mkF m 52 #[.val (.int p0), .val (.int p1), .val (.int p2), .val (.long q3), .second, .val (.long q4), .second, .val (.int pp), .val (.int jj), .val (.int wf), .val (.ref b1), .unset, .unset, .unset, .unset, .unset, .unset, .unset, .unset, .unset, .unset, .unset] [(.long (q4 * (2 : Int64))), (.long q3), (.int (2 : Int32)), (.ref b1)]))
  refine own_by (fun _ k => XT.lxor X7.here hx rfl (hb hby at_52) rfl k) ?_
  show own_G _ _ _ _ _ _ _ (T7.setTop (mkF m 53 #[.val (.int p0), .val (.int p1), .val (.int p2), .val (.long q3), .second, .val (.long q4), .second, .val (.int pp), .val (.int jj), .val (.int wf), .val (.ref b1), .unset, .unset, .unset, .unset, .unset, .unset, .unset, .unset, .unset, .unset, .unset] [(.long (q3 ^^^ (q4 * (2 : Int64)))), (.int (2 : Int32)), (.ref b1)]))
  obtain ⟨T10, h10, X10, e10, W10, A10, st10⟩ := own_stJ X7 hx hZ e7 A7 (k := 2) (by decide) (by decide) (g := (mkF m 53 #[.val (.int p0), .val (.int p1), .val (.int p2), .val (.long q3), .second, .val (.long q4), .second, .val (.int pp), .val (.int jj), .val (.int wf), .val (.ref b1), .unset, .unset, .unset, .unset, .unset, .unset, .unset, .unset, .unset, .unset, .unset] [(.long (q3 ^^^ (q4 * (2 : Int64)))), (.int (2 : Int32)), (.ref b1)])) rfl rfl (hb hby at_53)
  refine own_by st10 ?_
  have N10 := Fr.snoc X10 N7 g_b1
  have Z12 : n0 ≤ h10.size := Nat.le_trans Z9 (Nat.le_of_eq W10.size.symm)
  show own_G _ _ _ _ _ _ _ (T10.setTop (mkF m 54 #[.val (.int p0), .val (.int p1), .val (.int p2), .val (.long q3), .second, .val (.long q4), .second, .val (.int pp), .val (.int jj), .val (.int wf), .val (.ref b1), .unset, .unset, .unset, .unset, .unset, .unset, .unset, .unset, .unset, .unset, .unset] []))
  refine own_by (fun _ k => XS.aload X10.here hx rfl (hb hby at_54) rfl rfl k) ?_
  show own_G _ _ _ _ _ _ _ (T10.setTop (mkF m 56 #[.val (.int p0), .val (.int p1), .val (.int p2), .val (.long q3), .second, .val (.long q4), .second, .val (.int pp), .val (.int jj), .val (.int wf), .val (.ref b1), .unset, .unset, .unset, .unset, .unset, .unset, .unset, .unset, .unset, .unset, .unset] [(.ref b1)]))
  refine own_by (fun _ k => XS.iconst X10.here hx rfl (hb hby at_56) k) ?_
  show own_G _ _ _ _ _ _ _ (T10.setTop (mkF m 57 #[.val (.int p0), .val (.int p1), .val (.int p2), .val (.long q3), .second, .val (.long q4), .second, .val (.int pp), .val (.int jj), .val (.int wf), .val (.ref b1), .unset, .unset, .unset, .unset, .unset, .unset, .unset, .unset, .unset, .unset, .unset] [(.int (3 : Int32)), (.ref b1)]))
  refine own_by (fun _ k => XT.lloadN X10.here hx rfl (hb hby at_57) rfl  k) ?_
  show own_G _ _ _ _ _ _ _ (T10.setTop (mkF m 58 #[.val (.int p0), .val (.int p1), .val (.int p2), .val (.long q3), .second, .val (.long q4), .second, .val (.int pp), .val (.int jj), .val (.int wf), .val (.ref b1), .unset, .unset, .unset, .unset, .unset, .unset, .unset, .unset, .unset, .unset, .unset] [(.long q3), (.int (3 : Int32)), (.ref b1)]))
  refine own_by (fun _ k => XT.lload X10.here hx rfl (hb hby at_58) rfl  k) ?_
  show own_G _ _ _ _ _ _ _ (T10.setTop (mkF m 60 #[.val (.int p0), .val (.int p1), .val (.int p2), .val (.long q3), .second, .val (.long q4), .second, .val (.int pp), .val (.int jj), .val (.int wf), .val (.ref b1), .unset, .unset, .unset, .unset, .unset, .unset, .unset, .unset, .unset, .unset, .unset] [(.long q4), (.long q3), (.int (3 : Int32)), (.ref b1)]))
  refine own_by (X10.ldc2Long hx hown (mvT hZ (hw _ (List.mem_of_getElem? (i := 3) rfl))) (g := (mkF m 60 #[.val (.int p0), .val (.int p1), .val (.int p2), .val (.long q3), .second, .val (.long q4), .second, .val (.int pp), .val (.int jj), .val (.int wf), .val (.ref b1), .unset, .unset, .unset, .unset, .unset, .unset, .unset, .unset, .unset, .unset, .unset] [(.long q4), (.long q3), (.int (3 : Int32)), (.ref b1)])) rfl (hb hby at_60)) ?_
  show own_G _ _ _ _ _ _ _ (T10.setTop (mkF m 63 #[.val (.int p0), .val (.int p1), .val (.int p2), .val (.long q3), .second, .val (.long q4), .second, .val (.int pp), .val (.int jj), .val (.int wf), .val (.ref b1), .unset, .unset, .unset, .unset, .unset, .unset, .unset, .unset, .unset, .unset, .unset] [(.long (3 : Int64)), (.long q4), (.long q3), (.int (3 : Int32)), (.ref b1)]))
  refine own_by (fun _ k => XT.lmul X10.here hx rfl (hb hby at_63) rfl k) ?_
  show own_G _ _ _ _ _ _ _ (T10.setTop (mkF m 64 #[.val (.int p0), .val (.int p1), .val (.int p2), .val (.long q3), .second, .val (.long q4), .second, .val (.int pp), .val (.int jj), .val (.int wf), .val (.ref b1), .unset, .unset, .unset, .unset, .unset, .unset, .unset, .unset, .unset, .unset, .unset] [(.long (q4 * (3 : Int64))), (.long q3), (.int (3 : Int32)), (.ref b1)]))
  refine own_by (fun _ k => XT.lxor X10.here hx rfl (hb hby at_64) rfl k) ?_
  show own_G _ _ _ _ _ _ _ (T10.setTop (mkF m 65 #[.val (.int p0), .val (.int p1), .val (.int p2), .val (.long q3), .second, .val (.long q4), .second, .val (.int pp), .val (.int jj), .val (.int wf), .val (.ref b1), .unset, .unset, .unset, .unset, .unset, .unset, .unset, .unset, .unset, .unset, .unset] [(.long (q3 ^^^ (q4 * (3 : Int64)))), (.int (3 : Int32)), (.ref b1)]))
  obtain ⟨T13, h13, X13, e13, W13, A13, st13⟩ := own_stJ X10 hx hZ e10 A10 (k := 3) (by decide) (by decide) (g := (mkF m 65 #[.val (.int p0), .val (.int p1), .val (.int p2), .val (.long q3), .second, .val (.long q4), .second, .val (.int pp), .val (.int jj), .val (.int wf), .val (.ref b1), .unset, .unset, .unset, .unset, .unset, .unset, .unset, .unset, .unset, .unset, .unset] [(.long (q3 ^^^ (q4 * (3 : Int64)))), (.int (3 : Int32)), (.ref b1)])) rfl rfl (hb hby at_65)
  refine own_by st13 ?_
  have N13 := Fr.snoc X13 N10 g_b1
  have Z15 : n0 ≤ h13.size := Nat.le_trans Z12 (Nat.le_of_eq W13.size.symm)
  show own_G _ _ _ _ _ _ _ (T13.setTop (mkF m 66 #[.val (.int p0), .val (.int p1), .val (.int p2), .val (.long q3), .second, .val (.long q4), .second, .val (.int pp), .val (.int jj), .val (.int wf), .val (.ref b1), .unset, .unset, .unset, .unset, .unset, .unset, .unset, .unset, .unset, .unset, .unset] []))
  refine own_by (fun _ k => XS.aload X13.here hx rfl (hb hby at_66) rfl rfl k) ?_
  show own_G _ _ _ _ _ _ _ (T13.setTop (mkF m 68 #[.val (.int p0), .val (.int p1), .val (.int p2), .val (.long q3), .second, .val (.long q4), .second, .val (.int pp), .val (.int jj), .val (.int wf), .val (.ref b1), .unset, .unset, .unset, .unset, .unset, .unset, .unset, .unset, .unset, .unset, .unset] [(.ref b1)]))
  refine own_by (fun _ k => XS.iconst X13.here hx rfl (hb hby at_68) k) ?_
  show own_G _ _ _ _ _ _ _ (T13.setTop (mkF m 69 #[.val (.int p0), .val (.int p1), .val (.int p2), .val (.long q3), .second, .val (.long q4), .second, .val (.int pp), .val (.int jj), .val (.int wf), .val (.ref b1), .unset, .unset, .unset, .unset, .unset, .unset, .unset, .unset, .unset, .unset, .unset] [(.int (4 : Int32)), (.ref b1)]))
  refine own_by (fun _ k => XT.lloadN X13.here hx rfl (hb hby at_69) rfl  k) ?_
  show own_G _ _ _ _ _ _ _ (T13.setTop (mkF m 70 #[.val (.int p0), .val (.int p1), .val (.int p2), .val (.long q3), .second, .val (.long q4), .second, .val (.int pp), .val (.int jj), .val (.int wf), .val (.ref b1), .unset, .unset, .unset, .unset, .unset, .unset, .unset, .unset, .unset, .unset, .unset] [(.long q3), (.int (4 : Int32)), (.ref b1)]))
  refine own_by (fun _ k => XT.lload X13.here hx rfl (hb hby at_70) rfl  k) ?_
  show own_G _ _ _ _ _ _ _ (T13.setTop (mkF m 72 #[.val (.int p0), .val (.int p1), .val (.int p2), .val (.long q3), .second, .val (.long q4), .second, .val (.int pp), .val (.int jj), .val (.int wf), .val (.ref b1), .unset, .unset, .unset, .unset, .unset, .unset, .unset, .unset, .unset, .unset, .unset] [(.long q4), (.long q3), (.int (4 : Int32)), (.ref b1)]))
  refine own_by (X13.ldc2Long hx hown (mvT hZ (hw _ (List.mem_of_getElem? (i := 4) rfl))) (g := (mkF m 72 #[.val (.int p0), .val (.int p1), .val (.int p2), .val (.long q3), .second, .val (.long q4), .second, .val (.int pp), .val (.int jj), .val (.int wf), .val (.ref b1), .unset, .unset, .unset, .unset, .unset, .unset, .unset, .unset, .unset, .unset, .unset] [(.long q4), (.long q3), (.int (4 : Int32)), (.ref b1)])) rfl (hb hby at_72)) ?_
  show own_G _ _ _ _ _ _ _ (T13.setTop (mkF m 75 #[.val (.int p0), .val (.int p1), .val (.int p2), .val (.long q3), .second, .val (.long q4), .second, .val (.int pp), .val (.int jj), .val (.int wf), .val (.ref b1), .unset, .unset, .unset, .unset, .unset, .unset, .unset, .unset, .unset, .unset, .unset] [(.long (4 : Int64)), (.long q4), (.long q3), (.int (4 : Int32)), (.ref b1)]))
  refine own_by (fun _ k => XT.lmul X13.here hx rfl (hb hby at_75) rfl k) ?_
  show own_G _ _ _ _ _ _ _ (T13.setTop (mkF m 76 #[.val (.int p0), .val (.int p1), .val (.int p2), .val (.long q3), .second, .val (.long q4), .second, .val (.int pp), .val (.int jj), .val (.int wf), .val (.ref b1), .unset, .unset, .unset, .unset, .unset, .unset, .unset, .unset, .unset, .unset, .unset] [(.long (q4 * (4 : Int64))), (.long q3), (.int (4 : Int32)), (.ref b1)]))
  refine own_by (fun _ k => XT.lxor X13.here hx rfl (hb hby at_76) rfl k) ?_
  show own_G _ _ _ _ _ _ _ (T13.setTop (mkF m 77 #[.val (.int p0), .val (.int p1), .val (.int p2), .val (.long q3), .second, .val (.long q4), .second, .val (.int pp), .val (.int jj), .val (.int wf), .val (.ref b1), .unset, .unset, .unset, .unset, .unset, .unset, .unset, .unset, .unset, .unset, .unset] [(.long (q3 ^^^ (q4 * (4 : Int64)))), (.int (4 : Int32)), (.ref b1)]))
  obtain ⟨T16, h16, X16, e16, W16, A16, st16⟩ := own_stJ X13 hx hZ e13 A13 (k := 4) (by decide) (by decide) (g := (mkF m 77 #[.val (.int p0), .val (.int p1), .val (.int p2), .val (.long q3), .second, .val (.long q4), .second, .val (.int pp), .val (.int jj), .val (.int wf), .val (.ref b1), .unset, .unset, .unset, .unset, .unset, .unset, .unset, .unset, .unset, .unset, .unset] [(.long (q3 ^^^ (q4 * (4 : Int64)))), (.int (4 : Int32)), (.ref b1)])) rfl rfl (hb hby at_77)
  refine own_by st16 ?_
  have N16 := Fr.snoc X16 N13 g_b1
  have Z18 : n0 ≤ h16.size := Nat.le_trans Z15 (Nat.le_of_eq W16.size.symm)
  show own_G _ _ _ _ _ _ _ (T16.setTop (mkF m 78 #[.val (.int p0), .val (.int p1), .val (.int p2), .val (.long q3), .second, .val (.long q4), .second, .val (.int pp), .val (.int jj), .val (.int wf), .val (.ref b1), .unset, .unset, .unset, .unset, .unset, .unset, .unset, .unset, .unset, .unset, .unset] []))
  refine own_by (fun _ k => XS.aload X16.here hx rfl (hb hby at_78) rfl rfl k) ?_
  show own_G _ _ _ _ _ _ _ (T16.setTop (mkF m 80 #[.val (.int p0), .val (.int p1), .val (.int p2), .val (.long q3), .second, .val (.long q4), .second, .val (.int pp), .val (.int jj), .val (.int wf), .val (.ref b1), .unset, .unset, .unset, .unset, .unset, .unset, .unset, .unset, .unset, .unset, .unset] [(.ref b1)]))
  refine own_by (fun _ k => XS.iconst X16.here hx rfl (hb hby at_80) k) ?_
  show own_G _ _ _ _ _ _ _ (T16.setTop (mkF m 81 #[.val (.int p0), .val (.int p1), .val (.int p2), .val (.long q3), .second, .val (.long q4), .second, .val (.int pp), .val (.int jj), .val (.int wf), .val (.ref b1), .unset, .unset, .unset, .unset, .unset, .unset, .unset, .unset, .unset, .unset, .unset] [(.int (5 : Int32)), (.ref b1)]))
  refine own_by (fun _ k => XT.lloadN X16.here hx rfl (hb hby at_81) rfl  k) ?_
  show own_G _ _ _ _ _ _ _ (T16.setTop (mkF m 82 #[.val (.int p0), .val (.int p1), .val (.int p2), .val (.long q3), .second, .val (.long q4), .second, .val (.int pp), .val (.int jj), .val (.int wf), .val (.ref b1), .unset, .unset, .unset, .unset, .unset, .unset, .unset, .unset, .unset, .unset, .unset] [(.long q3), (.int (5 : Int32)), (.ref b1)]))
  refine own_by (fun _ k => XT.lload X16.here hx rfl (hb hby at_82) rfl  k) ?_
  show own_G _ _ _ _ _ _ _ (T16.setTop (mkF m 84 #[.val (.int p0), .val (.int p1), .val (.int p2), .val (.long q3), .second, .val (.long q4), .second, .val (.int pp), .val (.int jj), .val (.int wf), .val (.ref b1), .unset, .unset, .unset, .unset, .unset, .unset, .unset, .unset, .unset, .unset, .unset] [(.long q4), (.long q3), (.int (5 : Int32)), (.ref b1)]))
  refine own_by (X16.ldc2Long hx hown (mvT hZ (hw _ (List.mem_of_getElem? (i := 5) rfl))) (g := (mkF m 84 #[.val (.int p0), .val (.int p1), .val (.int p2), .val (.long q3), .second, .val (.long q4), .second, .val (.int pp), .val (.int jj), .val (.int wf), .val (.ref b1), .unset, .unset, .unset, .unset, .unset, .unset, .unset, .unset, .unset, .unset, .unset] [(.long q4), (.long q3), (.int (5 : Int32)), (.ref b1)])) rfl (hb hby at_84)) ?_
  show own_G _ _ _ _ _ _ _ (T16.setTop (mkF m 87 #[.val (.int p0), .val (.int p1), .val (.int p2), .val (.long q3), .second, .val (.long q4), .second, .val (.int pp), .val (.int jj), .val (.int wf), .val (.ref b1), .unset, .unset, .unset, .unset, .unset, .unset, .unset, .unset, .unset, .unset, .unset] [(.long (5 : Int64)), (.long q4), (.long q3), (.int (5 : Int32)), (.ref b1)]))
  refine own_by (fun _ k => XT.lmul X16.here hx rfl (hb hby at_87) rfl k) ?_
  show own_G _ _ _ _ _ _ _ (T16.setTop (mkF m 88 #[.val (.int p0), .val (.int p1), .val (.int p2), .val (.long q3), .second, .val (.long q4), .second, .val (.int pp), .val (.int jj), .val (.int wf), .val (.ref b1), .unset, .unset, .unset, .unset, .unset, .unset, .unset, .unset, .unset, .unset, .unset] [(.long (q4 * (5 : Int64))), (.long q3), (.int (5 : Int32)), (.ref b1)]))
  refine own_by (fun _ k => XT.lxor X16.here hx rfl (hb hby at_88) rfl k) ?_
  show own_G _ _ _ _ _ _ _ (T16.setTop (mkF m 89 #[.val (.int p0), .val (.int p1), .val (.int p2), .val (.long q3), .second, .val (.long q4), .second, .val (.int pp), .val (.int jj), .val (.int wf), .val (.ref b1), .unset, .unset, .unset, .unset, .unset, .unset, .unset, .unset, .unset, .unset, .unset] [(.long (q3 ^^^ (q4 * (5 : Int64)))), (.int (5 : Int32)), (.ref b1)]))
  obtain ⟨T19, h19, X19, e19, W19, A19, st19⟩ := own_stJ X16 hx hZ e16 A16 (k := 5) (by decide) (by decide) (g := (mkF m 89 #[.val (.int p0), .val (.int p1), .val (.int p2), .val (.long q3), .second, .val (.long q4), .second, .val (.int pp), .val (.int jj), .val (.int wf), .val (.ref b1), .unset, .unset, .unset, .unset, .unset, .unset, .unset, .unset, .unset, .unset, .unset] [(.long (q3 ^^^ (q4 * (5 : Int64)))), (.int (5 : Int32)), (.ref b1)])) rfl rfl (hb hby at_89)
  refine own_by st19 ?_
  have N19 := Fr.snoc X19 N16 g_b1
  have Z21 : n0 ≤ h19.size := Nat.le_trans Z18 (Nat.le_of_eq W19.size.symm)
  show own_G _ _ _ _ _ _ _ (T19.setTop (mkF m 90 #[.val (.int p0), .val (.int p1), .val (.int p2), .val (.long q3), .second, .val (.long q4), .second, .val (.int pp), .val (.int jj), .val (.int wf), .val (.ref b1), .unset, .unset, .unset, .unset, .unset, .unset, .unset, .unset, .unset, .unset, .unset] []))
  refine own_by (fun _ k => XS.aload X19.here hx rfl (hb hby at_90) rfl rfl k) ?_
  show own_G _ _ _ _ _ _ _ (T19.setTop (mkF m 92 #[.val (.int p0), .val (.int p1), .val (.int p2), .val (.long q3), .second, .val (.long q4), .second, .val (.int pp), .val (.int jj), .val (.int wf), .val (.ref b1), .unset, .unset, .unset, .unset, .unset, .unset, .unset, .unset, .unset, .unset, .unset] [(.ref b1)]))
  refine own_by (fun _ k => XS.bipush X19.here hx rfl (hb hby at_92) k) ?_
  show own_G _ _ _ _ _ _ _ (T19.setTop (mkF m 94 #[.val (.int p0), .val (.int p1), .val (.int p2), .val (.long q3), .second, .val (.long q4), .second, .val (.int pp), .val (.int jj), .val (.int wf), .val (.ref b1), .unset, .unset, .unset, .unset, .unset, .unset, .unset, .unset, .unset, .unset, .unset] [(.int (6 : Int32)), (.ref b1)]))
  refine own_by (fun _ k => XT.lloadN X19.here hx rfl (hb hby at_94) rfl  k) ?_
  show own_G _ _ _ _ _ _ _ (T19.setTop (mkF m 95 #[.val (.int p0), .val (.int p1), .val (.int p2), .val (.long q3), .second, .val (.long q4), .second, .val (.int pp), .val (.int jj), .val (.int wf), .val (.ref b1), .unset, .unset, .unset, .unset, .unset, .unset, .unset, .unset, .unset, .unset, .unset] [(.long q3), (.int (6 : Int32)), (.ref b1)]))
  refine own_by (fun _ k => XT.lload X19.here hx rfl (hb hby at_95) rfl  k) ?_
  show own_G _ _ _ _ _ _ _ (T19.setTop (mkF m 97 #[.val (.int p0), .val (.int p1), .val (.int p2), .val (.long q3), .second, .val (.long q4), .second, .val (.int pp), .val (.int jj), .val (.int wf), .val (.ref b1), .unset, .unset, .unset, .unset, .unset, .unset, .unset, .unset, .unset, .unset, .unset] [(.long q4), (.long q3), (.int (6 : Int32)), (.ref b1)]))
  refine own_by (X19.ldc2Long hx hown (mvT hZ (hw _ (List.mem_of_getElem? (i := 6) rfl))) (g := (mkF m 97 #[.val (.int p0), .val (.int p1), .val (.int p2), .val (.long q3), .second, .val (.long q4), .second, .val (.int pp), .val (.int jj), .val (.int wf), .val (.ref b1), .unset, .unset, .unset, .unset, .unset, .unset, .unset, .unset, .unset, .unset, .unset] [(.long q4), (.long q3), (.int (6 : Int32)), (.ref b1)])) rfl (hb hby at_97)) ?_
  show own_G _ _ _ _ _ _ _ (T19.setTop (mkF m 100 #[.val (.int p0), .val (.int p1), .val (.int p2), .val (.long q3), .second, .val (.long q4), .second, .val (.int pp), .val (.int jj), .val (.int wf), .val (.ref b1), .unset, .unset, .unset, .unset, .unset, .unset, .unset, .unset, .unset, .unset, .unset] [(.long (6 : Int64)), (.long q4), (.long q3), (.int (6 : Int32)), (.ref b1)]))
  refine own_by (fun _ k => XT.lmul X19.here hx rfl (hb hby at_100) rfl k) ?_
  show own_G _ _ _ _ _ _ _ (T19.setTop (mkF m 101 #[.val (.int p0), .val (.int p1), .val (.int p2), .val (.long q3), .second, .val (.long q4), .second, .val (.int pp), .val (.int jj), .val (.int wf), .val (.ref b1), .unset, .unset, .unset, .unset, .unset, .unset, .unset, .unset, .unset, .unset, .unset] [(.long (q4 * (6 : Int64))), (.long q3), (.int (6 : Int32)), (.ref b1)]))
  refine own_by (fun _ k => XT.lxor X19.here hx rfl (hb hby at_101) rfl k) ?_
  show own_G _ _ _ _ _ _ _ (T19.setTop (mkF m 102 #[.val (.int p0), .val (.int p1), .val (.int p2), .val (.long q3), .second, .val (.long q4), .second, .val (.int pp), .val (.int jj), .val (.int wf), .val (.ref b1), .unset, .unset, .unset, .unset, .unset, .unset, .unset, .unset, .unset, .unset, .unset] [(.long (q3 ^^^ (q4 * (6 : Int64)))), (.int (6 : Int32)), (.ref b1)]))
  obtain ⟨T22, h22, X22, e22, W22, A22, st22⟩ := own_stJ X19 hx hZ e19 A19 (k := 6) (by decide) (by decide) (g := (mkF m 102 #[.val (.int p0), .val (.int p1), .val (.int p2), .val (.long q3), .second, .val (.long q4), .second, .val (.int pp), .val (.int jj), .val (.int wf), .val (.ref b1), .unset, .unset, .unset, .unset, .unset, .unset, .unset, .unset, .unset, .unset, .unset] [(.long (q3 ^^^ (q4 * (6 : Int64)))), (.int (6 : Int32)), (.ref b1)])) rfl rfl (hb hby at_102)
  refine own_by st22 ?_
  have N22 := Fr.snoc X22 N19 g_b1
  have Z24 : n0 ≤ h22.size := Nat.le_trans Z21 (Nat.le_of_eq W22.size.symm)
  show own_G _ _ _ _ _ _ _ (T22.setTop (mkF m 103 #[.val (.int p0), .val (.int p1), .val (.int p2), .val (.long q3), .second, .val (.long q4), .second, .val (.int pp), .val (.int jj), .val (.int wf), .val (.ref b1), .unset, .unset, .unset, .unset, .unset, .unset, .unset, .unset, .unset, .unset, .unset] []))
  refine own_by (fun _ k => XS.aload X22.here hx rfl (hb hby at_103) rfl rfl k) ?_
  show own_G _ _ _ _ _ _ _ (T22.setTop (mkF m 105 #[.val (.int p0), .val (.int p1), .val (.int p2), .val (.long q3), .second, .val (.long q4), .second, .val (.int pp), .val (.int jj), .val (.int wf), .val (.ref b1), .unset, .unset, .unset, .unset, .unset, .unset, .unset, .unset, .unset, .unset, .unset] [(.ref b1)]))
  refine own_by (fun _ k => XS.bipush X22.here hx rfl (hb hby at_105) k) ?_
  show own_G _ _ _ _ _ _ _ (T22.setTop (mkF m 107 #[.val (.int p0), .val (.int p1), .val (.int p2), .val (.long q3), .second, .val (.long q4), .second, .val (.int pp), .val (.int jj), .val (.int wf), .val (.ref b1), .unset, .unset, .unset, .unset, .unset, .unset, .unset, .unset, .unset, .unset, .unset] [(.int (7 : Int32)), (.ref b1)]))
  refine own_by (fun _ k => XT.lloadN X22.here hx rfl (hb hby at_107) rfl  k) ?_
  show own_G _ _ _ _ _ _ _ (T22.setTop (mkF m 108 #[.val (.int p0), .val (.int p1), .val (.int p2), .val (.long q3), .second, .val (.long q4), .second, .val (.int pp), .val (.int jj), .val (.int wf), .val (.ref b1), .unset, .unset, .unset, .unset, .unset, .unset, .unset, .unset, .unset, .unset, .unset] [(.long q3), (.int (7 : Int32)), (.ref b1)]))
  refine own_by (fun _ k => XT.lload X22.here hx rfl (hb hby at_108) rfl  k) ?_
  show own_G _ _ _ _ _ _ _ (T22.setTop (mkF m 110 #[.val (.int p0), .val (.int p1), .val (.int p2), .val (.long q3), .second, .val (.long q4), .second, .val (.int pp), .val (.int jj), .val (.int wf), .val (.ref b1), .unset, .unset, .unset, .unset, .unset, .unset, .unset, .unset, .unset, .unset, .unset] [(.long q4), (.long q3), (.int (7 : Int32)), (.ref b1)]))
  refine own_by (X22.ldc2Long hx hown (mvT hZ (hw _ (List.mem_of_getElem? (i := 7) rfl))) (g := (mkF m 110 #[.val (.int p0), .val (.int p1), .val (.int p2), .val (.long q3), .second, .val (.long q4), .second, .val (.int pp), .val (.int jj), .val (.int wf), .val (.ref b1), .unset, .unset, .unset, .unset, .unset, .unset, .unset, .unset, .unset, .unset, .unset] [(.long q4), (.long q3), (.int (7 : Int32)), (.ref b1)])) rfl (hb hby at_110)) ?_
  show own_G _ _ _ _ _ _ _ (T22.setTop (mkF m 113 #[.val (.int p0), .val (.int p1), .val (.int p2), .val (.long q3), .second, .val (.long q4), .second, .val (.int pp), .val (.int jj), .val (.int wf), .val (.ref b1), .unset, .unset, .unset, .unset, .unset, .unset, .unset, .unset, .unset, .unset, .unset] [(.long (7 : Int64)), (.long q4), (.long q3), (.int (7 : Int32)), (.ref b1)]))
  refine own_by (fun _ k => XT.lmul X22.here hx rfl (hb hby at_113) rfl k) ?_
  show own_G _ _ _ _ _ _ _ (T22.setTop (mkF m 114 #[.val (.int p0), .val (.int p1), .val (.int p2), .val (.long q3), .second, .val (.long q4), .second, .val (.int pp), .val (.int jj), .val (.int wf), .val (.ref b1), .unset, .unset, .unset, .unset, .unset, .unset, .unset, .unset, .unset, .unset, .unset] [(.long (q4 * (7 : Int64))), (.long q3), (.int (7 : Int32)), (.ref b1)]))
  refine own_by (fun _ k => XT.lxor X22.here hx rfl (hb hby at_114) rfl k) ?_
  show own_G _ _ _ _ _ _ _ (T22.setTop (mkF m 115 #[.val (.int p0), .val (.int p1), .val (.int p2), .val (.long q3), .second, .val (.long q4), .second, .val (.int pp), .val (.int jj), .val (.int wf), .val (.ref b1), .unset, .unset, .unset, .unset, .unset, .unset, .unset, .unset, .unset, .unset, .unset] [(.long (q3 ^^^ (q4 * (7 : Int64)))), (.int (7 : Int32)), (.ref b1)]))
  obtain ⟨T25, h25, X25, e25, W25, A25, st25⟩ := own_stJ X22 hx hZ e22 A22 (k := 7) (by decide) (by decide) (g := (mkF m 115 #[.val (.int p0), .val (.int p1), .val (.int p2), .val (.long q3), .second, .val (.long q4), .second, .val (.int pp), .val (.int jj), .val (.int wf), .val (.ref b1), .unset, .unset, .unset, .unset, .unset, .unset, .unset, .unset, .unset, .unset, .unset] [(.long (q3 ^^^ (q4 * (7 : Int64)))), (.int (7 : Int32)), (.ref b1)])) rfl rfl (hb hby at_115)
  refine own_by st25 ?_
  have N25 := Fr.snoc X25 N22 g_b1
  have Z27 : n0 ≤ h25.size := Nat.le_trans Z24 (Nat.le_of_eq W25.size.symm)
  show own_G _ _ _ _ _ _ _ (T25.setTop (mkF m 116 #[.val (.int p0), .val (.int p1), .val (.int p2), .val (.long q3), .second, .val (.long q4), .second, .val (.int pp), .val (.int jj), .val (.int wf), .val (.ref b1), .unset, .unset, .unset, .unset, .unset, .unset, .unset, .unset, .unset, .unset, .unset] []))
  refine own_by (fun _ k => XS.bipush X25.here hx rfl (hb hby at_116) k) ?_
  show own_G _ _ _ _ _ _ _ (T25.setTop (mkF m 118 #[.val (.int p0), .val (.int p1), .val (.int p2), .val (.long q3), .second, .val (.long q4), .second, .val (.int pp), .val (.int jj), .val (.int wf), .val (.ref b1), .unset, .unset, .unset, .unset, .unset, .unset, .unset, .unset, .unset, .unset, .unset] [(.int (14 : Int32))]))
  obtain ⟨T28, h28, X28, e28, E28, A28, st28⟩ := own_newI X25 hx hZ (hw _ (List.mem_of_getElem? (i := 8) rfl)) e25 (g := (mkF m 118 #[.val (.int p0), .val (.int p1), .val (.int p2), .val (.long q3), .second, .val (.long q4), .second, .val (.int pp), .val (.int jj), .val (.int wf), .val (.ref b1), .unset, .unset, .unset, .unset, .unset, .unset, .unset, .unset, .unset, .unset, .unset] [(.int (14 : Int32))])) rfl (hb hby at_118) rfl (N := 14) (by decide) (cap := 14) (Nat.le_refl _) (by decide) (by decide) (by decide)
  obtain ⟨b28, g28⟩ : ∃ z, z = h25.size := ⟨_, rfl⟩
  rw [← g28] at A28 st28
  have ne_b1_b28 : b1 ≠ b28 := Nat.ne_of_lt (Nat.lt_of_lt_of_le A25.lt (Nat.le_of_eq g28.symm))
  have g_b28 : n0 ≤ b28 := Nat.le_trans Z27 (Nat.le_of_eq g28.symm)
  refine own_by st28 ?_
  have F29_0 := A25.ext E28
  have Z30 : n0 ≤ h28.size := Nat.le_trans Z27 E28.1
  show own_G _ _ _ _ _ _ _ (T28.setTop (mkF m 120 #[.val (.int p0), .val (.int p1), .val (.int p2), .val (.long q3), .second, .val (.long q4), .second, .val (.int pp), .val (.int jj), .val (.int wf), .val (.ref b1), .unset, .unset, .unset, .unset, .unset, .unset, .unset, .unset, .unset, .unset, .unset] [(.ref b28)]))
  refine own_by (fun _ k => XS.dup X28.here hx rfl (hb hby at_120) rfl rfl k) ?_
  show own_G _ _ _ _ _ _ _ (T28.setTop (mkF m 121 #[.val (.int p0), .val (.int p1), .val (.int p2), .val (.long q3), .second, .val (.long q4), .second, .val (.int pp), .val (.int jj), .val (.int wf), .val (.ref b1), .unset, .unset, .unset, .unset, .unset, .unset, .unset, .unset, .unset, .unset, .unset] [(.ref b28), (.ref b28)]))
  refine own_by (fun _ k => XS.iconst X28.here hx rfl (hb hby at_121) k) ?_
  show own_G _ _ _ _ _ _ _ (T28.setTop (mkF m 122 #[.val (.int p0), .val (.int p1), .val (.int p2), .val (.long q3), .second, .val (.long q4), .second, .val (.int pp), .val (.int jj), .val (.int wf), .val (.ref b1), .unset, .unset, .unset, .unset, .unset, .unset, .unset, .unset, .unset, .unset, .unset] [(.int (0 : Int32)), (.ref b28), (.ref b28)]))
  refine own_by (fun _ k => XS.iconst X28.here hx rfl (hb hby at_122) k) ?_
  show own_G _ _ _ _ _ _ _ (T28.setTop (mkF m 123 #[.val (.int p0), .val (.int p1), .val (.int p2), .val (.long q3), .second, .val (.long q4), .second, .val (.int pp), .val (.int jj), .val (.int wf), .val (.ref b1), .unset, .unset, .unset, .unset, .unset, .unset, .unset, .unset, .unset, .unset, .unset] [(.int (0 : Int32)), (.int (0 : Int32)), (.ref b28), (.ref b28)]))
  obtain ⟨T31, h31, X31, e31, W31, A31, st31⟩ := own_stI X28 hx hZ e28 A28 (k := 0) (by decide) (by decide) (g := (mkF m 123 #[.val (.int p0), .val (.int p1), .val (.int p2), .val (.long q3), .second, .val (.long q4), .second, .val (.int pp), .val (.int jj), .val (.int wf), .val (.ref b1), .unset, .unset, .unset, .unset, .unset, .unset, .unset, .unset, .unset, .unset, .unset] [(.int (0 : Int32)), (.int (0 : Int32)), (.ref b28), (.ref b28)])) rfl rfl (hb hby at_123)
  refine own_by st31 ?_
  have F32_0 := F29_0.other W31 ne_b1_b28
  have N31 := Fr.snoc X31 N25 g_b28
  have Z33 : n0 ≤ h31.size := Nat.le_trans Z30 (Nat.le_of_eq W31.size.symm)
  show own_G _ _ _ _ _ _ _ (T31.setTop (mkF m 124 #[.val (.int p0), .val (.int p1), .val (.int p2), .val (.long q3), .second, .val (.long q4), .second, .val (.int pp), .val (.int jj), .val (.int wf), .val (.ref b1), .unset, .unset, .unset, .unset, .unset, .unset, .unset, .unset, .unset, .unset, .unset] [(.ref b28)]))
  refine own_by (fun _ k => XS.dup X31.here hx rfl (hb hby at_124) rfl rfl k) ?_
  show own_G _ _ _ _ _ _ _ (T31.setTop (mkF m 125 #[.val (.int p0), .val (.int p1), .val (.int p2), .val (.long q3), .second, .val (.long q4), .second, .val (.int pp), .val (.int jj), .val (.int wf), .val (.ref b1), .unset, .unset, .unset, .unset, .unset, .unset, .unset, .unset, .unset, .unset, .unset] [(.ref b28), (.ref b28)]))
  refine own_by (fun _ k => XS.iconst X31.here hx rfl (hb hby at_125) k) ?_
  show own_G _ _ _ _ _ _ _ (T31.setTop (mkF m 126 #[.val (.int p0), .val (.int p1), .val (.int p2), .val (.long q3), .second, .val (.long q4), .second, .val (.int pp), .val (.int jj), .val (.int wf), .val (.ref b1), .unset, .unset, .unset, .unset, .unset, .unset, .unset, .unset, .unset, .unset, .unset] [(.int (1 : Int32)), (.ref b28), (.ref b28)]))
  refine own_by (fun _ k => XS.bipush X31.here hx rfl (hb hby at_126) k) ?_
  show own_G _ _ _ _ _ _ _ (T31.setTop (mkF m 128 #[.val (.int p0), .val (.int p1), .val (.int p2), .val (.long q3), .second, .val (.long q4), .second, .val (.int pp), .val (.int jj), .val (.int wf), .val (.ref b1), .unset, .unset, .unset, .unset, .unset, .unset, .unset, .unset, .unset, .unset, .unset] [(.int (29 : Int32)), (.int (1 : Int32)), (.ref b28), (.ref b28)]))
  obtain ⟨T34, h34, X34, e34, W34, A34, st34⟩ := own_stI X31 hx hZ e31 A31 (k := 1) (by decide) (by decide) (g := (mkF m 128 #[.val (.int p0), .val (.int p1), .val (.int p2), .val (.long q3), .second, .val (.long q4), .second, .val (.int pp), .val (.int jj), .val (.int wf), .val (.ref b1), .unset, .unset, .unset, .unset, .unset, .unset, .unset, .unset, .unset, .unset, .unset] [(.int (29 : Int32)), (.int (1 : Int32)), (.ref b28), (.ref b28)])) rfl rfl (hb hby at_128)
  refine own_by st34 ?_
  have F35_0 := F32_0.other W34 ne_b1_b28
  have N34 := Fr.snoc X34 N31 g_b28
  have Z36 : n0 ≤ h34.size := Nat.le_trans Z33 (Nat.le_of_eq W34.size.symm)
  show own_G _ _ _ _ _ _ _ (T34.setTop (mkF m 129 #[.val (.int p0), .val (.int p1), .val (.int p2), .val (.long q3), .second, .val (.long q4), .second, .val (.int pp), .val (.int jj), .val (.int wf), .val (.ref b1), .unset, .unset, .unset, .unset, .unset, .unset, .unset, .unset, .unset, .unset, .unset] [(.ref b28)]))
  refine own_by (fun _ k => XS.dup X34.here hx rfl (hb hby at_129) rfl rfl k) ?_
  show own_G _ _ _ _ _ _ _ (T34.setTop (mkF m 130 #[.val (.int p0), .val (.int p1), .val (.int p2), .val (.long q3), .second, .val (.long q4), .second, .val (.int pp), .val (.int jj), .val (.int wf), .val (.ref b1), .unset, .unset, .unset, .unset, .unset, .unset, .unset, .unset, .unset, .unset, .unset] [(.ref b28), (.ref b28)]))
  refine own_by (fun _ k => XS.iconst X34.here hx rfl (hb hby at_130) k) ?_
  show own_G _ _ _ _ _ _ _ (T34.setTop (mkF m 131 #[.val (.int p0), .val (.int p1), .val (.int p2), .val (.long q3), .second, .val (.long q4), .second, .val (.int pp), .val (.int jj), .val (.int wf), .val (.ref b1), .unset, .unset, .unset, .unset, .unset, .unset, .unset, .unset, .unset, .unset, .unset] [(.int (2 : Int32)), (.ref b28), (.ref b28)]))
  refine own_by (fun _ k => XS.bipush X34.here hx rfl (hb hby at_131) k) ?_
  show own_G _ _ _ _ _ _ _ (T34.setTop (mkF m 133 #[.val (.int p0), .val (.int p1), .val (.int p2), .val (.long q3), .second, .val (.long q4), .second, .val (.int pp), .val (.int jj), .val (.int wf), .val (.ref b1), .unset, .unset, .unset, .unset, .unset, .unset, .unset, .unset, .unset, .unset, .unset] [(.int (59 : Int32)), (.int (2 : Int32)), (.ref b28), (.ref b28)]))
  obtain ⟨T37, h37, X37, e37, W37, A37, st37⟩ := own_stI X34 hx hZ e34 A34 (k := 2) (by decide) (by decide) (g := (mkF m 133 #[.val (.int p0), .val (.int p1), .val (.int p2), .val (.long q3), .second, .val (.long q4), .second, .val (.int pp), .val (.int jj), .val (.int wf), .val (.ref b1), .unset, .unset, .unset, .unset, .unset, .unset, .unset, .unset, .unset, .unset, .unset] [(.int (59 : Int32)), (.int (2 : Int32)), (.ref b28), (.ref b28)])) rfl rfl (hb hby at_133)
  refine own_by st37 ?_
  have F38_0 := F35_0.other W37 ne_b1_b28
  have N37 := Fr.snoc X37 N34 g_b28
  have Z39 : n0 ≤ h37.size := Nat.le_trans Z36 (Nat.le_of_eq W37.size.symm)
  show own_G _ _ _ _ _ _ _ (T37.setTop (mkF m 134 #[.val (.int p0), .val (.int p1), .val (.int p2), .val (.long q3), .second, .val (.long q4), .second, .val (.int pp), .val (.int jj), .val (.int wf), .val (.ref b1), .unset, .unset, .unset, .unset, .unset, .unset, .unset, .unset, .unset, .unset, .unset] [(.ref b28)]))
  refine own_by (fun _ k => XS.dup X37.here hx rfl (hb hby at_134) rfl rfl k) ?_
  show own_G _ _ _ _ _ _ _ (T37.setTop (mkF m 135 #[.val (.int p0), .val (.int p1), .val (.int p2), .val (.long q3), .second, .val (.long q4), .second, .val (.int pp), .val (.int jj), .val (.int wf), .val (.ref b1), .unset, .unset, .unset, .unset, .unset, .unset, .unset, .unset, .unset, .unset, .unset] [(.ref b28), (.ref b28)]))
  refine own_by (fun _ k => XS.iconst X37.here hx rfl (hb hby at_135) k) ?_
  show own_G _ _ _ _ _ _ _ (T37.setTop (mkF m 136 #[.val (.int p0), .val (.int p1), .val (.int p2), .val (.long q3), .second, .val (.long q4), .second, .val (.int pp), .val (.int jj), .val (.int wf), .val (.ref b1), .unset, .unset, .unset, .unset, .unset, .unset, .unset, .unset, .unset, .unset, .unset] [(.int (3 : Int32)), (.ref b28), (.ref b28)]))
  refine own_by (fun _ k => XS.bipush X37.here hx rfl (hb hby at_136) k) ?_
  show own_G _ _ _ _ _ _ _ (T37.setTop (mkF m 138 #[.val (.int p0), .val (.int p1), .val (.int p2), .val (.long q3), .second, .val (.long q4), .second, .val (.int pp), .val (.int jj), .val (.int wf), .val (.ref b1), .unset, .unset, .unset, .unset, .unset, .unset, .unset, .unset, .unset, .unset, .unset] [(.int (88 : Int32)), (.int (3 : Int32)), (.ref b28), (.ref b28)]))
  obtain ⟨T40, h40, X40, e40, W40, A40, st40⟩ := own_stI X37 hx hZ e37 A37 (k := 3) (by decide) (by decide) (g := (mkF m 138 #[.val (.int p0), .val (.int p1), .val (.int p2), .val (.long q3), .second, .val (.long q4), .second, .val (.int pp), .val (.int jj), .val (.int wf), .val (.ref b1), .unset, .unset, .unset, .unset, .unset, .unset, .unset, .unset, .unset, .unset, .unset] [(.int (88 : Int32)), (.int (3 : Int32)), (.ref b28), (.ref b28)])) rfl rfl (hb hby at_138)
  refine own_by st40 ?_
  have F41_0 := F38_0.other W40 ne_b1_b28
  have N40 := Fr.snoc X40 N37 g_b28
  have Z42 : n0 ≤ h40.size := Nat.le_trans Z39 (Nat.le_of_eq W40.size.symm)
  show own_G _ _ _ _ _ _ _ (T40.setTop (mkF m 139 #[.val (.int p0), .val (.int p1), .val (.int p2), .val (.long q3), .second, .val (.long q4), .second, .val (.int pp), .val (.int jj), .val (.int wf), .val (.ref b1), .unset, .unset, .unset, .unset, .unset, .unset, .unset, .unset, .unset, .unset, .unset] [(.ref b28)]))
  refine own_by (fun _ k => XS.dup X40.here hx rfl (hb hby at_139) rfl rfl k) ?_
  show own_G _ _ _ _ _ _ _ (T40.setTop (mkF m 140 #[.val (.int p0), .val (.int p1), .val (.int p2), .val (.long q3), .second, .val (.long q4), .second, .val (.int pp), .val (.int jj), .val (.int wf), .val (.ref b1), .unset, .unset, .unset, .unset, .unset, .unset, .unset, .unset, .unset, .unset, .unset] [(.ref b28), (.ref b28)]))
  refine own_by (fun _ k => XS.iconst X40.here hx rfl (hb hby at_140) k) ?_
  show own_G _ _ _ _ _ _ _ (T40.setTop (mkF m 141 #[.val (.int p0), .val (.int p1), .val (.int p2), .val (.long q3), .second, .val (.long q4), .second, .val (.int pp), .val (.int jj), .val (.int wf), .val (.ref b1), .unset, .unset, .unset, .unset, .unset, .unset, .unset, .unset, .unset, .unset, .unset] [(.int (4 : Int32)), (.ref b28), (.ref b28)]))
  refine own_by (fun _ k => XS.bipush X40.here hx rfl (hb hby at_141) k) ?_
  show own_G _ _ _ _ _ _ _ (T40.setTop (mkF m 143 #[.val (.int p0), .val (.int p1), .val (.int p2), .val (.long q3), .second, .val (.long q4), .second, .val (.int pp), .val (.int jj), .val (.int wf), .val (.ref b1), .unset, .unset, .unset, .unset, .unset, .unset, .unset, .unset, .unset, .unset, .unset] [(.int (118 : Int32)), (.int (4 : Int32)), (.ref b28), (.ref b28)]))
  obtain ⟨T43, h43, X43, e43, W43, A43, st43⟩ := own_stI X40 hx hZ e40 A40 (k := 4) (by decide) (by decide) (g := (mkF m 143 #[.val (.int p0), .val (.int p1), .val (.int p2), .val (.long q3), .second, .val (.long q4), .second, .val (.int pp), .val (.int jj), .val (.int wf), .val (.ref b1), .unset, .unset, .unset, .unset, .unset, .unset, .unset, .unset, .unset, .unset, .unset] [(.int (118 : Int32)), (.int (4 : Int32)), (.ref b28), (.ref b28)])) rfl rfl (hb hby at_143)
  refine own_by st43 ?_
  have F44_0 := F41_0.other W43 ne_b1_b28
  have N43 := Fr.snoc X43 N40 g_b28
  have Z45 : n0 ≤ h43.size := Nat.le_trans Z42 (Nat.le_of_eq W43.size.symm)
  show own_G _ _ _ _ _ _ _ (T43.setTop (mkF m 144 #[.val (.int p0), .val (.int p1), .val (.int p2), .val (.long q3), .second, .val (.long q4), .second, .val (.int pp), .val (.int jj), .val (.int wf), .val (.ref b1), .unset, .unset, .unset, .unset, .unset, .unset, .unset, .unset, .unset, .unset, .unset] [(.ref b28)]))
  refine own_by (fun _ k => XS.dup X43.here hx rfl (hb hby at_144) rfl rfl k) ?_
  show own_G _ _ _ _ _ _ _ (T43.setTop (mkF m 145 #[.val (.int p0), .val (.int p1), .val (.int p2), .val (.long q3), .second, .val (.long q4), .second, .val (.int pp), .val (.int jj), .val (.int wf), .val (.ref b1), .unset, .unset, .unset, .unset, .unset, .unset, .unset, .unset, .unset, .unset, .unset] [(.ref b28), (.ref b28)]))
  refine own_by (fun _ k => XS.iconst X43.here hx rfl (hb hby at_145) k) ?_
  show own_G _ _ _ _ _ _ _ (T43.setTop (mkF m 146 #[.val (.int p0), .val (.int p1), .val (.int p2), .val (.long q3), .second, .val (.long q4), .second, .val (.int pp), .val (.int jj), .val (.int wf), .val (.ref b1), .unset, .unset, .unset, .unset, .unset, .unset, .unset, .unset, .unset, .unset, .unset] [(.int (5 : Int32)), (.ref b28), (.ref b28)]))
  refine own_by (fun _ k => XS.sipush X43.here hx rfl (hb hby at_146) k) ?_
  show own_G _ _ _ _ _ _ _ (T43.setTop (mkF m 149 #[.val (.int p0), .val (.int p1), .val (.int p2), .val (.long q3), .second, .val (.long q4), .second, .val (.int pp), .val (.int jj), .val (.int wf), .val (.ref b1), .unset, .unset, .unset, .unset, .unset, .unset, .unset, .unset, .unset, .unset, .unset] [(.int (147 : Int32)), (.int (5 : Int32)), (.ref b28), (.ref b28)]))
  obtain ⟨T46, h46, X46, e46, W46, A46, st46⟩ := own_stI X43 hx hZ e43 A43 (k := 5) (by decide) (by decide) (g := (mkF m 149 #[.val (.int p0), .val (.int p1), .val (.int p2), .val (.long q3), .second, .val (.long q4), .second, .val (.int pp), .val (.int jj), .val (.int wf), .val (.ref b1), .unset, .unset, .unset, .unset, .unset, .unset, .unset, .unset, .unset, .unset, .unset] [(.int (147 : Int32)), (.int (5 : Int32)), (.ref b28), (.ref b28)])) rfl rfl (hb hby at_149)
  refine own_by st46 ?_
  have F47_0 := F44_0.other W46 ne_b1_b28
  have N46 := Fr.snoc X46 N43 g_b28
  have Z48 : n0 ≤ h46.size := Nat.le_trans Z45 (Nat.le_of_eq W46.size.symm)
  show own_G _ _ _ _ _ _ _ (T46.setTop (mkF m 150 #[.val (.int p0), .val (.int p1), .val (.int p2), .val (.long q3), .second, .val (.long q4), .second, .val (.int pp), .val (.int jj), .val (.int wf), .val (.ref b1), .unset, .unset, .unset, .unset, .unset, .unset, .unset, .unset, .unset, .unset, .unset] [(.ref b28)]))
  refine own_by (fun _ k => XS.dup X46.here hx rfl (hb hby at_150) rfl rfl k) ?_
  show own_G _ _ _ _ _ _ _ (T46.setTop (mkF m 151 #[.val (.int p0), .val (.int p1), .val (.int p2), .val (.long q3), .second, .val (.long q4), .second, .val (.int pp), .val (.int jj), .val (.int wf), .val (.ref b1), .unset, .unset, .unset, .unset, .unset, .unset, .unset, .unset, .unset, .unset, .unset] [(.ref b28), (.ref b28)]))
  refine own_by (fun _ k => XS.bipush X46.here hx rfl (hb hby at_151) k) ?_
  show own_G _ _ _ _ _ _ _ (T46.setTop (mkF m 153 #[.val (.int p0), .val (.int p1), .val (.int p2), .val (.long q3), .second, .val (.long q4), .second, .val (.int pp), .val (.int jj), .val (.int wf), .val (.ref b1), .unset, .unset, .unset, .unset, .unset, .unset, .unset, .unset, .unset, .unset, .unset] [(.int (6 : Int32)), (.ref b28), (.ref b28)]))
  refine own_by (fun _ k => XS.sipush X46.here hx rfl (hb hby at_153) k) ?_
  show own_G _ _ _ _ _ _ _ (T46.setTop (mkF m 156 #[.val (.int p0), .val (.int p1), .val (.int p2), .val (.long q3), .second, .val (.long q4), .second, .val (.int pp), .val (.int jj), .val (.int wf), .val (.ref b1), .unset, .unset, .unset, .unset, .unset, .unset, .unset, .unset, .unset, .unset, .unset] [(.int (177 : Int32)), (.int (6 : Int32)), (.ref b28), (.ref b28)]))
  obtain ⟨T49, h49, X49, e49, W49, A49, st49⟩ := own_stI X46 hx hZ e46 A46 (k := 6) (by decide) (by decide) (g := (mkF m 156 #[.val (.int p0), .val (.int p1), .val (.int p2), .val (.long q3), .second, .val (.long q4), .second, .val (.int pp), .val (.int jj), .val (.int wf), .val (.ref b1), .unset, .unset, .unset, .unset, .unset, .unset, .unset, .unset, .unset, .unset, .unset] [(.int (177 : Int32)), (.int (6 : Int32)), (.ref b28), (.ref b28)])) rfl rfl (hb hby at_156)
  refine own_by st49 ?_
  have F50_0 := F47_0.other W49 ne_b1_b28
  have N49 := Fr.snoc X49 N46 g_b28
  have Z51 : n0 ≤ h49.size := Nat.le_trans Z48 (Nat.le_of_eq W49.size.symm)
  show own_G _ _ _ _ _ _ _ (T49.setTop (mkF m 157 #[.val (.int p0), .val (.int p1), .val (.int p2), .val (.long q3), .second, .val (.long q4), .second, .val (.int pp), .val (.int jj), .val (.int wf), .val (.ref b1), .unset, .unset, .unset, .unset, .unset, .unset, .unset, .unset, .unset, .unset, .unset] [(.ref b28)]))
  refine own_by (fun _ k => XS.dup X49.here hx rfl (hb hby at_157) rfl rfl k) ?_
  show own_G _ _ _ _ _ _ _ (T49.setTop (mkF m 158 #[.val (.int p0), .val (.int p1), .val (.int p2), .val (.long q3), .second, .val (.long q4), .second, .val (.int pp), .val (.int jj), .val (.int wf), .val (.ref b1), .unset, .unset, .unset, .unset, .unset, .unset, .unset, .unset, .unset, .unset, .unset] [(.ref b28), (.ref b28)]))
  refine own_by (fun _ k => XS.bipush X49.here hx rfl (hb hby at_158) k) ?_
  show own_G _ _ _ _ _ _ _ (T49.setTop (mkF m 160 #[.val (.int p0), .val (.int p1), .val (.int p2), .val (.long q3), .second, .val (.long q4), .second, .val (.int pp), .val (.int jj), .val (.int wf), .val (.ref b1), .unset, .unset, .unset, .unset, .unset, .unset, .unset, .unset, .unset, .unset, .unset] [(.int (7 : Int32)), (.ref b28), (.ref b28)]))
  refine own_by (fun _ k => XS.sipush X49.here hx rfl (hb hby at_160) k) ?_
  show own_G _ _ _ _ _ _ _ (T49.setTop (mkF m 163 #[.val (.int p0), .val (.int p1), .val (.int p2), .val (.long q3), .second, .val (.long q4), .second, .val (.int pp), .val (.int jj), .val (.int wf), .val (.ref b1), .unset, .unset, .unset, .unset, .unset, .unset, .unset, .unset, .unset, .unset, .unset] [(.int (206 : Int32)), (.int (7 : Int32)), (.ref b28), (.ref b28)]))
  obtain ⟨T52, h52, X52, e52, W52, A52, st52⟩ := own_stI X49 hx hZ e49 A49 (k := 7) (by decide) (by decide) (g := (mkF m 163 #[.val (.int p0), .val (.int p1), .val (.int p2), .val (.long q3), .second, .val (.long q4), .second, .val (.int pp), .val (.int jj), .val (.int wf), .val (.ref b1), .unset, .unset, .unset, .unset, .unset, .unset, .unset, .unset, .unset, .unset, .unset] [(.int (206 : Int32)), (.int (7 : Int32)), (.ref b28), (.ref b28)])) rfl rfl (hb hby at_163)
  refine own_by st52 ?_
  have F53_0 := F50_0.other W52 ne_b1_b28
  have N52 := Fr.snoc X52 N49 g_b28
  have Z54 : n0 ≤ h52.size := Nat.le_trans Z51 (Nat.le_of_eq W52.size.symm)
  show own_G _ _ _ _ _ _ _ (T52.setTop (mkF m 164 #[.val (.int p0), .val (.int p1), .val (.int p2), .val (.long q3), .second, .val (.long q4), .second, .val (.int pp), .val (.int jj), .val (.int wf), .val (.ref b1), .unset, .unset, .unset, .unset, .unset, .unset, .unset, .unset, .unset, .unset, .unset] [(.ref b28)]))
  refine own_by (fun _ k => XS.dup X52.here hx rfl (hb hby at_164) rfl rfl k) ?_
  show own_G _ _ _ _ _ _ _ (T52.setTop (mkF m 165 #[.val (.int p0), .val (.int p1), .val (.int p2), .val (.long q3), .second, .val (.long q4), .second, .val (.int pp), .val (.int jj), .val (.int wf), .val (.ref b1), .unset, .unset, .unset, .unset, .unset, .unset, .unset, .unset, .unset, .unset, .unset] [(.ref b28), (.ref b28)]))
  refine own_by (fun _ k => XS.bipush X52.here hx rfl (hb hby at_165) k) ?_
  show own_G _ _ _ _ _ _ _ (T52.setTop (mkF m 167 #[.val (.int p0), .val (.int p1), .val (.int p2), .val (.long q3), .second, .val (.long q4), .second, .val (.int pp), .val (.int jj), .val (.int wf), .val (.ref b1), .unset, .unset, .unset, .unset, .unset, .unset, .unset, .unset, .unset, .unset, .unset] [(.int (8 : Int32)), (.ref b28), (.ref b28)]))
  refine own_by (fun _ k => XS.sipush X52.here hx rfl (hb hby at_167) k) ?_
  show own_G _ _ _ _ _ _ _ (T52.setTop (mkF m 170 #[.val (.int p0), .val (.int p1), .val (.int p2), .val (.long q3), .second, .val (.long q4), .second, .val (.int pp), .val (.int jj), .val (.int wf), .val (.ref b1), .unset, .unset, .unset, .unset, .unset, .unset, .unset, .unset, .unset, .unset, .unset] [(.int (236 : Int32)), (.int (8 : Int32)), (.ref b28), (.ref b28)]))
  obtain ⟨T55, h55, X55, e55, W55, A55, st55⟩ := own_stI X52 hx hZ e52 A52 (k := 8) (by decide) (by decide) (g := (mkF m 170 #[.val (.int p0), .val (.int p1), .val (.int p2), .val (.long q3), .second, .val (.long q4), .second, .val (.int pp), .val (.int jj), .val (.int wf), .val (.ref b1), .unset, .unset, .unset, .unset, .unset, .unset, .unset, .unset, .unset, .unset, .unset] [(.int (236 : Int32)), (.int (8 : Int32)), (.ref b28), (.ref b28)])) rfl rfl (hb hby at_170)
  refine own_by st55 ?_
  have F56_0 := F53_0.other W55 ne_b1_b28
  have N55 := Fr.snoc X55 N52 g_b28
  have Z57 : n0 ≤ h55.size := Nat.le_trans Z54 (Nat.le_of_eq W55.size.symm)
  show own_G _ _ _ _ _ _ _ (T55.setTop (mkF m 171 #[.val (.int p0), .val (.int p1), .val (.int p2), .val (.long q3), .second, .val (.long q4), .second, .val (.int pp), .val (.int jj), .val (.int wf), .val (.ref b1), .unset, .unset, .unset, .unset, .unset, .unset, .unset, .unset, .unset, .unset, .unset] [(.ref b28)]))
  refine own_by (fun _ k => XS.dup X55.here hx rfl (hb hby at_171) rfl rfl k) ?_
  show own_G _ _ _ _ _ _ _ (T55.setTop (mkF m 172 #[.val (.int p0), .val (.int p1), .val (.int p2), .val (.long q3), .second, .val (.long q4), .second, .val (.int pp), .val (.int jj), .val (.int wf), .val (.ref b1), .unset, .unset, .unset, .unset, .unset, .unset, .unset, .unset, .unset, .unset, .unset] [(.ref b28), (.ref b28)]))
  refine own_by (fun _ k => XS.bipush X55.here hx rfl (hb hby at_172) k) ?_
  show own_G _ _ _ _ _ _ _ (T55.setTop (mkF m 174 #[.val (.int p0), .val (.int p1), .val (.int p2), .val (.long q3), .second, .val (.long q4), .second, .val (.int pp), .val (.int jj), .val (.int wf), .val (.ref b1), .unset, .unset, .unset, .unset, .unset, .unset, .unset, .unset, .unset, .unset, .unset] [(.int (9 : Int32)), (.ref b28), (.ref b28)]))
  refine own_by (fun _ k => XS.sipush X55.here hx rfl (hb hby at_174) k) ?_
  show own_G _ _ _ _ _ _ _ (T55.setTop (mkF m 177 #[.val (.int p0), .val (.int p1), .val (.int p2), .val (.long q3), .second, .val (.long q4), .second, .val (.int pp), .val (.int jj), .val (.int wf), .val (.ref b1), .unset, .unset, .unset, .unset, .unset, .unset, .unset, .unset, .unset, .unset, .unset] [(.int (265 : Int32)), (.int (9 : Int32)), (.ref b28), (.ref b28)]))
  obtain ⟨T58, h58, X58, e58, W58, A58, st58⟩ := own_stI X55 hx hZ e55 A55 (k := 9) (by decide) (by decide) (g := (mkF m 177 #[.val (.int p0), .val (.int p1), .val (.int p2), .val (.long q3), .second, .val (.long q4), .second, .val (.int pp), .val (.int jj), .val (.int wf), .val (.ref b1), .unset, .unset, .unset, .unset, .unset, .unset, .unset, .unset, .unset, .unset, .unset] [(.int (265 : Int32)), (.int (9 : Int32)), (.ref b28), (.ref b28)])) rfl rfl (hb hby at_177)
  refine own_by st58 ?_
  have F59_0 := F56_0.other W58 ne_b1_b28
  have N58 := Fr.snoc X58 N55 g_b28
  have Z60 : n0 ≤ h58.size := Nat.le_trans Z57 (Nat.le_of_eq W58.size.symm)
  show own_G _ _ _ _ _ _ _ (T58.setTop (mkF m 178 #[.val (.int p0), .val (.int p1), .val (.int p2), .val (.long q3), .second, .val (.long q4), .second, .val (.int pp), .val (.int jj), .val (.int wf), .val (.ref b1), .unset, .unset, .unset, .unset, .unset, .unset, .unset, .unset, .unset, .unset, .unset] [(.ref b28)]))
  refine own_by (fun _ k => XS.dup X58.here hx rfl (hb hby at_178) rfl rfl k) ?_
  show own_G _ _ _ _ _ _ _ (T58.setTop (mkF m 179 #[.val (.int p0), .val (.int p1), .val (.int p2), .val (.long q3), .second, .val (.long q4), .second, .val (.int pp), .val (.int jj), .val (.int wf), .val (.ref b1), .unset, .unset, .unset, .unset, .unset, .unset, .unset, .unset, .unset, .unset, .unset] [(.ref b28), (.ref b28)]))
  refine own_by (fun _ k => XS.bipush X58.here hx rfl (hb hby at_179) k) ?_
  show own_G _ _ _ _ _ _ _ (T58.setTop (mkF m 181 #[.val (.int p0), .val (.int p1), .val (.int p2), .val (.long q3), .second, .val (.long q4), .second, .val (.int pp), .val (.int jj), .val (.int wf), .val (.ref b1), .unset, .unset, .unset, .unset, .unset, .unset, .unset, .unset, .unset, .unset, .unset] [(.int (10 : Int32)), (.ref b28), (.ref b28)]))
  refine own_by (fun _ k => XS.sipush X58.here hx rfl (hb hby at_181) k) ?_
  show own_G _ _ _ _ _ _ _ (T58.setTop (mkF m 184 #[.val (.int p0), .val (.int p1), .val (.int p2), .val (.long q3), .second, .val (.long q4), .second, .val (.int pp), .val (.int jj), .val (.int wf), .val (.ref b1), .unset, .unset, .unset, .unset, .unset, .unset, .unset, .unset, .unset, .unset, .unset] [(.int (295 : Int32)), (.int (10 : Int32)), (.ref b28), (.ref b28)]))
  obtain ⟨T61, h61, X61, e61, W61, A61, st61⟩ := own_stI X58 hx hZ e58 A58 (k := 10) (by decide) (by decide) (g := (mkF m 184 #[.val (.int p0), .val (.int p1), .val (.int p2), .val (.long q3), .second, .val (.long q4), .second, .val (.int pp), .val (.int jj), .val (.int wf), .val (.ref b1), .unset, .unset, .unset, .unset, .unset, .unset, .unset, .unset, .unset, .unset, .unset] [(.int (295 : Int32)), (.int (10 : Int32)), (.ref b28), (.ref b28)])) rfl rfl (hb hby at_184)
  refine own_by st61 ?_
  have F62_0 := F59_0.other W61 ne_b1_b28
  have N61 := Fr.snoc X61 N58 g_b28
  have Z63 : n0 ≤ h61.size := Nat.le_trans Z60 (Nat.le_of_eq W61.size.symm)
  show own_G _ _ _ _ _ _ _ (T61.setTop (mkF m 185 #[.val (.int p0), .val (.int p1), .val (.int p2), .val (.long q3), .second, .val (.long q4), .second, .val (.int pp), .val (.int jj), .val (.int wf), .val (.ref b1), .unset, .unset, .unset, .unset, .unset, .unset, .unset, .unset, .unset, .unset, .unset] [(.ref b28)]))
  refine own_by (fun _ k => XS.dup X61.here hx rfl (hb hby at_185) rfl rfl k) ?_
  show own_G _ _ _ _ _ _ _ (T61.setTop (mkF m 186 #[.val (.int p0), .val (.int p1), .val (.int p2), .val (.long q3), .second, .val (.long q4), .second, .val (.int pp), .val (.int jj), .val (.int wf), .val (.ref b1), .unset, .unset, .unset, .unset, .unset, .unset, .unset, .unset, .unset, .unset, .unset] [(.ref b28), (.ref b28)]))
  refine own_by (fun _ k => XS.bipush X61.here hx rfl (hb hby at_186) k) ?_
  show own_G _ _ _ _ _ _ _ (T61.setTop (mkF m 188 #[.val (.int p0), .val (.int p1), .val (.int p2), .val (.long q3), .second, .val (.long q4), .second, .val (.int pp), .val (.int jj), .val (.int wf), .val (.ref b1), .unset, .unset, .unset, .unset, .unset, .unset, .unset, .unset, .unset, .unset, .unset] [(.int (11 : Int32)), (.ref b28), (.ref b28)]))
  refine own_by (fun _ k => XS.sipush X61.here hx rfl (hb hby at_188) k) ?_
  show own_G _ _ _ _ _ _ _ (T61.setTop (mkF m 191 #[.val (.int p0), .val (.int p1), .val (.int p2), .val (.long q3), .second, .val (.long q4), .second, .val (.int pp), .val (.int jj), .val (.int wf), .val (.ref b1), .unset, .unset, .unset, .unset, .unset, .unset, .unset, .unset, .unset, .unset, .unset] [(.int (324 : Int32)), (.int (11 : Int32)), (.ref b28), (.ref b28)]))
  obtain ⟨T64, h64, X64, e64, W64, A64, st64⟩ := own_stI X61 hx hZ e61 A61 (k := 11) (by decide) (by decide) (g := (mkF m 191 #[.val (.int p0), .val (.int p1), .val (.int p2), .val (.long q3), .second, .val (.long q4), .second, .val (.int pp), .val (.int jj), .val (.int wf), .val (.ref b1), .unset, .unset, .unset, .unset, .unset, .unset, .unset, .unset, .unset, .unset, .unset] [(.int (324 : Int32)), (.int (11 : Int32)), (.ref b28), (.ref b28)])) rfl rfl (hb hby at_191)
  refine own_by st64 ?_
  have F65_0 := F62_0.other W64 ne_b1_b28
  have N64 := Fr.snoc X64 N61 g_b28
  have Z66 : n0 ≤ h64.size := Nat.le_trans Z63 (Nat.le_of_eq W64.size.symm)
  show own_G _ _ _ _ _ _ _ (T64.setTop (mkF m 192 #[.val (.int p0), .val (.int p1), .val (.int p2), .val (.long q3), .second, .val (.long q4), .second, .val (.int pp), .val (.int jj), .val (.int wf), .val (.ref b1), .unset, .unset, .unset, .unset, .unset, .unset, .unset, .unset, .unset, .unset, .unset] [(.ref b28)]))
  refine own_by (fun _ k => XS.dup X64.here hx rfl (hb hby at_192) rfl rfl k) ?_
  show own_G _ _ _ _ _ _ _ (T64.setTop (mkF m 193 #[.val (.int p0), .val (.int p1), .val (.int p2), .val (.long q3), .second, .val (.long q4), .second, .val (.int pp), .val (.int jj), .val (.int wf), .val (.ref b1), .unset, .unset, .unset, .unset, .unset, .unset, .unset, .unset, .unset, .unset, .unset] [(.ref b28), (.ref b28)]))
  refine own_by (fun _ k => XS.bipush X64.here hx rfl (hb hby at_193) k) ?_
  show own_G _ _ _ _ _ _ _ (T64.setTop (mkF m 195 #[.val (.int p0), .val (.int p1), .val (.int p2), .val (.long q3), .second, .val (.long q4), .second, .val (.int pp), .val (.int jj), .val (.int wf), .val (.ref b1), .unset, .unset, .unset, .unset, .unset, .unset, .unset, .unset, .unset, .unset, .unset] [(.int (12 : Int32)), (.ref b28), (.ref b28)]))
  refine own_by (fun _ k => XS.sipush X64.here hx rfl (hb hby at_195) k) ?_
  show own_G _ _ _ _ _ _ _ (T64.setTop (mkF m 198 #[.val (.int p0), .val (.int p1), .val (.int p2), .val (.long q3), .second, .val (.long q4), .second, .val (.int pp), .val (.int jj), .val (.int wf), .val (.ref b1), .unset, .unset, .unset, .unset, .unset, .unset, .unset, .unset, .unset, .unset, .unset] [(.int (354 : Int32)), (.int (12 : Int32)), (.ref b28), (.ref b28)]))
  obtain ⟨T67, h67, X67, e67, W67, A67, st67⟩ := own_stI X64 hx hZ e64 A64 (k := 12) (by decide) (by decide) (g := (mkF m 198 #[.val (.int p0), .val (.int p1), .val (.int p2), .val (.long q3), .second, .val (.long q4), .second, .val (.int pp), .val (.int jj), .val (.int wf), .val (.ref b1), .unset, .unset, .unset, .unset, .unset, .unset, .unset, .unset, .unset, .unset, .unset] [(.int (354 : Int32)), (.int (12 : Int32)), (.ref b28), (.ref b28)])) rfl rfl (hb hby at_198)
  refine own_by st67 ?_
  have F68_0 := F65_0.other W67 ne_b1_b28
  have N67 := Fr.snoc X67 N64 g_b28
  have Z69 : n0 ≤ h67.size := Nat.le_trans Z66 (Nat.le_of_eq W67.size.symm)
  show own_G _ _ _ _ _ _ _ (T67.setTop (mkF m 199 #[.val (.int p0), .val (.int p1), .val (.int p2), .val (.long q3), .second, .val (.long q4), .second, .val (.int pp), .val (.int jj), .val (.int wf), .val (.ref b1), .unset, .unset, .unset, .unset, .unset, .unset, .unset, .unset, .unset, .unset, .unset] [(.ref b28)]))
  refine own_by (fun _ k => XS.dup X67.here hx rfl (hb hby at_199) rfl rfl k) ?_
  show own_G _ _ _ _ _ _ _ (T67.setTop (mkF m 200 #[.val (.int p0), .val (.int p1), .val (.int p2), .val (.long q3), .second, .val (.long q4), .second, .val (.int pp), .val (.int jj), .val (.int wf), .val (.ref b1), .unset, .unset, .unset, .unset, .unset, .unset, .unset, .unset, .unset, .unset, .unset] [(.ref b28), (.ref b28)]))
  refine own_by (fun _ k => XS.bipush X67.here hx rfl (hb hby at_200) k) ?_
  show own_G _ _ _ _ _ _ _ (T67.setTop (mkF m 202 #[.val (.int p0), .val (.int p1), .val (.int p2), .val (.long q3), .second, .val (.long q4), .second, .val (.int pp), .val (.int jj), .val (.int wf), .val (.ref b1), .unset, .unset, .unset, .unset, .unset, .unset, .unset, .unset, .unset, .unset, .unset] [(.int (13 : Int32)), (.ref b28), (.ref b28)]))
  refine own_by (fun _ k => XS.sipush X67.here hx rfl (hb hby at_202) k) ?_
  show own_G _ _ _ _ _ _ _ (T67.setTop (mkF m 205 #[.val (.int p0), .val (.int p1), .val (.int p2), .val (.long q3), .second, .val (.long q4), .second, .val (.int pp), .val (.int jj), .val (.int wf), .val (.ref b1), .unset, .unset, .unset, .unset, .unset, .unset, .unset, .unset, .unset, .unset, .unset] [(.int (384 : Int32)), (.int (13 : Int32)), (.ref b28), (.ref b28)]))
  obtain ⟨T70, h70, X70, e70, W70, A70, st70⟩ := own_stI X67 hx hZ e67 A67 (k := 13) (by decide) (by decide) (g := (mkF m 205 #[.val (.int p0), .val (.int p1), .val (.int p2), .val (.long q3), .second, .val (.long q4), .second, .val (.int pp), .val (.int jj), .val (.int wf), .val (.ref b1), .unset, .unset, .unset, .unset, .unset, .unset, .unset, .unset, .unset, .unset, .unset] [(.int (384 : Int32)), (.int (13 : Int32)), (.ref b28), (.ref b28)])) rfl rfl (hb hby at_205)
  refine own_by st70 ?_
  have F71_0 := F68_0.other W70 ne_b1_b28
  have N70 := Fr.snoc X70 N67 g_b28
  have Z72 : n0 ≤ h70.size := Nat.le_trans Z69 (Nat.le_of_eq W70.size.symm)
  show own_G _ _ _ _ _ _ _ (T70.setTop (mkF m 206 #[.val (.int p0), .val (.int p1), .val (.int p2), .val (.long q3), .second, .val (.long q4), .second, .val (.int pp), .val (.int jj), .val (.int wf), .val (.ref b1), .unset, .unset, .unset, .unset, .unset, .unset, .unset, .unset, .unset, .unset, .unset] [(.ref b28)]))
  refine own_by (fun _ k => XS.astore X70.here hx rfl (hb hby at_206) rfl rfl (l' := #[.val (.int p0), .val (.int p1), .val (.int p2), .val (.long q3), .second, .val (.long q4), .second, .val (.int pp), .val (.int jj), .val (.int wf), .val (.ref b1), .val (.ref b28), .unset, .unset, .unset, .unset, .unset, .unset, .unset, .unset, .unset, .unset]) rfl k) ?_
  show own_G _ _ _ _ _ _ _ (T70.setTop (mkF m 208 #[.val (.int p0), .val (.int p1), .val (.int p2), .val (.long q3), .second, .val (.long q4), .second, .val (.int pp), .val (.int jj), .val (.int wf), .val (.ref b1), .val (.ref b28), .unset, .unset, .unset, .unset, .unset, .unset, .unset, .unset, .unset, .unset] []))
  obtain ⟨F, VF⟩ : ∃ F : Nat → Int64, own_AJ Z h70 b1 8 F := ⟨_, F71_0⟩
  have VS : own_AI Z h70 b28 14 own_sv := A70.cast (fun k hk => by
    match k, hk with
    | 0, _ => rfl
    | 1, _ => rfl
    | 2, _ => rfl
    | 3, _ => rfl
    | 4, _ => rfl
    | 5, _ => rfl
    | 6, _ => rfl
    | 7, _ => rfl
    | 8, _ => rfl
    | 9, _ => rfl
    | 10, _ => rfl
    | 11, _ => rfl
    | 12, _ => rfl
    | 13, _ => rfl)
  refine own_by (fun _ k => XS.aload X70.here hx rfl (hb hby at_208) rfl rfl k) ?_
  show own_G _ _ _ _ _ _ _ (T70.setTop (mkF m 210 #[.val (.int p0), .val (.int p1), .val (.int p2), .val (.long q3), .second, .val (.long q4), .second, .val (.int pp), .val (.int jj), .val (.int wf), .val (.ref b1), .val (.ref b28), .unset, .unset, .unset, .unset, .unset, .unset, .unset, .unset, .unset, .unset] [(.ref b28)]))
  refine own_by (fun _ k => XS.iload X70.here hx rfl (hb hby at_210) rfl  k) ?_
  show own_G _ _ _ _ _ _ _ (T70.setTop (mkF m 212 #[.val (.int p0), .val (.int p1), .val (.int p2), .val (.long q3), .second, .val (.long q4), .second, .val (.int pp), .val (.int jj), .val (.int wf), .val (.ref b1), .val (.ref b28), .unset, .unset, .unset, .unset, .unset, .unset, .unset, .unset, .unset, .unset] [(.int pp), (.ref b28)]))
  refine own_by (own_ldI X70 hx hZ e70 VS (k := P) hpp ar.2.2.2.2.2.2.2.1 (g := (mkF m 212 #[.val (.int p0), .val (.int p1), .val (.int p2), .val (.long q3), .second, .val (.long q4), .second, .val (.int pp), .val (.int jj), .val (.int wf), .val (.ref b1), .val (.ref b28), .unset, .unset, .unset, .unset, .unset, .unset, .unset, .unset, .unset, .unset] [(.int pp), (.ref b28)])) rfl rfl (hb hby at_212)) ?_
  show own_G _ _ _ _ _ _ _ (T70.setTop (mkF m 213 #[.val (.int p0), .val (.int p1), .val (.int p2), .val (.long q3), .second, .val (.long q4), .second, .val (.int pp), .val (.int jj), .val (.int wf), .val (.ref b1), .val (.ref b28), .unset, .unset, .unset, .unset, .unset, .unset, .unset, .unset, .unset, .unset] [(.int (own_sv P))]))
  refine own_by (fun _ k => XS.istore X70.here hx rfl (hb hby at_213) rfl (l' := #[.val (.int p0), .val (.int p1), .val (.int p2), .val (.long q3), .second, .val (.long q4), .second, .val (.int pp), .val (.int jj), .val (.int wf), .val (.ref b1), .val (.ref b28), .val (.int (own_sv P)), .unset, .unset, .unset, .unset, .unset, .unset, .unset, .unset, .unset]) rfl k) ?_
  show own_G _ _ _ _ _ _ _ (T70.setTop (mkF m 215 #[.val (.int p0), .val (.int p1), .val (.int p2), .val (.long q3), .second, .val (.long q4), .second, .val (.int pp), .val (.int jj), .val (.int wf), .val (.ref b1), .val (.ref b28), .val (.int (own_sv P)), .unset, .unset, .unset, .unset, .unset, .unset, .unset, .unset, .unset] []))
  generalize hnst : (own_sv P) = st
  show own_G _ _ _ _ _ _ _ (T70.setTop (mkF m 215 #[.val (.int p0), .val (.int p1), .val (.int p2), .val (.long q3), .second, .val (.long q4), .second, .val (.int pp), .val (.int jj), .val (.int wf), .val (.ref b1), .val (.ref b28), .val (.int st), .unset, .unset, .unset, .unset, .unset, .unset, .unset, .unset, .unset] []))
  have hst : st.toInt = Sn := by rw [← hnst, own_sv, own_of ar.2.1, hS]
  refine own_by (fun _ k => XS.aload X70.here hx rfl (hb hby at_215) rfl rfl k) ?_
  show own_G _ _ _ _ _ _ _ (T70.setTop (mkF m 217 #[.val (.int p0), .val (.int p1), .val (.int p2), .val (.long q3), .second, .val (.long q4), .second, .val (.int pp), .val (.int jj), .val (.int wf), .val (.ref b1), .val (.ref b28), .val (.int st), .unset, .unset, .unset, .unset, .unset, .unset, .unset, .unset, .unset] [(.ref b28)]))
  refine own_by (fun _ k => XS.iload X70.here hx rfl (hb hby at_217) rfl  k) ?_
  show own_G _ _ _ _ _ _ _ (T70.setTop (mkF m 219 #[.val (.int p0), .val (.int p1), .val (.int p2), .val (.long q3), .second, .val (.long q4), .second, .val (.int pp), .val (.int jj), .val (.int wf), .val (.ref b1), .val (.ref b28), .val (.int st), .unset, .unset, .unset, .unset, .unset, .unset, .unset, .unset, .unset] [(.int pp), (.ref b28)]))
  refine own_by (fun _ k => XS.iconst X70.here hx rfl (hb hby at_219) k) ?_
  show own_G _ _ _ _ _ _ _ (T70.setTop (mkF m 220 #[.val (.int p0), .val (.int p1), .val (.int p2), .val (.long q3), .second, .val (.long q4), .second, .val (.int pp), .val (.int jj), .val (.int wf), .val (.ref b1), .val (.ref b28), .val (.int st), .unset, .unset, .unset, .unset, .unset, .unset, .unset, .unset, .unset] [(.int (1 : Int32)), (.int pp), (.ref b28)]))
  refine own_by (fun _ k => XS.iadd X70.here hx rfl (hb hby at_220) rfl k) ?_
  show own_G _ _ _ _ _ _ _ (T70.setTop (mkF m 221 #[.val (.int p0), .val (.int p1), .val (.int p2), .val (.long q3), .second, .val (.long q4), .second, .val (.int pp), .val (.int jj), .val (.int wf), .val (.ref b1), .val (.ref b28), .val (.int st), .unset, .unset, .unset, .unset, .unset, .unset, .unset, .unset, .unset] [(.int (pp + (1 : Int32))), (.ref b28)]))
  refine own_by (own_ldI X70 hx hZ e70 VS (k := (P + 1)) (own_add hpp (show (1 : Int32).toInt = (1 : Nat) by decide) ar.2.2.2.2.2.2.1) ar.2.2.2.2.2.2.2.2.1 (g := (mkF m 221 #[.val (.int p0), .val (.int p1), .val (.int p2), .val (.long q3), .second, .val (.long q4), .second, .val (.int pp), .val (.int jj), .val (.int wf), .val (.ref b1), .val (.ref b28), .val (.int st), .unset, .unset, .unset, .unset, .unset, .unset, .unset, .unset, .unset] [(.int (pp + (1 : Int32))), (.ref b28)])) rfl rfl (hb hby at_221)) ?_
  show own_G _ _ _ _ _ _ _ (T70.setTop (mkF m 222 #[.val (.int p0), .val (.int p1), .val (.int p2), .val (.long q3), .second, .val (.long q4), .second, .val (.int pp), .val (.int jj), .val (.int wf), .val (.ref b1), .val (.ref b28), .val (.int st), .unset, .unset, .unset, .unset, .unset, .unset, .unset, .unset, .unset] [(.int (own_sv (P + 1)))]))
  refine own_by (fun _ k => XS.iload X70.here hx rfl (hb hby at_222) rfl  k) ?_
  show own_G _ _ _ _ _ _ _ (T70.setTop (mkF m 224 #[.val (.int p0), .val (.int p1), .val (.int p2), .val (.long q3), .second, .val (.long q4), .second, .val (.int pp), .val (.int jj), .val (.int wf), .val (.ref b1), .val (.ref b28), .val (.int st), .unset, .unset, .unset, .unset, .unset, .unset, .unset, .unset, .unset] [(.int st), (.int (own_sv (P + 1)))]))
  refine own_by (fun _ k => XS.isub X70.here hx rfl (hb hby at_224) rfl k) ?_
  show own_G _ _ _ _ _ _ _ (T70.setTop (mkF m 225 #[.val (.int p0), .val (.int p1), .val (.int p2), .val (.long q3), .second, .val (.long q4), .second, .val (.int pp), .val (.int jj), .val (.int wf), .val (.ref b1), .val (.ref b28), .val (.int st), .unset, .unset, .unset, .unset, .unset, .unset, .unset, .unset, .unset] [(.int ((own_sv (P + 1)) - st))]))
  refine own_by (fun _ k => XS.istore X70.here hx rfl (hb hby at_225) rfl (l' := #[.val (.int p0), .val (.int p1), .val (.int p2), .val (.long q3), .second, .val (.long q4), .second, .val (.int pp), .val (.int jj), .val (.int wf), .val (.ref b1), .val (.ref b28), .val (.int st), .val (.int ((own_sv (P + 1)) - st)), .unset, .unset, .unset, .unset, .unset, .unset, .unset, .unset]) rfl k) ?_
  show own_G _ _ _ _ _ _ _ (T70.setTop (mkF m 227 #[.val (.int p0), .val (.int p1), .val (.int p2), .val (.long q3), .second, .val (.long q4), .second, .val (.int pp), .val (.int jj), .val (.int wf), .val (.ref b1), .val (.ref b28), .val (.int st), .val (.int ((own_sv (P + 1)) - st)), .unset, .unset, .unset, .unset, .unset, .unset, .unset, .unset] []))
  generalize hnle : ((own_sv (P + 1)) - st) = le
  show own_G _ _ _ _ _ _ _ (T70.setTop (mkF m 227 #[.val (.int p0), .val (.int p1), .val (.int p2), .val (.long q3), .second, .val (.long q4), .second, .val (.int pp), .val (.int jj), .val (.int wf), .val (.ref b1), .val (.ref b28), .val (.int st), .val (.int le), .unset, .unset, .unset, .unset, .unset, .unset, .unset, .unset] []))
  have hle : le.toInt = Ln := by rw [← hnle, own_sub (show (own_sv (P + 1)).toInt = ((384 * (P + 1) / 13 : Nat) : Int) from own_of ar.2.2.1) hst ar.2.2.2.1, hL, hS]
  refine own_by (fun _ k => XS.aload X70.here hx rfl (hb hby at_227) rfl rfl k) ?_
  show own_G _ _ _ _ _ _ _ (T70.setTop (mkF m 229 #[.val (.int p0), .val (.int p1), .val (.int p2), .val (.long q3), .second, .val (.long q4), .second, .val (.int pp), .val (.int jj), .val (.int wf), .val (.ref b1), .val (.ref b28), .val (.int st), .val (.int le), .unset, .unset, .unset, .unset, .unset, .unset, .unset, .unset] [(.ref b1)]))
  refine own_by (fun _ k => XS.iload X70.here hx rfl (hb hby at_229) rfl  k) ?_
  show own_G _ _ _ _ _ _ _ (T70.setTop (mkF m 231 #[.val (.int p0), .val (.int p1), .val (.int p2), .val (.long q3), .second, .val (.long q4), .second, .val (.int pp), .val (.int jj), .val (.int wf), .val (.ref b1), .val (.ref b28), .val (.int st), .val (.int le), .unset, .unset, .unset, .unset, .unset, .unset, .unset, .unset] [(.int wf), (.ref b1)]))
  refine own_by (fun _ k => XS.iload X70.here hx rfl (hb hby at_231) rfl  k) ?_
  show own_G _ _ _ _ _ _ _ (T70.setTop (mkF m 233 #[.val (.int p0), .val (.int p1), .val (.int p2), .val (.long q3), .second, .val (.long q4), .second, .val (.int pp), .val (.int jj), .val (.int wf), .val (.ref b1), .val (.ref b28), .val (.int st), .val (.int le), .unset, .unset, .unset, .unset, .unset, .unset, .unset, .unset] [(.int pp), (.int wf), (.ref b1)]))
  obtain ⟨_, _, ⟨T73, L73, k73, n73⟩, -, X73, ⟨Lc73, hQ73, l73, y73, z73⟩, st73⟩ := Jvm.LawKit.callS X70 hx (y := (⟨"com/example/vote64/vote64/sketch/ProjectionFingerprint", "piece", "([JII)J"⟩ : MethodName)) hown (mvT hZ (hw _ (List.mem_of_getElem? (i := 9) rfl))) (mvT hZ (hw _ (List.mem_of_getElem? (i := 10) rfl))) (mvT hZ (hw _ (List.mem_of_getElem? (i := 11) rfl))) (mvT hZ (hw _ (List.mem_of_getElem? (i := 12) rfl))) (by decide) (backOf (W := 0) (rm1 l Z aw hw [] b1 wf pp F W P Sn Ln h70 n0 Z72 VF hwf hpp hW hP hS hL) hZ (hw _ (List.mem_of_getElem? (i := 12) rfl)) (hw _ (List.mem_of_getElem? (i := 11) rfl)) (by decide) (by decide)) (g := (mkF m 233 #[.val (.int p0), .val (.int p1), .val (.int p2), .val (.long q3), .second, .val (.long q4), .second, .val (.int pp), .val (.int jj), .val (.int wf), .val (.ref b1), .val (.ref b28), .val (.int st), .val (.int le), .unset, .unset, .unset, .unset, .unset, .unset, .unset, .unset] [(.int pp), (.int wf), (.ref b1)])) rfl (by rw [hml]; rfl) (argsL := [(.ref b1), (.int wf), (.int pp)]) (rest := []) (lenOf own_pd0 rfl) rfl (by show 2 * 0 + _ ≤ _; exact Nat.le_of_eq rfl) (hb hby at_233) (fun _ _ => ⟨rfl, e70, (by decide : 2 + 0 ≤ _), (by decide : 22 + 0 ≤ _)⟩)
  dsimp only [Pt.U, Pt.locs, Pt.cells, Pt.slots] at X73 l73 y73 z73 st73 hQ73
  rw [l73, y73, z73] at X73
  obtain ⟨rfl, Nq73, e73⟩ := hQ73
  have N73 := Fr.app N70 Nq73
  refine own_by (fun _ k => st73 _ k) ?_
  show own_G _ _ _ _ _ _ _ (T73.setTop (mkF m 236 #[.val (.int p0), .val (.int p1), .val (.int p2), .val (.long q3), .second, .val (.long q4), .second, .val (.int pp), .val (.int jj), .val (.int wf), .val (.ref b1), .val (.ref b28), .val (.int st), .val (.int le), .unset, .unset, .unset, .unset, .unset, .unset, .unset, .unset] [(.long (own_piece F W Sn Ln))]))
  refine own_by (fun _ k => XT.lstore X73.here hx rfl (hb hby at_236) rfl (l' := #[.val (.int p0), .val (.int p1), .val (.int p2), .val (.long q3), .second, .val (.long q4), .second, .val (.int pp), .val (.int jj), .val (.int wf), .val (.ref b1), .val (.ref b28), .val (.int st), .val (.int le), .val (.long (own_piece F W Sn Ln)), .second, .unset, .unset, .unset, .unset, .unset, .unset]) rfl k) ?_
  show own_G _ _ _ _ _ _ _ (T73.setTop (mkF m 238 #[.val (.int p0), .val (.int p1), .val (.int p2), .val (.long q3), .second, .val (.long q4), .second, .val (.int pp), .val (.int jj), .val (.int wf), .val (.ref b1), .val (.ref b28), .val (.int st), .val (.int le), .val (.long (own_piece F W Sn Ln)), .second, .unset, .unset, .unset, .unset, .unset, .unset] []))
  refine own_by (fun _ k => XT.lload X73.here hx rfl (hb hby at_238) rfl  k) ?_
  show own_G _ _ _ _ _ _ _ (T73.setTop (mkF m 240 #[.val (.int p0), .val (.int p1), .val (.int p2), .val (.long q3), .second, .val (.long q4), .second, .val (.int pp), .val (.int jj), .val (.int wf), .val (.ref b1), .val (.ref b28), .val (.int st), .val (.int le), .val (.long (own_piece F W Sn Ln)), .second, .unset, .unset, .unset, .unset, .unset, .unset] [(.long (own_piece F W Sn Ln))]))
  refine own_by (fun _ k => XS.iload X73.here hx rfl (hb hby at_240) rfl  k) ?_
  show own_G _ _ _ _ _ _ _ (T73.setTop (mkF m 242 #[.val (.int p0), .val (.int p1), .val (.int p2), .val (.long q3), .second, .val (.long q4), .second, .val (.int pp), .val (.int jj), .val (.int wf), .val (.ref b1), .val (.ref b28), .val (.int st), .val (.int le), .val (.long (own_piece F W Sn Ln)), .second, .unset, .unset, .unset, .unset, .unset, .unset] [(.int le), (.long (own_piece F W Sn Ln))]))
  refine own_by (fun _ k => XT.lushr X73.here hx rfl (hb hby at_242) rfl k) ?_
  show own_G _ _ _ _ _ _ _ (T73.setTop (mkF m 243 #[.val (.int p0), .val (.int p1), .val (.int p2), .val (.long q3), .second, .val (.long q4), .second, .val (.int pp), .val (.int jj), .val (.int wf), .val (.ref b1), .val (.ref b28), .val (.int st), .val (.int le), .val (.long (own_piece F W Sn Ln)), .second, .unset, .unset, .unset, .unset, .unset, .unset] [(.long (XT.ushrL (own_piece F W Sn Ln) le))]))
  refine own_by (fun _ k => XT.lconst X73.here hx rfl (hb hby at_243) k) ?_
  show own_G _ _ _ _ _ _ _ (T73.setTop (mkF m 244 #[.val (.int p0), .val (.int p1), .val (.int p2), .val (.long q3), .second, .val (.long q4), .second, .val (.int pp), .val (.int jj), .val (.int wf), .val (.ref b1), .val (.ref b28), .val (.int st), .val (.int le), .val (.long (own_piece F W Sn Ln)), .second, .unset, .unset, .unset, .unset, .unset, .unset] [(.long (0 : Int64)), (.long (XT.ushrL (own_piece F W Sn Ln) le))]))
  refine own_by (fun _ k => XT.lcmp X73.here hx rfl (hb hby at_244) rfl k) ?_
  show own_G _ _ _ _ _ _ _ (T73.setTop (mkF m 245 #[.val (.int p0), .val (.int p1), .val (.int p2), .val (.long q3), .second, .val (.long q4), .second, .val (.int pp), .val (.int jj), .val (.int wf), .val (.ref b1), .val (.ref b28), .val (.int st), .val (.int le), .val (.long (own_piece F W Sn Ln)), .second, .unset, .unset, .unset, .unset, .unset, .unset] [(.int (XT.cmpL (XT.ushrL (own_piece F W Sn Ln) le) (0 : Int64)))]))
  have hc245 : (XT.ushrL (own_piece F W Sn Ln) le) = (0 : Int64) := (own_above F W Sn Ln ar.1 hle)
  refine own_by (fun _ k => XS.ifNo X73.here hx rfl (hb hby at_245) rfl (XT.ll_ne_f hc245) k) ?_
  show own_G _ _ _ _ _ _ _ (T73.setTop (mkF m 248 #[.val (.int p0), .val (.int p1), .val (.int p2), .val (.long q3), .second, .val (.long q4), .second, .val (.int pp), .val (.int jj), .val (.int wf), .val (.ref b1), .val (.ref b28), .val (.int st), .val (.int le), .val (.long (own_piece F W Sn Ln)), .second, .unset, .unset, .unset, .unset, .unset, .unset] []))
  refine own_by (fun _ k => XS.iconst X73.here hx rfl (hb hby at_248) k) ?_
  show own_G _ _ _ _ _ _ _ (T73.setTop (mkF m 249 #[.val (.int p0), .val (.int p1), .val (.int p2), .val (.long q3), .second, .val (.long q4), .second, .val (.int pp), .val (.int jj), .val (.int wf), .val (.ref b1), .val (.ref b28), .val (.int st), .val (.int le), .val (.long (own_piece F W Sn Ln)), .second, .unset, .unset, .unset, .unset, .unset, .unset] [(.int (1 : Int32))]))
  refine own_by (fun _ k => XS.goto X73.here hx rfl (pc0 := 249) (pc' := 253) rfl (hb hby at_249) (by decide) (by decide) k) ?_
  show own_G _ _ _ _ _ _ _ (T73.setTop (mkF m 253 #[.val (.int p0), .val (.int p1), .val (.int p2), .val (.long q3), .second, .val (.long q4), .second, .val (.int pp), .val (.int jj), .val (.int wf), .val (.ref b1), .val (.ref b28), .val (.int st), .val (.int le), .val (.long (own_piece F W Sn Ln)), .second, .unset, .unset, .unset, .unset, .unset, .unset] [(.int (1 : Int32))]))
  refine own_by (fun _ k => XS.istore X73.here hx rfl (hb hby at_253) rfl (l' := #[.val (.int p0), .val (.int p1), .val (.int p2), .val (.long q3), .second, .val (.long q4), .second, .val (.int pp), .val (.int jj), .val (.int wf), .val (.ref b1), .val (.ref b28), .val (.int st), .val (.int le), .val (.long (own_piece F W Sn Ln)), .second, .val (.int (1 : Int32)), .unset, .unset, .unset, .unset, .unset]) rfl k) ?_
  show own_G _ _ _ _ _ _ _ (T73.setTop (mkF m 255 #[.val (.int p0), .val (.int p1), .val (.int p2), .val (.long q3), .second, .val (.long q4), .second, .val (.int pp), .val (.int jj), .val (.int wf), .val (.ref b1), .val (.ref b28), .val (.int st), .val (.int le), .val (.long (own_piece F W Sn Ln)), .second, .val (.int (1 : Int32)), .unset, .unset, .unset, .unset, .unset] []))
  refine own_by (fun _ k => XT.lload X73.here hx rfl (hb hby at_255) rfl  k) ?_
  show own_G _ _ _ _ _ _ _ (T73.setTop (mkF m 257 #[.val (.int p0), .val (.int p1), .val (.int p2), .val (.long q3), .second, .val (.long q4), .second, .val (.int pp), .val (.int jj), .val (.int wf), .val (.ref b1), .val (.ref b28), .val (.int st), .val (.int le), .val (.long (own_piece F W Sn Ln)), .second, .val (.int (1 : Int32)), .unset, .unset, .unset, .unset, .unset] [(.long (own_piece F W Sn Ln))]))
  refine own_by (fun _ k => XS.iload X73.here hx rfl (hb hby at_257) rfl  k) ?_
  show own_G _ _ _ _ _ _ _ (T73.setTop (mkF m 259 #[.val (.int p0), .val (.int p1), .val (.int p2), .val (.long q3), .second, .val (.long q4), .second, .val (.int pp), .val (.int jj), .val (.int wf), .val (.ref b1), .val (.ref b28), .val (.int st), .val (.int le), .val (.long (own_piece F W Sn Ln)), .second, .val (.int (1 : Int32)), .unset, .unset, .unset, .unset, .unset] [(.int jj), (.long (own_piece F W Sn Ln))]))
  refine own_by (fun _ k => XT.lushr X73.here hx rfl (hb hby at_259) rfl k) ?_
  show own_G _ _ _ _ _ _ _ (T73.setTop (mkF m 260 #[.val (.int p0), .val (.int p1), .val (.int p2), .val (.long q3), .second, .val (.long q4), .second, .val (.int pp), .val (.int jj), .val (.int wf), .val (.ref b1), .val (.ref b28), .val (.int st), .val (.int le), .val (.long (own_piece F W Sn Ln)), .second, .val (.int (1 : Int32)), .unset, .unset, .unset, .unset, .unset] [(.long (XT.ushrL (own_piece F W Sn Ln) jj))]))
  refine own_by (fun _ k => XT.lconst X73.here hx rfl (hb hby at_260) k) ?_
  show own_G _ _ _ _ _ _ _ (T73.setTop (mkF m 261 #[.val (.int p0), .val (.int p1), .val (.int p2), .val (.long q3), .second, .val (.long q4), .second, .val (.int pp), .val (.int jj), .val (.int wf), .val (.ref b1), .val (.ref b28), .val (.int st), .val (.int le), .val (.long (own_piece F W Sn Ln)), .second, .val (.int (1 : Int32)), .unset, .unset, .unset, .unset, .unset] [(.long (1 : Int64)), (.long (XT.ushrL (own_piece F W Sn Ln) jj))]))
  refine own_by (fun _ k => XT.land X73.here hx rfl (hb hby at_261) rfl k) ?_
  show own_G _ _ _ _ _ _ _ (T73.setTop (mkF m 262 #[.val (.int p0), .val (.int p1), .val (.int p2), .val (.long q3), .second, .val (.long q4), .second, .val (.int pp), .val (.int jj), .val (.int wf), .val (.ref b1), .val (.ref b28), .val (.int st), .val (.int le), .val (.long (own_piece F W Sn Ln)), .second, .val (.int (1 : Int32)), .unset, .unset, .unset, .unset, .unset] [(.long ((XT.ushrL (own_piece F W Sn Ln) jj) &&& (1 : Int64)))]))
  refine own_by (fun _ k => XT.lstore X73.here hx rfl (hb hby at_262) rfl (l' := #[.val (.int p0), .val (.int p1), .val (.int p2), .val (.long q3), .second, .val (.long q4), .second, .val (.int pp), .val (.int jj), .val (.int wf), .val (.ref b1), .val (.ref b28), .val (.int st), .val (.int le), .val (.long (own_piece F W Sn Ln)), .second, .val (.int (1 : Int32)), .val (.long ((XT.ushrL (own_piece F W Sn Ln) jj) &&& (1 : Int64))), .second, .unset, .unset, .unset]) rfl k) ?_
  show own_G _ _ _ _ _ _ _ (T73.setTop (mkF m 264 #[.val (.int p0), .val (.int p1), .val (.int p2), .val (.long q3), .second, .val (.long q4), .second, .val (.int pp), .val (.int jj), .val (.int wf), .val (.ref b1), .val (.ref b28), .val (.int st), .val (.int le), .val (.long (own_piece F W Sn Ln)), .second, .val (.int (1 : Int32)), .val (.long ((XT.ushrL (own_piece F W Sn Ln) jj) &&& (1 : Int64))), .second, .unset, .unset, .unset] []))
  refine own_by (fun _ k => XS.iload X73.here hx rfl (hb hby at_264) rfl  k) ?_
  show own_G _ _ _ _ _ _ _ (T73.setTop (mkF m 266 #[.val (.int p0), .val (.int p1), .val (.int p2), .val (.long q3), .second, .val (.long q4), .second, .val (.int pp), .val (.int jj), .val (.int wf), .val (.ref b1), .val (.ref b28), .val (.int st), .val (.int le), .val (.long (own_piece F W Sn Ln)), .second, .val (.int (1 : Int32)), .val (.long ((XT.ushrL (own_piece F W Sn Ln) jj) &&& (1 : Int64))), .second, .unset, .unset, .unset] [(.int jj)]))
  refine own_by (fun _ k => XS.iload X73.here hx rfl (hb hby at_266) rfl  k) ?_
  show own_G _ _ _ _ _ _ _ (T73.setTop (mkF m 268 #[.val (.int p0), .val (.int p1), .val (.int p2), .val (.long q3), .second, .val (.long q4), .second, .val (.int pp), .val (.int jj), .val (.int wf), .val (.ref b1), .val (.ref b28), .val (.int st), .val (.int le), .val (.long (own_piece F W Sn Ln)), .second, .val (.int (1 : Int32)), .val (.long ((XT.ushrL (own_piece F W Sn Ln) jj) &&& (1 : Int64))), .second, .unset, .unset, .unset] [(.int le), (.int jj)]))
  by_cases hc268 : jj < le
  · refine own_by (fun _ k => XS.icmpYes X73.here hx rfl (pc0 := 268) (pc' := 289) rfl (hb hby at_268) rfl (XT.ii_lt_t hc268) (by decide) (by decide) k) ?_
    show own_G _ _ _ _ _ _ _ (T73.setTop (mkF m 289 #[.val (.int p0), .val (.int p1), .val (.int p2), .val (.long q3), .second, .val (.long q4), .second, .val (.int pp), .val (.int jj), .val (.int wf), .val (.ref b1), .val (.ref b28), .val (.int st), .val (.int le), .val (.long (own_piece F W Sn Ln)), .second, .val (.int (1 : Int32)), .val (.long ((XT.ushrL (own_piece F W Sn Ln) jj) &&& (1 : Int64))), .second, .unset, .unset, .unset] []))
    refine own_by (fun _ k => XS.iload X73.here hx rfl (hb hby at_289) rfl  k) ?_
    show own_G _ _ _ _ _ _ _ (T73.setTop (mkF m 291 #[.val (.int p0), .val (.int p1), .val (.int p2), .val (.long q3), .second, .val (.long q4), .second, .val (.int pp), .val (.int jj), .val (.int wf), .val (.ref b1), .val (.ref b28), .val (.int st), .val (.int le), .val (.long (own_piece F W Sn Ln)), .second, .val (.int (1 : Int32)), .val (.long ((XT.ushrL (own_piece F W Sn Ln) jj) &&& (1 : Int64))), .second, .unset, .unset, .unset] [(.int st)]))
    refine own_by (fun _ k => XS.iload X73.here hx rfl (hb hby at_291) rfl  k) ?_
    show own_G _ _ _ _ _ _ _ (T73.setTop (mkF m 293 #[.val (.int p0), .val (.int p1), .val (.int p2), .val (.long q3), .second, .val (.long q4), .second, .val (.int pp), .val (.int jj), .val (.int wf), .val (.ref b1), .val (.ref b28), .val (.int st), .val (.int le), .val (.long (own_piece F W Sn Ln)), .second, .val (.int (1 : Int32)), .val (.long ((XT.ushrL (own_piece F W Sn Ln) jj) &&& (1 : Int64))), .second, .unset, .unset, .unset] [(.int jj), (.int st)]))
    refine own_by (fun _ k => XS.iadd X73.here hx rfl (hb hby at_293) rfl k) ?_
    show own_G _ _ _ _ _ _ _ (T73.setTop (mkF m 294 #[.val (.int p0), .val (.int p1), .val (.int p2), .val (.long q3), .second, .val (.long q4), .second, .val (.int pp), .val (.int jj), .val (.int wf), .val (.ref b1), .val (.ref b28), .val (.int st), .val (.int le), .val (.long (own_piece F W Sn Ln)), .second, .val (.int (1 : Int32)), .val (.long ((XT.ushrL (own_piece F W Sn Ln) jj) &&& (1 : Int64))), .second, .unset, .unset, .unset] [(.int (st + jj))]))
    refine own_by (fun _ k => XS.istore X73.here hx rfl (hb hby at_294) rfl (l' := #[.val (.int p0), .val (.int p1), .val (.int p2), .val (.long q3), .second, .val (.long q4), .second, .val (.int pp), .val (.int jj), .val (.int wf), .val (.ref b1), .val (.ref b28), .val (.int st), .val (.int le), .val (.long (own_piece F W Sn Ln)), .second, .val (.int (1 : Int32)), .val (.long ((XT.ushrL (own_piece F W Sn Ln) jj) &&& (1 : Int64))), .second, .val (.int (st + jj)), .unset, .unset]) rfl k) ?_
    show own_G _ _ _ _ _ _ _ (T73.setTop (mkF m 296 #[.val (.int p0), .val (.int p1), .val (.int p2), .val (.long q3), .second, .val (.long q4), .second, .val (.int pp), .val (.int jj), .val (.int wf), .val (.ref b1), .val (.ref b28), .val (.int st), .val (.int le), .val (.long (own_piece F W Sn Ln)), .second, .val (.int (1 : Int32)), .val (.long ((XT.ushrL (own_piece F W Sn Ln) jj) &&& (1 : Int64))), .second, .val (.int (st + jj)), .unset, .unset] []))
    generalize hngg : (st + jj) = gg
    show own_G _ _ _ _ _ _ _ (T73.setTop (mkF m 296 #[.val (.int p0), .val (.int p1), .val (.int p2), .val (.long q3), .second, .val (.long q4), .second, .val (.int pp), .val (.int jj), .val (.int wf), .val (.ref b1), .val (.ref b28), .val (.int st), .val (.int le), .val (.long (own_piece F W Sn Ln)), .second, .val (.int (1 : Int32)), .val (.long ((XT.ushrL (own_piece F W Sn Ln) jj) &&& (1 : Int64))), .second, .val (.int gg), .unset, .unset] []))
    have hgg : gg.toInt = ((Sn + J : Nat) : Int) := by rw [← hngg, own_add hst hjj ar.2.2.2.2.1]
    refine own_by (fun _ k => XS.aload X73.here hx rfl (hb hby at_296) rfl rfl k) ?_
    show own_G _ _ _ _ _ _ _ (T73.setTop (mkF m 298 #[.val (.int p0), .val (.int p1), .val (.int p2), .val (.long q3), .second, .val (.long q4), .second, .val (.int pp), .val (.int jj), .val (.int wf), .val (.ref b1), .val (.ref b28), .val (.int st), .val (.int le), .val (.long (own_piece F W Sn Ln)), .second, .val (.int (1 : Int32)), .val (.long ((XT.ushrL (own_piece F W Sn Ln) jj) &&& (1 : Int64))), .second, .val (.int gg), .unset, .unset] [(.ref b1)]))
    refine own_by (fun _ k => XS.iload X73.here hx rfl (hb hby at_298) rfl  k) ?_
    show own_G _ _ _ _ _ _ _ (T73.setTop (mkF m 300 #[.val (.int p0), .val (.int p1), .val (.int p2), .val (.long q3), .second, .val (.long q4), .second, .val (.int pp), .val (.int jj), .val (.int wf), .val (.ref b1), .val (.ref b28), .val (.int st), .val (.int le), .val (.long (own_piece F W Sn Ln)), .second, .val (.int (1 : Int32)), .val (.long ((XT.ushrL (own_piece F W Sn Ln) jj) &&& (1 : Int64))), .second, .val (.int gg), .unset, .unset] [(.int wf), (.ref b1)]))
    refine own_by (fun _ k => XS.iload X73.here hx rfl (hb hby at_300) rfl  k) ?_
    show own_G _ _ _ _ _ _ _ (T73.setTop (mkF m 302 #[.val (.int p0), .val (.int p1), .val (.int p2), .val (.long q3), .second, .val (.long q4), .second, .val (.int pp), .val (.int jj), .val (.int wf), .val (.ref b1), .val (.ref b28), .val (.int st), .val (.int le), .val (.long (own_piece F W Sn Ln)), .second, .val (.int (1 : Int32)), .val (.long ((XT.ushrL (own_piece F W Sn Ln) jj) &&& (1 : Int64))), .second, .val (.int gg), .unset, .unset] [(.int gg), (.int wf), (.ref b1)]))
    refine own_by (fun _ k => XS.bipush X73.here hx rfl (hb hby at_302) k) ?_
    show own_G _ _ _ _ _ _ _ (T73.setTop (mkF m 304 #[.val (.int p0), .val (.int p1), .val (.int p2), .val (.long q3), .second, .val (.long q4), .second, .val (.int pp), .val (.int jj), .val (.int wf), .val (.ref b1), .val (.ref b28), .val (.int st), .val (.int le), .val (.long (own_piece F W Sn Ln)), .second, .val (.int (1 : Int32)), .val (.long ((XT.ushrL (own_piece F W Sn Ln) jj) &&& (1 : Int64))), .second, .val (.int gg), .unset, .unset] [(.int (6 : Int32)), (.int gg), (.int wf), (.ref b1)]))
    refine own_by (fun _ k => XT.ishr X73.here hx rfl (hb hby at_304) rfl k) ?_
    show own_G _ _ _ _ _ _ _ (T73.setTop (mkF m 305 #[.val (.int p0), .val (.int p1), .val (.int p2), .val (.long q3), .second, .val (.long q4), .second, .val (.int pp), .val (.int jj), .val (.int wf), .val (.ref b1), .val (.ref b28), .val (.int st), .val (.int le), .val (.long (own_piece F W Sn Ln)), .second, .val (.int (1 : Int32)), .val (.long ((XT.ushrL (own_piece F W Sn Ln) jj) &&& (1 : Int64))), .second, .val (.int gg), .unset, .unset] [(.int (gg >>> ((6 : Int32) &&& 31))), (.int wf), (.ref b1)]))
    refine own_by (fun _ k => XS.iadd X73.here hx rfl (hb hby at_305) rfl k) ?_
    show own_G _ _ _ _ _ _ _ (T73.setTop (mkF m 306 #[.val (.int p0), .val (.int p1), .val (.int p2), .val (.long q3), .second, .val (.long q4), .second, .val (.int pp), .val (.int jj), .val (.int wf), .val (.ref b1), .val (.ref b28), .val (.int st), .val (.int le), .val (.long (own_piece F W Sn Ln)), .second, .val (.int (1 : Int32)), .val (.long ((XT.ushrL (own_piece F W Sn Ln) jj) &&& (1 : Int64))), .second, .val (.int gg), .unset, .unset] [(.int (wf + (gg >>> ((6 : Int32) &&& 31)))), (.ref b1)]))
    refine own_by (own_ldJ X73 hx hZ e73 VF (k := (W + (Sn + J) / 64)) (own_add hwf (own_g6 hgg) ar.2.2.2.2.2.1) (ar.2.2.2.2.2.2.2.2.2 ((own_lt hjj hle).mp hc268)) (g := (mkF m 306 #[.val (.int p0), .val (.int p1), .val (.int p2), .val (.long q3), .second, .val (.long q4), .second, .val (.int pp), .val (.int jj), .val (.int wf), .val (.ref b1), .val (.ref b28), .val (.int st), .val (.int le), .val (.long (own_piece F W Sn Ln)), .second, .val (.int (1 : Int32)), .val (.long ((XT.ushrL (own_piece F W Sn Ln) jj) &&& (1 : Int64))), .second, .val (.int gg), .unset, .unset] [(.int (wf + (gg >>> ((6 : Int32) &&& 31)))), (.ref b1)])) rfl rfl (hb hby at_306)) ?_
    show own_G _ _ _ _ _ _ _ (T73.setTop (mkF m 307 #[.val (.int p0), .val (.int p1), .val (.int p2), .val (.long q3), .second, .val (.long q4), .second, .val (.int pp), .val (.int jj), .val (.int wf), .val (.ref b1), .val (.ref b28), .val (.int st), .val (.int le), .val (.long (own_piece F W Sn Ln)), .second, .val (.int (1 : Int32)), .val (.long ((XT.ushrL (own_piece F W Sn Ln) jj) &&& (1 : Int64))), .second, .val (.int gg), .unset, .unset] [(.long (F (W + (Sn + J) / 64)))]))
    refine own_by (fun _ k => XS.iload X73.here hx rfl (hb hby at_307) rfl  k) ?_
    show own_G _ _ _ _ _ _ _ (T73.setTop (mkF m 309 #[.val (.int p0), .val (.int p1), .val (.int p2), .val (.long q3), .second, .val (.long q4), .second, .val (.int pp), .val (.int jj), .val (.int wf), .val (.ref b1), .val (.ref b28), .val (.int st), .val (.int le), .val (.long (own_piece F W Sn Ln)), .second, .val (.int (1 : Int32)), .val (.long ((XT.ushrL (own_piece F W Sn Ln) jj) &&& (1 : Int64))), .second, .val (.int gg), .unset, .unset] [(.int gg), (.long (F (W + (Sn + J) / 64)))]))
    refine own_by (fun _ k => XS.bipush X73.here hx rfl (hb hby at_309) k) ?_
    show own_G _ _ _ _ _ _ _ (T73.setTop (mkF m 311 #[.val (.int p0), .val (.int p1), .val (.int p2), .val (.long q3), .second, .val (.long q4), .second, .val (.int pp), .val (.int jj), .val (.int wf), .val (.ref b1), .val (.ref b28), .val (.int st), .val (.int le), .val (.long (own_piece F W Sn Ln)), .second, .val (.int (1 : Int32)), .val (.long ((XT.ushrL (own_piece F W Sn Ln) jj) &&& (1 : Int64))), .second, .val (.int gg), .unset, .unset] [(.int (63 : Int32)), (.int gg), (.long (F (W + (Sn + J) / 64)))]))
    refine own_by (fun _ k => XS.iand X73.here hx rfl (hb hby at_311) rfl k) ?_
    show own_G _ _ _ _ _ _ _ (T73.setTop (mkF m 312 #[.val (.int p0), .val (.int p1), .val (.int p2), .val (.long q3), .second, .val (.long q4), .second, .val (.int pp), .val (.int jj), .val (.int wf), .val (.ref b1), .val (.ref b28), .val (.int st), .val (.int le), .val (.long (own_piece F W Sn Ln)), .second, .val (.int (1 : Int32)), .val (.long ((XT.ushrL (own_piece F W Sn Ln) jj) &&& (1 : Int64))), .second, .val (.int gg), .unset, .unset] [(.int (gg &&& (63 : Int32))), (.long (F (W + (Sn + J) / 64)))]))
    refine own_by (fun _ k => XT.lushr X73.here hx rfl (hb hby at_312) rfl k) ?_
    show own_G _ _ _ _ _ _ _ (T73.setTop (mkF m 313 #[.val (.int p0), .val (.int p1), .val (.int p2), .val (.long q3), .second, .val (.long q4), .second, .val (.int pp), .val (.int jj), .val (.int wf), .val (.ref b1), .val (.ref b28), .val (.int st), .val (.int le), .val (.long (own_piece F W Sn Ln)), .second, .val (.int (1 : Int32)), .val (.long ((XT.ushrL (own_piece F W Sn Ln) jj) &&& (1 : Int64))), .second, .val (.int gg), .unset, .unset] [(.long (XT.ushrL (F (W + (Sn + J) / 64)) (gg &&& (63 : Int32))))]))
    refine own_by (fun _ k => XT.lconst X73.here hx rfl (hb hby at_313) k) ?_
    show own_G _ _ _ _ _ _ _ (T73.setTop (mkF m 314 #[.val (.int p0), .val (.int p1), .val (.int p2), .val (.long q3), .second, .val (.long q4), .second, .val (.int pp), .val (.int jj), .val (.int wf), .val (.ref b1), .val (.ref b28), .val (.int st), .val (.int le), .val (.long (own_piece F W Sn Ln)), .second, .val (.int (1 : Int32)), .val (.long ((XT.ushrL (own_piece F W Sn Ln) jj) &&& (1 : Int64))), .second, .val (.int gg), .unset, .unset] [(.long (1 : Int64)), (.long (XT.ushrL (F (W + (Sn + J) / 64)) (gg &&& (63 : Int32))))]))
    refine own_by (fun _ k => XT.land X73.here hx rfl (hb hby at_314) rfl k) ?_
    show own_G _ _ _ _ _ _ _ (T73.setTop (mkF m 315 #[.val (.int p0), .val (.int p1), .val (.int p2), .val (.long q3), .second, .val (.long q4), .second, .val (.int pp), .val (.int jj), .val (.int wf), .val (.ref b1), .val (.ref b28), .val (.int st), .val (.int le), .val (.long (own_piece F W Sn Ln)), .second, .val (.int (1 : Int32)), .val (.long ((XT.ushrL (own_piece F W Sn Ln) jj) &&& (1 : Int64))), .second, .val (.int gg), .unset, .unset] [(.long ((XT.ushrL (F (W + (Sn + J) / 64)) (gg &&& (63 : Int32))) &&& (1 : Int64)))]))
    refine own_by (fun _ k => XT.lstore X73.here hx rfl (hb hby at_315) rfl (l' := #[.val (.int p0), .val (.int p1), .val (.int p2), .val (.long q3), .second, .val (.long q4), .second, .val (.int pp), .val (.int jj), .val (.int wf), .val (.ref b1), .val (.ref b28), .val (.int st), .val (.int le), .val (.long (own_piece F W Sn Ln)), .second, .val (.int (1 : Int32)), .val (.long ((XT.ushrL (own_piece F W Sn Ln) jj) &&& (1 : Int64))), .second, .val (.int gg), .val (.long ((XT.ushrL (F (W + (Sn + J) / 64)) (gg &&& (63 : Int32))) &&& (1 : Int64))), .second]) rfl k) ?_
    show own_G _ _ _ _ _ _ _ (T73.setTop (mkF m 317 #[.val (.int p0), .val (.int p1), .val (.int p2), .val (.long q3), .second, .val (.long q4), .second, .val (.int pp), .val (.int jj), .val (.int wf), .val (.ref b1), .val (.ref b28), .val (.int st), .val (.int le), .val (.long (own_piece F W Sn Ln)), .second, .val (.int (1 : Int32)), .val (.long ((XT.ushrL (own_piece F W Sn Ln) jj) &&& (1 : Int64))), .second, .val (.int gg), .val (.long ((XT.ushrL (F (W + (Sn + J) / 64)) (gg &&& (63 : Int32))) &&& (1 : Int64))), .second] []))
    refine own_by (fun _ k => XS.iload X73.here hx rfl (hb hby at_317) rfl  k) ?_
    show own_G _ _ _ _ _ _ _ (T73.setTop (mkF m 319 #[.val (.int p0), .val (.int p1), .val (.int p2), .val (.long q3), .second, .val (.long q4), .second, .val (.int pp), .val (.int jj), .val (.int wf), .val (.ref b1), .val (.ref b28), .val (.int st), .val (.int le), .val (.long (own_piece F W Sn Ln)), .second, .val (.int (1 : Int32)), .val (.long ((XT.ushrL (own_piece F W Sn Ln) jj) &&& (1 : Int64))), .second, .val (.int gg), .val (.long ((XT.ushrL (F (W + (Sn + J) / 64)) (gg &&& (63 : Int32))) &&& (1 : Int64))), .second] [(.int (1 : Int32))]))
    have hc319 : ¬ ((1 : Int32) = (0 : Int32)) := (by decide)
    refine own_by (fun _ k => XS.ifNo X73.here hx rfl (hb hby at_319) rfl (XT.i0_eq_f hc319) k) ?_
    show own_G _ _ _ _ _ _ _ (T73.setTop (mkF m 322 #[.val (.int p0), .val (.int p1), .val (.int p2), .val (.long q3), .second, .val (.long q4), .second, .val (.int pp), .val (.int jj), .val (.int wf), .val (.ref b1), .val (.ref b28), .val (.int st), .val (.int le), .val (.long (own_piece F W Sn Ln)), .second, .val (.int (1 : Int32)), .val (.long ((XT.ushrL (own_piece F W Sn Ln) jj) &&& (1 : Int64))), .second, .val (.int gg), .val (.long ((XT.ushrL (F (W + (Sn + J) / 64)) (gg &&& (63 : Int32))) &&& (1 : Int64))), .second] []))
    refine own_by (fun _ k => XT.lload X73.here hx rfl (hb hby at_322) rfl  k) ?_
    show own_G _ _ _ _ _ _ _ (T73.setTop (mkF m 324 #[.val (.int p0), .val (.int p1), .val (.int p2), .val (.long q3), .second, .val (.long q4), .second, .val (.int pp), .val (.int jj), .val (.int wf), .val (.ref b1), .val (.ref b28), .val (.int st), .val (.int le), .val (.long (own_piece F W Sn Ln)), .second, .val (.int (1 : Int32)), .val (.long ((XT.ushrL (own_piece F W Sn Ln) jj) &&& (1 : Int64))), .second, .val (.int gg), .val (.long ((XT.ushrL (F (W + (Sn + J) / 64)) (gg &&& (63 : Int32))) &&& (1 : Int64))), .second] [(.long ((XT.ushrL (own_piece F W Sn Ln) jj) &&& (1 : Int64)))]))
    refine own_by (fun _ k => XT.lload X73.here hx rfl (hb hby at_324) rfl  k) ?_
    show own_G _ _ _ _ _ _ _ (T73.setTop (mkF m 326 #[.val (.int p0), .val (.int p1), .val (.int p2), .val (.long q3), .second, .val (.long q4), .second, .val (.int pp), .val (.int jj), .val (.int wf), .val (.ref b1), .val (.ref b28), .val (.int st), .val (.int le), .val (.long (own_piece F W Sn Ln)), .second, .val (.int (1 : Int32)), .val (.long ((XT.ushrL (own_piece F W Sn Ln) jj) &&& (1 : Int64))), .second, .val (.int gg), .val (.long ((XT.ushrL (F (W + (Sn + J) / 64)) (gg &&& (63 : Int32))) &&& (1 : Int64))), .second] [(.long ((XT.ushrL (F (W + (Sn + J) / 64)) (gg &&& (63 : Int32))) &&& (1 : Int64))), (.long ((XT.ushrL (own_piece F W Sn Ln) jj) &&& (1 : Int64)))]))
    refine own_by (fun _ k => XT.lcmp X73.here hx rfl (hb hby at_326) rfl k) ?_
    show own_G _ _ _ _ _ _ _ (T73.setTop (mkF m 327 #[.val (.int p0), .val (.int p1), .val (.int p2), .val (.long q3), .second, .val (.long q4), .second, .val (.int pp), .val (.int jj), .val (.int wf), .val (.ref b1), .val (.ref b28), .val (.int st), .val (.int le), .val (.long (own_piece F W Sn Ln)), .second, .val (.int (1 : Int32)), .val (.long ((XT.ushrL (own_piece F W Sn Ln) jj) &&& (1 : Int64))), .second, .val (.int gg), .val (.long ((XT.ushrL (F (W + (Sn + J) / 64)) (gg &&& (63 : Int32))) &&& (1 : Int64))), .second] [(.int (XT.cmpL ((XT.ushrL (own_piece F W Sn Ln) jj) &&& (1 : Int64)) ((XT.ushrL (F (W + (Sn + J) / 64)) (gg &&& (63 : Int32))) &&& (1 : Int64))))]))
    have hc327 : ((XT.ushrL (own_piece F W Sn Ln) jj) &&& (1 : Int64)) = ((XT.ushrL (F (W + (Sn + J) / 64)) (gg &&& (63 : Int32))) &&& (1 : Int64)) := (own_bit1 F W Sn Ln J ar.1 hjj hJ ((own_lt hjj hle).mp hc268) hgg)
    refine own_by (fun _ k => XS.ifNo X73.here hx rfl (hb hby at_327) rfl (XT.ll_ne_f hc327) k) ?_
    show own_G _ _ _ _ _ _ _ (T73.setTop (mkF m 330 #[.val (.int p0), .val (.int p1), .val (.int p2), .val (.long q3), .second, .val (.long q4), .second, .val (.int pp), .val (.int jj), .val (.int wf), .val (.ref b1), .val (.ref b28), .val (.int st), .val (.int le), .val (.long (own_piece F W Sn Ln)), .second, .val (.int (1 : Int32)), .val (.long ((XT.ushrL (own_piece F W Sn Ln) jj) &&& (1 : Int64))), .second, .val (.int gg), .val (.long ((XT.ushrL (F (W + (Sn + J) / 64)) (gg &&& (63 : Int32))) &&& (1 : Int64))), .second] []))
    refine own_by (fun _ k => XS.iconst X73.here hx rfl (hb hby at_330) k) ?_
    show own_G _ _ _ _ _ _ _ (T73.setTop (mkF m 331 #[.val (.int p0), .val (.int p1), .val (.int p2), .val (.long q3), .second, .val (.long q4), .second, .val (.int pp), .val (.int jj), .val (.int wf), .val (.ref b1), .val (.ref b28), .val (.int st), .val (.int le), .val (.long (own_piece F W Sn Ln)), .second, .val (.int (1 : Int32)), .val (.long ((XT.ushrL (own_piece F W Sn Ln) jj) &&& (1 : Int64))), .second, .val (.int gg), .val (.long ((XT.ushrL (F (W + (Sn + J) / 64)) (gg &&& (63 : Int32))) &&& (1 : Int64))), .second] [(.int (1 : Int32))]))
    refine own_by (fun _ k => XS.goto X73.here hx rfl (pc0 := 331) (pc' := 335) rfl (hb hby at_331) (by decide) (by decide) k) ?_
    show own_G _ _ _ _ _ _ _ (T73.setTop (mkF m 335 #[.val (.int p0), .val (.int p1), .val (.int p2), .val (.long q3), .second, .val (.long q4), .second, .val (.int pp), .val (.int jj), .val (.int wf), .val (.ref b1), .val (.ref b28), .val (.int st), .val (.int le), .val (.long (own_piece F W Sn Ln)), .second, .val (.int (1 : Int32)), .val (.long ((XT.ushrL (own_piece F W Sn Ln) jj) &&& (1 : Int64))), .second, .val (.int gg), .val (.long ((XT.ushrL (F (W + (Sn + J) / 64)) (gg &&& (63 : Int32))) &&& (1 : Int64))), .second] [(.int (1 : Int32))]))
    exact own_end X73 (v := some (.int (nar .boolean (1 : Int32)))) (fun h => by rw [Bd.returns] at h; cases h) (BodyLoose.notSynchronized Bd) (fun fs hr => retN X73 hx (t := .boolean) Bd.returns (by simp) (hb hby at_335) hr) (by rw [e73]; exact ⟨rfl, N73⟩) (by decide) (by decide)
  · refine own_by (fun _ k => XS.icmpNo X73.here hx rfl (hb hby at_268) rfl (XT.ii_lt_f hc268) k) ?_
    show own_G _ _ _ _ _ _ _ (T73.setTop (mkF m 271 #[.val (.int p0), .val (.int p1), .val (.int p2), .val (.long q3), .second, .val (.long q4), .second, .val (.int pp), .val (.int jj), .val (.int wf), .val (.ref b1), .val (.ref b28), .val (.int st), .val (.int le), .val (.long (own_piece F W Sn Ln)), .second, .val (.int (1 : Int32)), .val (.long ((XT.ushrL (own_piece F W Sn Ln) jj) &&& (1 : Int64))), .second, .unset, .unset, .unset] []))
    refine own_by (fun _ k => XS.iload X73.here hx rfl (hb hby at_271) rfl  k) ?_
    show own_G _ _ _ _ _ _ _ (T73.setTop (mkF m 273 #[.val (.int p0), .val (.int p1), .val (.int p2), .val (.long q3), .second, .val (.long q4), .second, .val (.int pp), .val (.int jj), .val (.int wf), .val (.ref b1), .val (.ref b28), .val (.int st), .val (.int le), .val (.long (own_piece F W Sn Ln)), .second, .val (.int (1 : Int32)), .val (.long ((XT.ushrL (own_piece F W Sn Ln) jj) &&& (1 : Int64))), .second, .unset, .unset, .unset] [(.int (1 : Int32))]))
    have hc273 : ¬ ((1 : Int32) = (0 : Int32)) := (by decide)
    refine own_by (fun _ k => XS.ifNo X73.here hx rfl (hb hby at_273) rfl (XT.i0_eq_f hc273) k) ?_
    show own_G _ _ _ _ _ _ _ (T73.setTop (mkF m 276 #[.val (.int p0), .val (.int p1), .val (.int p2), .val (.long q3), .second, .val (.long q4), .second, .val (.int pp), .val (.int jj), .val (.int wf), .val (.ref b1), .val (.ref b28), .val (.int st), .val (.int le), .val (.long (own_piece F W Sn Ln)), .second, .val (.int (1 : Int32)), .val (.long ((XT.ushrL (own_piece F W Sn Ln) jj) &&& (1 : Int64))), .second, .unset, .unset, .unset] []))
    refine own_by (fun _ k => XT.lload X73.here hx rfl (hb hby at_276) rfl  k) ?_
    show own_G _ _ _ _ _ _ _ (T73.setTop (mkF m 278 #[.val (.int p0), .val (.int p1), .val (.int p2), .val (.long q3), .second, .val (.long q4), .second, .val (.int pp), .val (.int jj), .val (.int wf), .val (.ref b1), .val (.ref b28), .val (.int st), .val (.int le), .val (.long (own_piece F W Sn Ln)), .second, .val (.int (1 : Int32)), .val (.long ((XT.ushrL (own_piece F W Sn Ln) jj) &&& (1 : Int64))), .second, .unset, .unset, .unset] [(.long ((XT.ushrL (own_piece F W Sn Ln) jj) &&& (1 : Int64)))]))
    refine own_by (fun _ k => XT.lconst X73.here hx rfl (hb hby at_278) k) ?_
    show own_G _ _ _ _ _ _ _ (T73.setTop (mkF m 279 #[.val (.int p0), .val (.int p1), .val (.int p2), .val (.long q3), .second, .val (.long q4), .second, .val (.int pp), .val (.int jj), .val (.int wf), .val (.ref b1), .val (.ref b28), .val (.int st), .val (.int le), .val (.long (own_piece F W Sn Ln)), .second, .val (.int (1 : Int32)), .val (.long ((XT.ushrL (own_piece F W Sn Ln) jj) &&& (1 : Int64))), .second, .unset, .unset, .unset] [(.long (0 : Int64)), (.long ((XT.ushrL (own_piece F W Sn Ln) jj) &&& (1 : Int64)))]))
    refine own_by (fun _ k => XT.lcmp X73.here hx rfl (hb hby at_279) rfl k) ?_
    show own_G _ _ _ _ _ _ _ (T73.setTop (mkF m 280 #[.val (.int p0), .val (.int p1), .val (.int p2), .val (.long q3), .second, .val (.long q4), .second, .val (.int pp), .val (.int jj), .val (.int wf), .val (.ref b1), .val (.ref b28), .val (.int st), .val (.int le), .val (.long (own_piece F W Sn Ln)), .second, .val (.int (1 : Int32)), .val (.long ((XT.ushrL (own_piece F W Sn Ln) jj) &&& (1 : Int64))), .second, .unset, .unset, .unset] [(.int (XT.cmpL ((XT.ushrL (own_piece F W Sn Ln) jj) &&& (1 : Int64)) (0 : Int64)))]))
    have hc280 : ((XT.ushrL (own_piece F W Sn Ln) jj) &&& (1 : Int64)) = (0 : Int64) := (own_bit0 F W Sn Ln J ar.1 hjj hJ (fun z => hc268 ((own_lt hjj hle).mpr z)))
    refine own_by (fun _ k => XS.ifNo X73.here hx rfl (hb hby at_280) rfl (XT.ll_ne_f hc280) k) ?_
    show own_G _ _ _ _ _ _ _ (T73.setTop (mkF m 283 #[.val (.int p0), .val (.int p1), .val (.int p2), .val (.long q3), .second, .val (.long q4), .second, .val (.int pp), .val (.int jj), .val (.int wf), .val (.ref b1), .val (.ref b28), .val (.int st), .val (.int le), .val (.long (own_piece F W Sn Ln)), .second, .val (.int (1 : Int32)), .val (.long ((XT.ushrL (own_piece F W Sn Ln) jj) &&& (1 : Int64))), .second, .unset, .unset, .unset] []))
    refine own_by (fun _ k => XS.iconst X73.here hx rfl (hb hby at_283) k) ?_
    show own_G _ _ _ _ _ _ _ (T73.setTop (mkF m 284 #[.val (.int p0), .val (.int p1), .val (.int p2), .val (.long q3), .second, .val (.long q4), .second, .val (.int pp), .val (.int jj), .val (.int wf), .val (.ref b1), .val (.ref b28), .val (.int st), .val (.int le), .val (.long (own_piece F W Sn Ln)), .second, .val (.int (1 : Int32)), .val (.long ((XT.ushrL (own_piece F W Sn Ln) jj) &&& (1 : Int64))), .second, .unset, .unset, .unset] [(.int (1 : Int32))]))
    refine own_by (fun _ k => XS.goto X73.here hx rfl (pc0 := 284) (pc' := 288) rfl (hb hby at_284) (by decide) (by decide) k) ?_
    show own_G _ _ _ _ _ _ _ (T73.setTop (mkF m 288 #[.val (.int p0), .val (.int p1), .val (.int p2), .val (.long q3), .second, .val (.long q4), .second, .val (.int pp), .val (.int jj), .val (.int wf), .val (.ref b1), .val (.ref b28), .val (.int st), .val (.int le), .val (.long (own_piece F W Sn Ln)), .second, .val (.int (1 : Int32)), .val (.long ((XT.ushrL (own_piece F W Sn Ln) jj) &&& (1 : Int64))), .second, .unset, .unset, .unset] [(.int (1 : Int32))]))
    exact own_end X73 (v := some (.int (nar .boolean (1 : Int32)))) (fun h => by rw [Bd.returns] at h; cases h) (BodyLoose.notSynchronized Bd) (fun fs hr => retN X73 hx (t := .boolean) Bd.returns (by simp) (hb hby at_288) hr) (by rw [e73]; exact ⟨rfl, N73⟩) (by decide) (by decide)
set_option maxRecDepth 65536 in
set_option maxHeartbeats 40000000 in
theorem comes_1 {Post : Tables → Env → Array Value → State → Outcome → State → Prop} (hpost : ∀ tb e args s v u, (limb_1_1.after args s (.returned v) u = true ∧ limb_1_2.after args s (.returned v) u = true ∧ True) → FrameEnd s (.returned v) u (Jvm.fieldLocs frame_1_writes args s ++ Jvm.arrayLocs frame_1_arrays args s ++ Jvm.staticLocs frame_1_statics s) 16 128 → Post tb e args s (.returned v) u) :
    ArmFor flags0 classFile x code maxLocals ret World_1 tables_1 room_1 Calls_1 rest_1 Pre_1 Post := by
  intro l hfl _ _ p e ha hc hk s m args below hf hA hF happ hP
  obtain ⟨hcalls, hrest, hpre⟩ := hP
  obtain ⟨-, -, -, hnamed, -, -, -, hat⟩ := (Spec.applies_iff hf).mp happ
  obtain ⟨hg, hn⟩ := and_e (Cond.before_iff.mp (show (Jvm.Cond.and given_1 narrow_1).before args s = true from hpre))
  obtain ⟨gc, hg⟩ := and_e hg
  obtain ⟨g0, hg⟩ := and_e hg
  obtain ⟨g1, hg⟩ := and_e hg
  obtain ⟨g2, hg⟩ := and_e hg
  obtain ⟨g3, hg⟩ := and_e hg
  have g4 := hg
  obtain ⟨w0, w1, w2, w3, w4, rfl⟩ : ∃ w0 w1 w2 w3 w4 : Value, args = #[w0, w1, w2, w3, w4] := by
    have hs : args.size = 5 := by simpa [Cond.value, given_1] using gc
    obtain ⟨L⟩ := args
    match L, hs with
    | [w0, w1, w2, w3, w4], _ => exact ⟨w0, w1, w2, w3, w4, rfl⟩
  have hw := fun d (hd : d ∈ tables_1) => atoms_spec (ws := Jvm.Cond.code x code maxLocals ret :: tables_1) hat d (List.mem_cons_of_mem _ hd)
  obtain ⟨i0, ei0⟩ := is_v g0
  obtain rfl : w0 = (.int i0) := Option.some.inj ei0
  obtain ⟨i1, ei1⟩ := is_v g1
  obtain rfl : w1 = (.int i1) := Option.some.inj ei1
  obtain ⟨i2, ei2⟩ := is_v g2
  obtain rfl : w2 = (.int i2) := Option.some.inj ei2
  obtain ⟨i3, ei3⟩ := isL_v g3
  obtain rfl : w3 = (.long i3) := Option.some.inj ei3
  obtain ⟨i4, ei4⟩ := isL_v g4
  obtain rfl : w4 = (.long i4) := Option.some.inj ei4
  obtain ⟨n, o, h1, h2, h3, _, L, rfl, ⟨rfl, N⟩, hq⟩ := rm0 l s _ hw tables_1 i0 i1 i2 i3 i4  s.heap s.heap.size (Nat.le_refl _)  p e ha hc hk s m _ below hf ((Spec.applies_iff_loose hf).mp happ).1 ⟨rfl, State.Warmed39.refl s, rfl⟩ trivial
  refine ⟨n, _, h1, h2, h3, hpost _ _ _ _ _ _ ⟨Cond.after_iff.mpr rfl, Cond.after_iff.mpr (eq_i res_at (Term.int_eval (1)) rfl), trivial⟩ ⟨hq.1, hq.2.1, (hq.2.2.sift fun y hy => Or.inr (N y hy)).mono (by decide) (by decide)⟩⟩
theorem main_1_1 : Claimed_1_1 := comes_1 fun _ _ _ _ _ _ h hF => ⟨h.1, hF⟩
theorem main_1_2 : Claimed_1_2 := comes_1 fun _ _ _ _ _ _ h hF => ⟨h.2.1, hF⟩
end Jvm.Pilot.@@N@@
namespace Jvm.Pilot.@@N@@
open Jvm Jvm.ClassFile Sem Op Lib Jvm.Free Jvm.Stand Jvm.Pilot.@@N@@.Jvm.D
/-! MADE BY PROGRAM (witnessworld.py) out of the Statement's table words and the real class files: 11 classes; the members and pool entries that the words name. The judged class is class 1, her method 1. -/
namespace start1
open Jvm.ClassFile
def u (s : String) : CpInfo := .utf8 (stringToUtf16 s)
/-- a pool by its gaps: so many unusable entries, then the entry; so many at the end -/
def gap : Nat → List CpInfo → List CpInfo
  | 0, r => r
  | n + 1, r => .unusable :: gap n r
def poolList (es : List (Nat × CpInfo)) (last : Nat) : List CpInfo := es.foldr (fun e r => gap e.1 (e.2 :: r)) (gap last [])
def pool (es : List (Nat × CpInfo)) (last : Nat) : Array CpInfo := ⟨poolList es last⟩
def fileOf (pool : Array CpInfo) (this : Nat) (attrs : Array Attribute := #[]) (ms : Array MethodInfo := #[]) (fl : Nat := 33) (sup : Nat := 0) (ifs : Array Nat := #[]) (fds : Array FieldInfo := #[]) : ClassFile where
  minorVersion := 0
  majorVersion := 65
  constantPool := pool
  accessFlags := fl
  thisClass := this
  superClass := sup
  interfaces := ifs
  fields := fds
  methods := ms
  attributes := attrs
def plain (name : String) (sup : Option ClassId) : Class where
  name := name
  kind := .ordinary
  loader := none
  accessFlags := 33
  super := sup
  interfaces := #[]
  cf := none
  fields := #[]
  methods := #[]
  instanceTypes := #[]
  staticTypes := #[]
  resolved := #[]
  callSites := []
  init := .initialized
  statics := none
  mirror := none

def pool0 : Array CpInfo := pool [(5, u "<init>"), (0, u "()V"), (1, .class_ 10), (1, u "java/lang/Object")] 113

def k0m0 : Method := { name := "<init>", desc := "()V", sig := { parameters := [], returnType := none }, accessFlags := 1, code := none }
/-- java/lang/Object -/
def k0 : Class := { plain "java/lang/Object" none with
  accessFlags := 33
  interfaces := #[]
  cf := some (fileOf pool0 8 #[] #[{ accessFlags := 1, nameIndex := 5, descriptorIndex := 6, attributes := #[] }] 33 0 #[] #[])
  fields := #[]
  methods := #[k0m0]
  instanceTypes := #[]
  staticTypes := #[]
  resolved := Array.replicate 124 none
  statics := none }

def pool1 : Array CpInfo := pool [(2, .class_ 4), (1, u "java/lang/Object"), (0, u "<init>"), (0, u "()V"), (0, .integer 2147483647), (0, .long 2), (1, .long 3), (1, .long 4), (1, .long 5), (1, .long 6), (1, .long 7), (1, .methodref 21 22), (0, .class_ 23), (0, .nameAndType 24 25), (0, u "com/example/vote64/vote64/sketch/ProjectionFingerprint"), (0, u "piece"), (0, u "([JII)J"), (0, .class_ 27), (0, u "com/example/vote64/vote64/sketch/ProjectionFingerprintPiecePinLaw"), (2, u "law"), (0, u "(IIIJJ)Z")] 7

def k1m0 : Method := { name := "<init>", desc := "()V", sig := { parameters := [], returnType := none }, accessFlags := 1, code := none }
def k1c1 : Code := { maxStack := 8, maxLocals := 22, code := code, exceptionTable := #[], attributes := #[] }
def k1m1 : Method := { name := "law", desc := "(IIIJJ)Z", sig := { parameters := [.int, .int, .int, .long, .long], returnType := some .boolean }, accessFlags := 9, code := some k1c1 }
/-- com/example/vote64/vote64/sketch/ProjectionFingerprintPiecePinLaw -/
def k1 : Class := { plain "com/example/vote64/vote64/sketch/ProjectionFingerprintPiecePinLaw" (some 0) with
  accessFlags := 49
  interfaces := #[]
  cf := some (fileOf pool1 26 #[] #[{ accessFlags := 1, nameIndex := 5, descriptorIndex := 6, attributes := #[] }, { accessFlags := 9, nameIndex := 30, descriptorIndex := 31, attributes := #[] }] 49 2 #[] #[])
  fields := #[]
  methods := #[k1m0, k1m1]
  instanceTypes := #[]
  staticTypes := #[]
  resolved := Array.replicate 39 none
  statics := none }

def pool2 : Array CpInfo := pool [(1, .class_ 2), (0, u "com/example/vote64/vote64/sketch/ProjectionFingerprint"), (3, .class_ 8), (1, u "java/lang/Object"), (5, u "[J"), (4, u "words"), (0, .class_ 21), (0, u "com/example/vote64/vote64/sketch/ProjectionFingerprint$Builder"), (61, u "piece"), (0, u "([JII)J"), (18, u "SIGN_KEYS"), (0, u "BITS"), (0, u "I"), (2, u "SIMILAR"), (1, u "PIECES"), (1, u "WORDS"), (1, u "SIGN_SEED"), (0, u "J")] 39

def k2c0 : Code := { maxStack := 6, maxLocals := 9, code := prog_17_method_8_code, exceptionTable := #[], attributes := #[] }
def k2m0 : Method := { name := "piece", desc := "([JII)J", sig := { parameters := [(.array .long), .int, .int], returnType := some .long }, accessFlags := 8, code := some k2c0 }
/-- com/example/vote64/vote64/sketch/ProjectionFingerprint -/
def k2 : Class := { plain "com/example/vote64/vote64/sketch/ProjectionFingerprint" (some 0) with
  accessFlags := 49
  interfaces := #[]
  cf := some (fileOf pool2 1 #[.nestMembers #[20]] #[{ accessFlags := 8, nameIndex := 83, descriptorIndex := 84, attributes := #[] }] 49 6 #[] #[{ accessFlags := 25, nameIndex := 104, descriptorIndex := 105, attributes := #[] }, { accessFlags := 25, nameIndex := 108, descriptorIndex := 105, attributes := #[] }, { accessFlags := 24, nameIndex := 110, descriptorIndex := 105, attributes := #[] }, { accessFlags := 24, nameIndex := 112, descriptorIndex := 105, attributes := #[] }, { accessFlags := 26, nameIndex := 114, descriptorIndex := 115, attributes := #[] }, { accessFlags := 26, nameIndex := 103, descriptorIndex := 14, attributes := #[] }, { accessFlags := 18, nameIndex := 19, descriptorIndex := 14, attributes := #[] }])
  fields := #[{ name := "BITS", type := .int, accessFlags := 25, slot := 0, constantValue := 0 }, { name := "SIMILAR", type := .int, accessFlags := 25, slot := 1, constantValue := 0 }, { name := "PIECES", type := .int, accessFlags := 24, slot := 2, constantValue := 0 }, { name := "WORDS", type := .int, accessFlags := 24, slot := 3, constantValue := 0 }, { name := "SIGN_SEED", type := .long, accessFlags := 26, slot := 4, constantValue := 0 }, { name := "SIGN_KEYS", type := (.array .long), accessFlags := 26, slot := 5, constantValue := 0 }, { name := "words", type := (.array .long), accessFlags := 18, slot := 0, constantValue := 0 }]
  methods := #[k2m0]
  instanceTypes := #[(.array .long)]
  staticTypes := #[.int, .int, .int, .int, .long, (.array .long)]
  resolved := Array.replicate 155 none
  statics := none }

def pool3 : Array CpInfo := pool [(1, u "java/lang/Cloneable"), (0, .class_ 1), (0, u "java/lang/Object"), (0, .class_ 3)] 3

/-- java/lang/Cloneable -/
def k3 : Class := { plain "java/lang/Cloneable" (some 0) with
  accessFlags := 1537
  interfaces := #[]
  cf := some (fileOf pool3 2 #[] #[] 1537 4 #[] #[])
  fields := #[]
  methods := #[]
  instanceTypes := #[]
  staticTypes := #[]
  resolved := Array.replicate 8 none
  statics := none }

def pool4 : Array CpInfo := pool [(1, u "java/io/Serializable"), (0, .class_ 1), (0, u "java/lang/Object"), (0, .class_ 3)] 3

/-- java/io/Serializable -/
def k4 : Class := { plain "java/io/Serializable" (some 0) with
  accessFlags := 1537
  interfaces := #[]
  cf := some (fileOf pool4 2 #[] #[] 1537 4 #[] #[])
  fields := #[]
  methods := #[]
  instanceTypes := #[]
  staticTypes := #[]
  resolved := Array.replicate 8 none
  statics := none }

/-- the primitive byte -/
def k5 : Class := { plain "byte" none with kind := .primitive 'B', accessFlags := 0x411 }
/-- [B -/
def k6 : Class := { plain "[B" (some 0) with kind := .array 5 .byte, interfaces := #[3, 4], accessFlags := 1041 }

/-- the primitive int -/
def k7 : Class := { plain "int" none with kind := .primitive 'I', accessFlags := 0x411 }
/-- [I -/
def k8 : Class := { plain "[I" (some 0) with kind := .array 7 .int, interfaces := #[3, 4], accessFlags := 1041 }

/-- the primitive long -/
def k9 : Class := { plain "long" none with kind := .primitive 'J', accessFlags := 0x411 }
/-- [J -/
def k10 : Class := { plain "[J" (some 0) with kind := .array 9 .long, interfaces := #[3, 4], accessFlags := 1041 }

def heap : Heap := #[]
def classes : Array Class := #[k0, k1, k2, k3, k4, k5, k6, k7, k8, k9, k10]
def interned : List (Array UInt16 × Addr) := []
def slotsUsed : Nat := 0
def theMethod : MethodId := ⟨1, 1⟩
def args0 : Array Value := #[.int 5, .int 5, .int 5, .long 5, .long 5]
def aboutOver (below : List Frame) : State where
  vm := { classes := classes, interned := interned.toArray }
  heap := heap
  slotsUsed := slotsUsed
  threads := #[{ frames := .invoking theMethod args0 :: below }]
def below0 : List Frame := [.native { method := ⟨0, 0⟩, args := #[] }]
def about1 : State := aboutOver below0
def p0 : Program := .bare "" "" ""
def e0 : Env := launch0.env 0 0 0
theorem w_frames : about1.frames = Frame.invoking theMethod args0 :: below0 := rfl
set_option maxRecDepth 65536 in
theorem w_args : argsFit about1.vm theMethod args0 = true := by decide +kernel
set_option maxRecDepth 65536 in
theorem w_heap : heapFits about1 = true := by decide +kernel
set_option maxRecDepth 65536 in
theorem w_runnable : about1.curStatus? = some .runnable := by decide +kernel
set_option maxRecDepth 65536 in
theorem w_alone : about1.alone = true := by decide +kernel
set_option maxRecDepth 65536 in
theorem w_named : about1.methodNamed? x = some theMethod := by decide +kernel
set_option maxRecDepth 65536 in
theorem w_hears : about1.hears theMethod below0 = true := by decide +kernel
set_option maxRecDepth 65536 in
theorem w_ripe : about1.ripe theMethod args0 below0 = true := by decide +kernel
theorem w_running : about1.status = .running := rfl
set_option maxRecDepth 65536 in
theorem w_room : about1.hasRoom e0.platform room_1 = true :=
  launch0.hasRoom_least _ room_1 (by decide +kernel) (by decide +kernel) (by decide +kernel) (by decide +kernel) (by decide +kernel) (by decide +kernel)
theorem allAtoms_all (ts : List Jvm.Cond) (a : Array Jvm.Value) (st : Jvm.State) : (allAtoms ts).before a st = ts.all (fun c => c.before a st) := by
  induction ts with
  | nil => rfl
  | cons c t ih =>
    show (Jvm.Cond.and c (allAtoms t)).before a st = _
    rw [Jvm.Cond.before_and, ih, List.all_cons]
def words1 : List Jvm.Cond := Jvm.Cond.code x code maxLocals ret :: tables_1
/-- a 'code' word, met by the world's own term for the bytes: nothing is compared byte by byte -/
theorem code_word {y : MethodName} {bytes : ByteArray} {mx : Nat} {rt : Option FieldType} {a : Array Value} {s : State} {m : MethodId} {meth : Method} {c : Code} (h1 : s.methodNamed? y = some m) (h2 : s.vm.method? m = some meth) (h3 : meth.code = some c) (h4 : c.code = bytes)
    (h5 : (c.maxLocals == mx && c.exceptionTable.isEmpty && decide (c.maxStack ≤ mostOperands) && decide (meth.sig.returnType = rt) && !meth.locks && decide (parseMethodDescriptor y.desc = some meth.sig)) = true) : (Jvm.Cond.code y bytes mx rt).before a s = true := by
  simp only [Bool.and_eq_true, beq_iff_eq, Bool.not_eq_true', decide_eq_true_eq] at h5
  obtain ⟨⟨⟨⟨⟨g1, g2⟩, g3⟩, g4⟩, g5⟩, g6⟩ := h5
  simp [Cond.before, Cond.holds, Cond.value, h1, h2, h3, h4, g1, g2, g3, g4, g5, g6]
def isCode : Jvm.Cond → Bool
  | .code _ _ _ _ => true
  | _ => false
theorem all_split {L : List Jvm.Cond} {P : Jvm.Cond → Bool} (h1 : L.all (fun c => isCode c || P c) = true) (h2 : ∀ c ∈ L.filter isCode, P c = true) : L.all P = true := by
  refine List.all_eq_true.mpr fun c hc => ?_
  have h := List.all_eq_true.mp h1 c hc
  rcases Bool.eq_false_or_eq_true (isCode c) with hi | hi
  · exact h2 c (List.mem_filter.mpr ⟨hc, hi⟩)
  · simpa [hi] using h
set_option maxRecDepth 65536 in
theorem w_c0 : (Jvm.Cond.code x code maxLocals ret).before args0 about1 = true := code_word (m := ⟨1, 1⟩) (meth := k1m1) (c := k1c1) (by decide +kernel) rfl rfl rfl (by decide +kernel)
set_option maxRecDepth 65536 in
theorem w_c1 : (Jvm.Cond.code ({ cls := "com/example/vote64/vote64/sketch/ProjectionFingerprint", name := "piece", desc := "([JII)J" } : Jvm.MethodName) prog_17_method_8_code (9 : Nat) (Option.some Jvm.ClassFile.FieldType.long)).before args0 about1 = true := code_word (m := ⟨2, 0⟩) (meth := k2m0) (c := k2c0) (by decide +kernel) rfl rfl rfl (by decide +kernel)
def codes1 : List Jvm.Cond := [Jvm.Cond.code x code maxLocals ret, Jvm.Cond.code ({ cls := "com/example/vote64/vote64/sketch/ProjectionFingerprint", name := "piece", desc := "([JII)J" } : Jvm.MethodName) prog_17_method_8_code (9 : Nat) (Option.some Jvm.ClassFile.FieldType.long)]
set_option maxRecDepth 65536 in
theorem codes_eq : words1.filter isCode = codes1 := rfl
theorem w_codes : ∀ c ∈ words1.filter isCode, c.before args0 about1 = true := by
  rw [codes_eq]
  intro c hc
  simp only [codes1, List.mem_cons, List.not_mem_nil, or_false] at hc
  rcases hc with rfl | rfl
  · exact w_c0
  · exact w_c1
set_option maxRecDepth 65536 in
theorem w_t1 : words1.all (fun c => isCode c || c.before args0 about1) = true := by decide +kernel
theorem w_tables : (allAtoms (Jvm.Cond.code x code maxLocals ret :: tables_1)).before args0 about1 = true := by
  rw [allAtoms_all]
  show words1.all (fun c => c.before args0 about1) = true
  refine all_split ?_ w_codes
  rw [w_t1]
set_option maxRecDepth 65536 in
theorem w_case : (Jvm.Cond.and given_1 narrow_1).before args0 about1 = true := by decide +kernel
theorem w_applies : (headSpec (Jvm.Cond.code x code maxLocals ret :: tables_1) room_1).applies x e0.platform about1 = true :=
  (Spec.applies_iff w_frames).mpr ⟨w_running, w_runnable, w_alone, w_named, w_hears, w_ripe, w_room, w_tables⟩
theorem atStart : AtStart classFile x code maxLocals ret World_1 tables_1 room_1 Calls_1 rest_1 Pre_1 launch0 p0 e0 about1 theMethod args0 below0 :=
  ⟨lists_1, trivial, launch0.admits_env _ _ _, launch0.least_env, fairChoices_fair.cas, fairChoices_fair.clock, w_frames, w_args, w_heap, w_applies, trivial, trivial, w_case⟩
end start1
theorem witness_1 : WitnessClaimed_1 := ⟨start1.p0, start1.e0, start1.about1, start1.theMethod, start1.args0, start1.below0, start1.atStart⟩
end Jvm.Pilot.@@N@@
