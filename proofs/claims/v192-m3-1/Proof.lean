import JvmDerived
import JvmDerived.Pilot.@@N@@Statement
import JvmDerived.Pilot.@@N@@Code
set_option linter.unusedVariables false
set_option linter.unusedSimpArgs false
namespace Jvm.RoadKit
open Sem ClassFile Op Lib Jvm.Stand Jvm.Free Jvm.LawKit
section New
variable {p : Program} {l : Launch} {e : Env} {R : Room} {s : State} {m : MethodId} {args : Array Value} {below : List Frame} {meth : Method} {c : Code} {T : State} {locs : List Loc} {cells slots : Nat}
theorem retI (X : Stand p l e R s m args below meth c T locs cells slots) (hx : p.tables.exec = Jvm.exec) {pc : Nat} {Ls : Array Slot} {z : Int32} {rest : List Value} (hret : meth.sig.returnType = some .int) (hd : decode c.code pc = .ok (.ireturn, 1)) {fs : List Frame}
    (hl : ∀ (f : JFrame) (acts : List Action), f.method = m → f.locked = none → f.entered = [] → (doReturn e (T.setTop f) acts (some (.int z))).1 = T.setFrames fs) : Steps p.tables e below (T.setTop (mkF m pc Ls (.int z :: rest))) (T.setFrames fs) := by
  have hm' : T.vm.method? m = some meth := X.method'
  have hn : narrow .int (.int z) = .int z := rfl
  show Steps p.tables e below (T.setTop { method := m, pc := pc, locals := Ls, stack := _ :: rest, locked := none }) _
  jvm_step X.here [X.here.top, hx, hd, hm', hret, hn]
  first | (intro acts; rw [hl _ acts rfl rfl rfl]) | rw [hl _ _ rfl rfl rfl]
  exact Steps.refl _
/-- the run from A comes to its end, and there Q holds -/
def own_G (tb : Tables) (e : Env) (below : List Frame) (s : State) (Q : Option Value → Heap → List Loc → Prop) (C S : Nat) (A : State) : Prop :=
  ∃ s₂ o, Steps tb e below A s₂ ∧ s₂.status = .running ∧ Ended s₂ below o ∧ ∃ v L, o = .returned v ∧ Q v s₂.heap L ∧ FrameEnd s o s₂ L C S
theorem own_by {tb : Tables} {Q : Option Value → Heap → List Loc → Prop} {C S : Nat} {A B : State} (st : ∀ t, Steps tb e below B t → Steps tb e below A t) (k : own_G tb e below s Q C S B) : own_G tb e below s Q C S A := by
  obtain ⟨s₂, o, h, r⟩ := k
  exact ⟨s₂, o, st _ h, r⟩
theorem own_end (X : Stand p l e R s m args below meth c T locs cells slots) {v : Option Value} (hv : meth.sig.returnType = none → v = none) (hlk : meth.locks = false) {Q : Option Value → Heap → List Loc → Prop} {C S : Nat} {A : State}
    (st : ∀ fs, (∀ (f : JFrame) (acts : List Action), f.method = m → f.locked = none → f.entered = [] → (doReturn e (T.setTop f) acts v).1 = T.setFrames fs) → Steps p.tables e below A (T.setFrames fs))
    (hQ : Q v T.heap locs) (hc : cells ≤ C) (hs : slots ≤ S) : own_G p.tables e below s Q C S A := by
  obtain ⟨fs, hr, hrun, hended, hW, hsame⟩ := X.leave hv hlk
  exact ⟨_, _, st fs hr, hrun, hended, _, _, rfl, hQ, ⟨_, rfl⟩, hW, hsame.mono hc hs⟩
theorem own_lremM {tb : Tables} [Ours tb] {target : State} {g : JFrame} (h : At T m c below) (hx : tb.exec = Jvm.exec) (hg : g.method = m) {x y : Int64} {rest : List Value} (hd : decode c.code g.pc = .ok (.lrem, 1)) (hs : g.stack = .long y :: .long x :: rest) (hy : y ≠ 0)
    (hr : Steps tb e below (T.setTop { g with pc := g.pc + 1, stack := .long (x % y) :: rest }) target) : Steps tb e below (T.setTop g) target := by
  have q : x - x / y * y = x % y := lrem_mod x y
  exact XT.lrem h hx hg hd hs hy (by rw [q]; exact hr)
end New
end Jvm.RoadKit
namespace Jvm.Pilot.@@N@@
open Jvm Jvm.ClassFile Sem Op Lib Jvm.Free Jvm.Stand Jvm.LawKit Jvm.RoadKit Bundle Jvm.Pilot.@@N@@.Jvm.D
def own_exp (p1 : Int64) (i1 : Int32) (p2 : Int64) (i2 : Int32) : Int32 := if p1 < p2 then -1 else if p2 < p1 then 1 else if i1 < i2 then -1 else if i2 < i1 then 1 else 0
def own_cJ (x y : Int64) : Int32 := if x < y then -1 else if x = y then 0 else 1
def own_cI (x y : Int32) : Int32 := if x < y then -1 else if x = y then 0 else 1
def own_sign (r : Int32) : Int32 := if r < (0 : Int32) then -1 else if (0 : Int32) < r then 1 else 0
def own_to (p1 : Int64) (i1 : Int32) (p2 : Int64) (i2 : Int32) : Int32 := if own_cJ p1 p2 = (0 : Int32) then own_cI i1 i2 else own_cJ p1 p2
theorem own_k0 : (0 : Int32).toInt = 0 := by decide
theorem own_msk (x : Int32) : ¬ (x &&& (2147483647 : Int32)) < (0 : Int32) := by
  have h := c_mask x (2147483647 : Int32) 31 (by decide) (by decide)
  rw [Int32.lt_iff_toInt_lt]; have := own_k0; omega
theorem own_toJ {x y : Int64} : (x < y ↔ x.toInt < y.toInt) ∧ (x = y ↔ x.toInt = y.toInt) := ⟨Int64.lt_iff_toInt_lt, Int64.toInt_inj.symm⟩
theorem own_toI {x y : Int32} : (x < y ↔ x.toInt < y.toInt) ∧ (x = y ↔ x.toInt = y.toInt) := ⟨Int32.lt_iff_toInt_lt, Int32.toInt_inj.symm⟩
theorem own_ab (p1 : Int64) (i1 : Int32) (p2 : Int64) (i2 : Int32) : own_sign (own_to p1 i1 p2 i2) = own_exp p1 i1 p2 i2 := by
  have hJ : p1 < p2 ∧ ¬ p2 < p1 ∧ ¬ p1 = p2 ∨ ¬ p1 < p2 ∧ p2 < p1 ∧ ¬ p1 = p2 ∨ ¬ p1 < p2 ∧ ¬ p2 < p1 ∧ p1 = p2 := by
    simp only [own_toJ.1, own_toJ.2]; omega
  have hI : i1 < i2 ∧ ¬ i2 < i1 ∧ ¬ i1 = i2 ∨ ¬ i1 < i2 ∧ i2 < i1 ∧ ¬ i1 = i2 ∨ ¬ i1 < i2 ∧ ¬ i2 < i1 ∧ i1 = i2 := by
    simp only [own_toI.1, own_toI.2]; omega
  rcases hJ with ⟨a, b, d⟩ | ⟨a, b, d⟩ | ⟨a, b, d⟩
  · have z : own_cJ p1 p2 = -1 := by simp only [own_cJ, if_pos a]
    simp only [own_exp, own_to, z, if_pos a, if_neg (show ¬ (-1 : Int32) = 0 by decide)]; decide
  · have z : own_cJ p1 p2 = 1 := by simp only [own_cJ, if_neg a, if_neg d]
    simp only [own_exp, own_to, z, if_neg a, if_pos b, if_neg (show ¬ (1 : Int32) = 0 by decide)]; decide
  · have z : own_cJ p1 p2 = 0 := by simp only [own_cJ, if_neg a, if_pos d]
    rcases hI with ⟨x, y, w⟩ | ⟨x, y, w⟩ | ⟨x, y, w⟩
    · simp only [own_to, z, own_exp, own_cI, if_neg a, if_neg b, if_pos x, if_true, ↓reduceIte]; decide
    · simp only [own_to, z, own_exp, own_cI, if_neg a, if_neg b, if_neg x, if_pos y, if_neg w, if_true, ↓reduceIte]; decide
    · have z2 : own_cI i1 i2 = 0 := by simp only [own_cI, if_neg x, if_pos w]
      simp only [own_to, z, z2, own_exp, if_neg a, if_neg b, if_neg x, if_neg y, if_true, ↓reduceIte]; decide
theorem own_ba (p1 : Int64) (i1 : Int32) (p2 : Int64) (i2 : Int32) : own_exp p2 i2 p1 i1 = - own_exp p1 i1 p2 i2 := by
  have hJ : p1 < p2 ∧ ¬ p2 < p1 ∨ ¬ p1 < p2 ∧ p2 < p1 ∨ ¬ p1 < p2 ∧ ¬ p2 < p1 := by
    simp only [own_toJ.1]; omega
  have hI : i1 < i2 ∧ ¬ i2 < i1 ∨ ¬ i1 < i2 ∧ i2 < i1 ∨ ¬ i1 < i2 ∧ ¬ i2 < i1 := by
    simp only [own_toI.1]; omega
  rcases hJ with ⟨a, b⟩ | ⟨a, b⟩ | ⟨a, b⟩
  · simp only [own_exp, a, b, if_true, if_false, ↓reduceIte]; first | done | decide
  · simp only [own_exp, a, b, if_true, if_false, ↓reduceIte]; first | done | decide
  · rcases hI with ⟨x, y⟩ | ⟨x, y⟩ | ⟨x, y⟩
    · simp only [own_exp, a, b, x, y, if_true, if_false, ↓reduceIte]; first | done | decide
    · simp only [own_exp, a, b, x, y, if_true, if_false, ↓reduceIte]; first | done | decide
    · simp only [own_exp, a, b, x, y, if_true, if_false, ↓reduceIte]; first | done | decide
theorem own_d3_0 : decode method_3_code 0 = .ok (.lload_n 0, 1) := by decide +kernel
theorem own_d3_1 : decode method_3_code 1 = .ok (.lload_n 3, 1) := by decide +kernel
theorem own_d3_2 : decode method_3_code 2 = .ok (.lcmp, 1) := by decide +kernel
theorem own_d3_3 : decode method_3_code 3 = .ok (.ifCond .ge 5, 3) := by decide +kernel
theorem own_d3_6 : decode method_3_code 6 = .ok (.iconst (-1), 1) := by decide +kernel
theorem own_d3_7 : decode method_3_code 7 = .ok (.ireturn, 1) := by decide +kernel
theorem own_d3_8 : decode method_3_code 8 = .ok (.lload_n 0, 1) := by decide +kernel
theorem own_d3_9 : decode method_3_code 9 = .ok (.lload_n 3, 1) := by decide +kernel
theorem own_d3_10 : decode method_3_code 10 = .ok (.lcmp, 1) := by decide +kernel
theorem own_d3_11 : decode method_3_code 11 = .ok (.ifCond .le 5, 3) := by decide +kernel
theorem own_d3_14 : decode method_3_code 14 = .ok (.iconst 1, 1) := by decide +kernel
theorem own_d3_15 : decode method_3_code 15 = .ok (.ireturn, 1) := by decide +kernel
theorem own_d3_16 : decode method_3_code 16 = .ok (.iload_n 2, 1) := by decide +kernel
theorem own_d3_17 : decode method_3_code 17 = .ok (.iload 5, 2) := by decide +kernel
theorem own_d3_19 : decode method_3_code 19 = .ok (.if_icmp .ge 5, 3) := by decide +kernel
theorem own_d3_22 : decode method_3_code 22 = .ok (.iconst (-1), 1) := by decide +kernel
theorem own_d3_23 : decode method_3_code 23 = .ok (.ireturn, 1) := by decide +kernel
theorem own_d3_24 : decode method_3_code 24 = .ok (.iload_n 2, 1) := by decide +kernel
theorem own_d3_25 : decode method_3_code 25 = .ok (.iload 5, 2) := by decide +kernel
theorem own_d3_27 : decode method_3_code 27 = .ok (.if_icmp .le 5, 3) := by decide +kernel
theorem own_d3_30 : decode method_3_code 30 = .ok (.iconst 1, 1) := by decide +kernel
theorem own_d3_31 : decode method_3_code 31 = .ok (.ireturn, 1) := by decide +kernel
theorem own_d3_32 : decode method_3_code 32 = .ok (.iconst 0, 1) := by decide +kernel
theorem own_d3_33 : decode method_3_code 33 = .ok (.ireturn, 1) := by decide +kernel
theorem own_pn0 : plainName "com/example/inua/inua/ReadingPositionCompareToPinLaw" = true := by first | (simp [plainName, overriddenIn]; done) | decide +kernel
theorem own_ef1 (m : MethodId) (x0 : Int64) (x1 : Int32) (x2 : Int64) (x3 : Int32) : entryFrame m #[(.long x0), (.int x1), (.long x2), (.int x3)] 6 = mkF m 0 #[.val (.long x0), .second, .val (.int x1), .val (.long x2), .second, .val (.int x3)] [] := by first | (simp [entryFrame, mkF, argsToLocals, Value.category]; done) | rfl
def own_Q1 (Z : State) (q0 : Int64) (p1 : Int32) (q2 : Int64) (p3 : Int32) (h0 : Heap) (n0 : Nat) (v : Option Value) (h : Heap) (L : List Loc) : Prop := v = some (.int (own_exp q0 p1 q2 p3)) ∧ Fr n0 L ∧ h = h0
set_option maxRecDepth 65536 in
set_option maxHeartbeats 40000000 in
theorem rm1 (l : Launch) (Z : State) (aw : Array Value) (hw : ∀ d ∈ tables_1, d.before aw Z = true) (ws : List Jvm.Cond) (q0 : Int64) (p1 : Int32) (q2 : Int64) (p3 : Int32) (h0 : Heap) (n0 : Nat) (Z0 : n0 ≤ h0.size) :
    MetFree l (⟨"com/example/inua/inua/ReadingPositionCompareToPinLaw", "expected", "(JIJI)I"⟩ : MethodName) (head1 (Jvm.Cond.code (⟨"com/example/inua/inua/ReadingPositionCompareToPinLaw", "expected", "(JIJI)I"⟩ : MethodName) method_3_code 6 (some .int) :: ws) ({ frames := 0, cells := 0, slots := 0, locals := 0 } : Room)) (fun a U => a = #[(.long q0), (.int p1), (.long q2), (.int p3)] ∧ Z.Warmed39 U.vm ∧ U.heap = h0) (fun _ _ _ _ _ => True) (fun _ U o U' => ∃ v L, o = .returned v ∧ own_Q1 Z q0 p1 q2 p3 h0 n0 v U'.heap L ∧ FrameEnd U o U' L ({ frames := 0, cells := 0, slots := 0, locals := 0 } : Room).cells ({ frames := 0, cells := 0, slots := 0, locals := 0 } : Room).slots) := by
  refine MetFree.of_bodySF (plainFor_of_name own_pn0) hisR ?_
  intro p e s m args below meth c s₁ Bd hml0 hP hK
  obtain ⟨rfl, hZ, hh⟩ := hP
  have hx := Bd.exec
  have hby := Bd.bytes
  have hml : c.maxLocals = 6 := hml0
  have hown : s.vm.findClass "com/example/inua/inua/ReadingPositionCompareToPinLaw" = some m.cls := findClass_of_methodNamed Bd.named
  have hnm := (name_of_methodNamed Bd.named Bd.method).1
  have X0 : Stand p l e ({ frames := 0, cells := 0, slots := 0, locals := 0 } : Room) s m #[(.long q0), (.int p1), (.long q2), (.int p3)] below meth c s₁ [] 0 0 := Stand.of_body Bd
  have e0 : s₁.heap = h0 := by rw [← hh, Bd.state]; rfl
  have N0 := Fr.nil n0
  show own_G p.tables e below s (own_Q1 Z q0 p1 q2 p3 h0 n0) ({ frames := 0, cells := 0, slots := 0, locals := 0 } : Room).cells ({ frames := 0, cells := 0, slots := 0, locals := 0 } : Room).slots (s₁.setTop (entryFrame m #[(.long q0), (.int p1), (.long q2), (.int p3)] 6))
  refine own_by (fun _ k => castTop (own_ef1 m q0 p1 q2 p3) k) ?_
  show own_G _ _ _ _ _ _ _ (s₁.setTop (mkF m 0 #[.val (.long q0), .second, .val (.int p1), .val (.long q2), .second, .val (.int p3)] []))
  refine own_by (fun _ k => XT.lloadN X0.here hx rfl (hb hby own_d3_0) rfl  k) ?_
  show own_G _ _ _ _ _ _ _ (s₁.setTop (mkF m 1 #[.val (.long q0), .second, .val (.int p1), .val (.long q2), .second, .val (.int p3)] [(.long q0)]))
  refine own_by (fun _ k => XT.lloadN X0.here hx rfl (hb hby own_d3_1) rfl  k) ?_
  show own_G _ _ _ _ _ _ _ (s₁.setTop (mkF m 2 #[.val (.long q0), .second, .val (.int p1), .val (.long q2), .second, .val (.int p3)] [(.long q2), (.long q0)]))
  refine own_by (fun _ k => XT.lcmp X0.here hx rfl (hb hby own_d3_2) rfl k) ?_
  show own_G _ _ _ _ _ _ _ (s₁.setTop (mkF m 3 #[.val (.long q0), .second, .val (.int p1), .val (.long q2), .second, .val (.int p3)] [(.int (XT.cmpL q0 q2))]))
  by_cases hc3 : q0 < q2
  · refine own_by (fun _ k => XS.ifNo X0.here hx rfl (hb hby own_d3_3) rfl (XT.ll_ge_f hc3) k) ?_
    show own_G _ _ _ _ _ _ _ (s₁.setTop (mkF m 6 #[.val (.long q0), .second, .val (.int p1), .val (.long q2), .second, .val (.int p3)] []))
    refine own_by (fun _ k => XS.iconst X0.here hx rfl (hb hby own_d3_6) k) ?_
    show own_G _ _ _ _ _ _ _ (s₁.setTop (mkF m 7 #[.val (.long q0), .second, .val (.int p1), .val (.long q2), .second, .val (.int p3)] [(.int (-1 : Int32))]))
    exact own_end X0 (v := some (.int (-1 : Int32))) (fun h => by rw [Bd.returns] at h; cases h) (BodyLoose.notSynchronized Bd) (fun fs hr => retI X0 hx Bd.returns (hb hby own_d3_7) hr) (by rw [e0]; exact ⟨(by simp only [own_exp, if_pos hc3]; first | done | rfl), N0, rfl⟩) (by decide) (by decide)
  · refine own_by (fun _ k => XS.ifYes X0.here hx rfl (pc0 := 3) (pc' := 8) rfl (hb hby own_d3_3) rfl (XT.ll_ge_t hc3) (by decide) (by decide) k) ?_
    show own_G _ _ _ _ _ _ _ (s₁.setTop (mkF m 8 #[.val (.long q0), .second, .val (.int p1), .val (.long q2), .second, .val (.int p3)] []))
    refine own_by (fun _ k => XT.lloadN X0.here hx rfl (hb hby own_d3_8) rfl  k) ?_
    show own_G _ _ _ _ _ _ _ (s₁.setTop (mkF m 9 #[.val (.long q0), .second, .val (.int p1), .val (.long q2), .second, .val (.int p3)] [(.long q0)]))
    refine own_by (fun _ k => XT.lloadN X0.here hx rfl (hb hby own_d3_9) rfl  k) ?_
    show own_G _ _ _ _ _ _ _ (s₁.setTop (mkF m 10 #[.val (.long q0), .second, .val (.int p1), .val (.long q2), .second, .val (.int p3)] [(.long q2), (.long q0)]))
    refine own_by (fun _ k => XT.lcmp X0.here hx rfl (hb hby own_d3_10) rfl k) ?_
    show own_G _ _ _ _ _ _ _ (s₁.setTop (mkF m 11 #[.val (.long q0), .second, .val (.int p1), .val (.long q2), .second, .val (.int p3)] [(.int (XT.cmpL q0 q2))]))
    by_cases hc11 : q2 < q0
    · refine own_by (fun _ k => XS.ifNo X0.here hx rfl (hb hby own_d3_11) rfl (XT.ll_le_f hc11) k) ?_
      show own_G _ _ _ _ _ _ _ (s₁.setTop (mkF m 14 #[.val (.long q0), .second, .val (.int p1), .val (.long q2), .second, .val (.int p3)] []))
      refine own_by (fun _ k => XS.iconst X0.here hx rfl (hb hby own_d3_14) k) ?_
      show own_G _ _ _ _ _ _ _ (s₁.setTop (mkF m 15 #[.val (.long q0), .second, .val (.int p1), .val (.long q2), .second, .val (.int p3)] [(.int (1 : Int32))]))
      exact own_end X0 (v := some (.int (1 : Int32))) (fun h => by rw [Bd.returns] at h; cases h) (BodyLoose.notSynchronized Bd) (fun fs hr => retI X0 hx Bd.returns (hb hby own_d3_15) hr) (by rw [e0]; exact ⟨(by simp only [own_exp, if_neg hc3, if_pos hc11]; first | done | rfl), N0, rfl⟩) (by decide) (by decide)
    · refine own_by (fun _ k => XS.ifYes X0.here hx rfl (pc0 := 11) (pc' := 16) rfl (hb hby own_d3_11) rfl (XT.ll_le_t hc11) (by decide) (by decide) k) ?_
      show own_G _ _ _ _ _ _ _ (s₁.setTop (mkF m 16 #[.val (.long q0), .second, .val (.int p1), .val (.long q2), .second, .val (.int p3)] []))
      refine own_by (fun _ k => XS.iloadN X0.here hx rfl (hb hby own_d3_16) rfl  k) ?_
      show own_G _ _ _ _ _ _ _ (s₁.setTop (mkF m 17 #[.val (.long q0), .second, .val (.int p1), .val (.long q2), .second, .val (.int p3)] [(.int p1)]))
      refine own_by (fun _ k => XS.iload X0.here hx rfl (hb hby own_d3_17) rfl  k) ?_
      show own_G _ _ _ _ _ _ _ (s₁.setTop (mkF m 19 #[.val (.long q0), .second, .val (.int p1), .val (.long q2), .second, .val (.int p3)] [(.int p3), (.int p1)]))
      by_cases hc19 : p1 < p3
      · refine own_by (fun _ k => XS.icmpNo X0.here hx rfl (hb hby own_d3_19) rfl (XT.ii_ge_f hc19) k) ?_
        show own_G _ _ _ _ _ _ _ (s₁.setTop (mkF m 22 #[.val (.long q0), .second, .val (.int p1), .val (.long q2), .second, .val (.int p3)] []))
        refine own_by (fun _ k => XS.iconst X0.here hx rfl (hb hby own_d3_22) k) ?_
        show own_G _ _ _ _ _ _ _ (s₁.setTop (mkF m 23 #[.val (.long q0), .second, .val (.int p1), .val (.long q2), .second, .val (.int p3)] [(.int (-1 : Int32))]))
        exact own_end X0 (v := some (.int (-1 : Int32))) (fun h => by rw [Bd.returns] at h; cases h) (BodyLoose.notSynchronized Bd) (fun fs hr => retI X0 hx Bd.returns (hb hby own_d3_23) hr) (by rw [e0]; exact ⟨(by simp only [own_exp, if_neg hc3, if_neg hc11, if_pos hc19]; first | done | rfl), N0, rfl⟩) (by decide) (by decide)
      · refine own_by (fun _ k => XS.icmpYes X0.here hx rfl (pc0 := 19) (pc' := 24) rfl (hb hby own_d3_19) rfl (XT.ii_ge_t hc19) (by decide) (by decide) k) ?_
        show own_G _ _ _ _ _ _ _ (s₁.setTop (mkF m 24 #[.val (.long q0), .second, .val (.int p1), .val (.long q2), .second, .val (.int p3)] []))
        refine own_by (fun _ k => XS.iloadN X0.here hx rfl (hb hby own_d3_24) rfl  k) ?_
        show own_G _ _ _ _ _ _ _ (s₁.setTop (mkF m 25 #[.val (.long q0), .second, .val (.int p1), .val (.long q2), .second, .val (.int p3)] [(.int p1)]))
        refine own_by (fun _ k => XS.iload X0.here hx rfl (hb hby own_d3_25) rfl  k) ?_
        show own_G _ _ _ _ _ _ _ (s₁.setTop (mkF m 27 #[.val (.long q0), .second, .val (.int p1), .val (.long q2), .second, .val (.int p3)] [(.int p3), (.int p1)]))
        by_cases hc27 : p3 < p1
        · refine own_by (fun _ k => XS.icmpNo X0.here hx rfl (hb hby own_d3_27) rfl (XT.ii_le_f hc27) k) ?_
          show own_G _ _ _ _ _ _ _ (s₁.setTop (mkF m 30 #[.val (.long q0), .second, .val (.int p1), .val (.long q2), .second, .val (.int p3)] []))
          refine own_by (fun _ k => XS.iconst X0.here hx rfl (hb hby own_d3_30) k) ?_
          show own_G _ _ _ _ _ _ _ (s₁.setTop (mkF m 31 #[.val (.long q0), .second, .val (.int p1), .val (.long q2), .second, .val (.int p3)] [(.int (1 : Int32))]))
          exact own_end X0 (v := some (.int (1 : Int32))) (fun h => by rw [Bd.returns] at h; cases h) (BodyLoose.notSynchronized Bd) (fun fs hr => retI X0 hx Bd.returns (hb hby own_d3_31) hr) (by rw [e0]; exact ⟨(by simp only [own_exp, if_neg hc3, if_neg hc11, if_neg hc19, if_pos hc27]; first | done | rfl), N0, rfl⟩) (by decide) (by decide)
        · refine own_by (fun _ k => XS.icmpYes X0.here hx rfl (pc0 := 27) (pc' := 32) rfl (hb hby own_d3_27) rfl (XT.ii_le_t hc27) (by decide) (by decide) k) ?_
          show own_G _ _ _ _ _ _ _ (s₁.setTop (mkF m 32 #[.val (.long q0), .second, .val (.int p1), .val (.long q2), .second, .val (.int p3)] []))
          refine own_by (fun _ k => XS.iconst X0.here hx rfl (hb hby own_d3_32) k) ?_
          show own_G _ _ _ _ _ _ _ (s₁.setTop (mkF m 33 #[.val (.long q0), .second, .val (.int p1), .val (.long q2), .second, .val (.int p3)] [(.int (0 : Int32))]))
          exact own_end X0 (v := some (.int (0 : Int32))) (fun h => by rw [Bd.returns] at h; cases h) (BodyLoose.notSynchronized Bd) (fun fs hr => retI X0 hx Bd.returns (hb hby own_d3_33) hr) (by rw [e0]; exact ⟨(by simp only [own_exp, if_neg hc3, if_neg hc11, if_neg hc19, if_neg hc27]; first | done | rfl), N0, rfl⟩) (by decide) (by decide)
theorem own_d5_0 : decode jdk_35_method_42_code 0 = .ok (.lload_n 0, 1) := by decide +kernel
theorem own_d5_1 : decode jdk_35_method_42_code 1 = .ok (.lload_n 2, 1) := by decide +kernel
theorem own_d5_2 : decode jdk_35_method_42_code 2 = .ok (.lcmp, 1) := by decide +kernel
theorem own_d5_3 : decode jdk_35_method_42_code 3 = .ok (.ifCond .ge 7, 3) := by decide +kernel
theorem own_d5_6 : decode jdk_35_method_42_code 6 = .ok (.iconst (-1), 1) := by decide +kernel
theorem own_d5_7 : decode jdk_35_method_42_code 7 = .ok (.goto 14, 3) := by decide +kernel
theorem own_d5_21 : decode jdk_35_method_42_code 21 = .ok (.ireturn, 1) := by decide +kernel
theorem own_d5_10 : decode jdk_35_method_42_code 10 = .ok (.lload_n 0, 1) := by decide +kernel
theorem own_d5_11 : decode jdk_35_method_42_code 11 = .ok (.lload_n 2, 1) := by decide +kernel
theorem own_d5_12 : decode jdk_35_method_42_code 12 = .ok (.lcmp, 1) := by decide +kernel
theorem own_d5_13 : decode jdk_35_method_42_code 13 = .ok (.ifCond .ne 7, 3) := by decide +kernel
theorem own_d5_16 : decode jdk_35_method_42_code 16 = .ok (.iconst 0, 1) := by decide +kernel
theorem own_d5_17 : decode jdk_35_method_42_code 17 = .ok (.goto 4, 3) := by decide +kernel
theorem own_d5_20 : decode jdk_35_method_42_code 20 = .ok (.iconst 1, 1) := by decide +kernel
theorem own_pn1 : plainName "java/lang/Long" = true := by first | (simp [plainName, overriddenIn]; done) | decide +kernel
theorem own_ef2 (m : MethodId) (x0 : Int64) (x1 : Int64) : entryFrame m #[(.long x0), (.long x1)] 4 = mkF m 0 #[.val (.long x0), .second, .val (.long x1), .second] [] := by first | (simp [entryFrame, mkF, argsToLocals, Value.category]; done) | rfl
def own_Q2 (Z : State) (q0 : Int64) (q1 : Int64) (h0 : Heap) (n0 : Nat) (v : Option Value) (h : Heap) (L : List Loc) : Prop := v = some (.int (own_cJ q0 q1)) ∧ Fr n0 L ∧ h = h0
set_option maxRecDepth 65536 in
set_option maxHeartbeats 40000000 in
theorem rm2 (l : Launch) (Z : State) (aw : Array Value) (hw : ∀ d ∈ tables_1, d.before aw Z = true) (ws : List Jvm.Cond) (q0 : Int64) (q1 : Int64) (h0 : Heap) (n0 : Nat) (Z0 : n0 ≤ h0.size) :
    MetFree l (⟨"java/lang/Long", "compare", "(JJ)I"⟩ : MethodName) (head1 (Jvm.Cond.code (⟨"java/lang/Long", "compare", "(JJ)I"⟩ : MethodName) jdk_35_method_42_code 4 (some .int) :: ws) ({ frames := 0, cells := 0, slots := 0, locals := 0 } : Room)) (fun a U => a = #[(.long q0), (.long q1)] ∧ Z.Warmed39 U.vm ∧ U.heap = h0) (fun _ _ _ _ _ => True) (fun _ U o U' => ∃ v L, o = .returned v ∧ own_Q2 Z q0 q1 h0 n0 v U'.heap L ∧ FrameEnd U o U' L ({ frames := 0, cells := 0, slots := 0, locals := 0 } : Room).cells ({ frames := 0, cells := 0, slots := 0, locals := 0 } : Room).slots) := by
  refine MetFree.of_bodySF (plainFor_of_name own_pn1) hisR ?_
  intro p e s m args below meth c s₁ Bd hml0 hP hK
  obtain ⟨rfl, hZ, hh⟩ := hP
  have hx := Bd.exec
  have hby := Bd.bytes
  have hml : c.maxLocals = 4 := hml0
  have hown : s.vm.findClass "java/lang/Long" = some m.cls := findClass_of_methodNamed Bd.named
  have hnm := (name_of_methodNamed Bd.named Bd.method).1
  have X0 : Stand p l e ({ frames := 0, cells := 0, slots := 0, locals := 0 } : Room) s m #[(.long q0), (.long q1)] below meth c s₁ [] 0 0 := Stand.of_body Bd
  have e0 : s₁.heap = h0 := by rw [← hh, Bd.state]; rfl
  have N0 := Fr.nil n0
  show own_G p.tables e below s (own_Q2 Z q0 q1 h0 n0) ({ frames := 0, cells := 0, slots := 0, locals := 0 } : Room).cells ({ frames := 0, cells := 0, slots := 0, locals := 0 } : Room).slots (s₁.setTop (entryFrame m #[(.long q0), (.long q1)] 4))
  refine own_by (fun _ k => castTop (own_ef2 m q0 q1) k) ?_
  show own_G _ _ _ _ _ _ _ (s₁.setTop (mkF m 0 #[.val (.long q0), .second, .val (.long q1), .second] []))
  refine own_by (fun _ k => XT.lloadN X0.here hx rfl (hb hby own_d5_0) rfl  k) ?_
  show own_G _ _ _ _ _ _ _ (s₁.setTop (mkF m 1 #[.val (.long q0), .second, .val (.long q1), .second] [(.long q0)]))
  refine own_by (fun _ k => XT.lloadN X0.here hx rfl (hb hby own_d5_1) rfl  k) ?_
  show own_G _ _ _ _ _ _ _ (s₁.setTop (mkF m 2 #[.val (.long q0), .second, .val (.long q1), .second] [(.long q1), (.long q0)]))
  refine own_by (fun _ k => XT.lcmp X0.here hx rfl (hb hby own_d5_2) rfl k) ?_
  show own_G _ _ _ _ _ _ _ (s₁.setTop (mkF m 3 #[.val (.long q0), .second, .val (.long q1), .second] [(.int (XT.cmpL q0 q1))]))
  by_cases hc3 : q0 < q1
  · refine own_by (fun _ k => XS.ifNo X0.here hx rfl (hb hby own_d5_3) rfl (XT.ll_ge_f hc3) k) ?_
    show own_G _ _ _ _ _ _ _ (s₁.setTop (mkF m 6 #[.val (.long q0), .second, .val (.long q1), .second] []))
    refine own_by (fun _ k => XS.iconst X0.here hx rfl (hb hby own_d5_6) k) ?_
    show own_G _ _ _ _ _ _ _ (s₁.setTop (mkF m 7 #[.val (.long q0), .second, .val (.long q1), .second] [(.int (-1 : Int32))]))
    refine own_by (fun _ k => XS.goto X0.here hx rfl (pc0 := 7) (pc' := 21) rfl (hb hby own_d5_7) (by decide) (by decide) k) ?_
    show own_G _ _ _ _ _ _ _ (s₁.setTop (mkF m 21 #[.val (.long q0), .second, .val (.long q1), .second] [(.int (-1 : Int32))]))
    exact own_end X0 (v := some (.int (-1 : Int32))) (fun h => by rw [Bd.returns] at h; cases h) (BodyLoose.notSynchronized Bd) (fun fs hr => retI X0 hx Bd.returns (hb hby own_d5_21) hr) (by rw [e0]; exact ⟨(by simp only [own_cJ, if_pos hc3]; first | done | rfl), N0, rfl⟩) (by decide) (by decide)
  · refine own_by (fun _ k => XS.ifYes X0.here hx rfl (pc0 := 3) (pc' := 10) rfl (hb hby own_d5_3) rfl (XT.ll_ge_t hc3) (by decide) (by decide) k) ?_
    show own_G _ _ _ _ _ _ _ (s₁.setTop (mkF m 10 #[.val (.long q0), .second, .val (.long q1), .second] []))
    refine own_by (fun _ k => XT.lloadN X0.here hx rfl (hb hby own_d5_10) rfl  k) ?_
    show own_G _ _ _ _ _ _ _ (s₁.setTop (mkF m 11 #[.val (.long q0), .second, .val (.long q1), .second] [(.long q0)]))
    refine own_by (fun _ k => XT.lloadN X0.here hx rfl (hb hby own_d5_11) rfl  k) ?_
    show own_G _ _ _ _ _ _ _ (s₁.setTop (mkF m 12 #[.val (.long q0), .second, .val (.long q1), .second] [(.long q1), (.long q0)]))
    refine own_by (fun _ k => XT.lcmp X0.here hx rfl (hb hby own_d5_12) rfl k) ?_
    show own_G _ _ _ _ _ _ _ (s₁.setTop (mkF m 13 #[.val (.long q0), .second, .val (.long q1), .second] [(.int (XT.cmpL q0 q1))]))
    by_cases hc13 : q0 = q1
    · refine own_by (fun _ k => XS.ifNo X0.here hx rfl (hb hby own_d5_13) rfl (XT.ll_ne_f hc13) k) ?_
      show own_G _ _ _ _ _ _ _ (s₁.setTop (mkF m 16 #[.val (.long q0), .second, .val (.long q1), .second] []))
      refine own_by (fun _ k => XS.iconst X0.here hx rfl (hb hby own_d5_16) k) ?_
      show own_G _ _ _ _ _ _ _ (s₁.setTop (mkF m 17 #[.val (.long q0), .second, .val (.long q1), .second] [(.int (0 : Int32))]))
      refine own_by (fun _ k => XS.goto X0.here hx rfl (pc0 := 17) (pc' := 21) rfl (hb hby own_d5_17) (by decide) (by decide) k) ?_
      show own_G _ _ _ _ _ _ _ (s₁.setTop (mkF m 21 #[.val (.long q0), .second, .val (.long q1), .second] [(.int (0 : Int32))]))
      exact own_end X0 (v := some (.int (0 : Int32))) (fun h => by rw [Bd.returns] at h; cases h) (BodyLoose.notSynchronized Bd) (fun fs hr => retI X0 hx Bd.returns (hb hby own_d5_21) hr) (by rw [e0]; exact ⟨(by simp only [own_cJ, if_neg hc3, if_pos hc13]; first | done | rfl), N0, rfl⟩) (by decide) (by decide)
    · refine own_by (fun _ k => XS.ifYes X0.here hx rfl (pc0 := 13) (pc' := 20) rfl (hb hby own_d5_13) rfl (XT.ll_ne_t hc13) (by decide) (by decide) k) ?_
      show own_G _ _ _ _ _ _ _ (s₁.setTop (mkF m 20 #[.val (.long q0), .second, .val (.long q1), .second] []))
      refine own_by (fun _ k => XS.iconst X0.here hx rfl (hb hby own_d5_20) k) ?_
      show own_G _ _ _ _ _ _ _ (s₁.setTop (mkF m 21 #[.val (.long q0), .second, .val (.long q1), .second] [(.int (1 : Int32))]))
      exact own_end X0 (v := some (.int (1 : Int32))) (fun h => by rw [Bd.returns] at h; cases h) (BodyLoose.notSynchronized Bd) (fun fs hr => retI X0 hx Bd.returns (hb hby own_d5_21) hr) (by rw [e0]; exact ⟨(by simp only [own_cJ, if_neg hc3, if_neg hc13]; first | done | rfl), N0, rfl⟩) (by decide) (by decide)
theorem own_d7_0 : decode jdk_33_method_40_code 0 = .ok (.iload_n 0, 1) := by decide +kernel
theorem own_d7_1 : decode jdk_33_method_40_code 1 = .ok (.iload_n 1, 1) := by decide +kernel
theorem own_d7_2 : decode jdk_33_method_40_code 2 = .ok (.if_icmp .ge 7, 3) := by decide +kernel
theorem own_d7_5 : decode jdk_33_method_40_code 5 = .ok (.iconst (-1), 1) := by decide +kernel
theorem own_d7_6 : decode jdk_33_method_40_code 6 = .ok (.goto 13, 3) := by decide +kernel
theorem own_d7_19 : decode jdk_33_method_40_code 19 = .ok (.ireturn, 1) := by decide +kernel
theorem own_d7_9 : decode jdk_33_method_40_code 9 = .ok (.iload_n 0, 1) := by decide +kernel
theorem own_d7_10 : decode jdk_33_method_40_code 10 = .ok (.iload_n 1, 1) := by decide +kernel
theorem own_d7_11 : decode jdk_33_method_40_code 11 = .ok (.if_icmp .ne 7, 3) := by decide +kernel
theorem own_d7_14 : decode jdk_33_method_40_code 14 = .ok (.iconst 0, 1) := by decide +kernel
theorem own_d7_15 : decode jdk_33_method_40_code 15 = .ok (.goto 4, 3) := by decide +kernel
theorem own_d7_18 : decode jdk_33_method_40_code 18 = .ok (.iconst 1, 1) := by decide +kernel
theorem own_pn2 : plainName "java/lang/Integer" = true := by first | (simp [plainName, overriddenIn]; done) | decide +kernel
theorem own_ef3 (m : MethodId) (x0 : Int32) (x1 : Int32) : entryFrame m #[(.int x0), (.int x1)] 2 = mkF m 0 #[.val (.int x0), .val (.int x1)] [] := by first | (simp [entryFrame, mkF, argsToLocals, Value.category]; done) | rfl
def own_Q3 (Z : State) (p0 : Int32) (p1 : Int32) (h0 : Heap) (n0 : Nat) (v : Option Value) (h : Heap) (L : List Loc) : Prop := v = some (.int (own_cI p0 p1)) ∧ Fr n0 L ∧ h = h0
set_option maxRecDepth 65536 in
set_option maxHeartbeats 40000000 in
theorem rm3 (l : Launch) (Z : State) (aw : Array Value) (hw : ∀ d ∈ tables_1, d.before aw Z = true) (ws : List Jvm.Cond) (p0 : Int32) (p1 : Int32) (h0 : Heap) (n0 : Nat) (Z0 : n0 ≤ h0.size) :
    MetFree l (⟨"java/lang/Integer", "compare", "(II)I"⟩ : MethodName) (head1 (Jvm.Cond.code (⟨"java/lang/Integer", "compare", "(II)I"⟩ : MethodName) jdk_33_method_40_code 2 (some .int) :: ws) ({ frames := 0, cells := 0, slots := 0, locals := 0 } : Room)) (fun a U => a = #[(.int p0), (.int p1)] ∧ Z.Warmed39 U.vm ∧ U.heap = h0) (fun _ _ _ _ _ => True) (fun _ U o U' => ∃ v L, o = .returned v ∧ own_Q3 Z p0 p1 h0 n0 v U'.heap L ∧ FrameEnd U o U' L ({ frames := 0, cells := 0, slots := 0, locals := 0 } : Room).cells ({ frames := 0, cells := 0, slots := 0, locals := 0 } : Room).slots) := by
  refine MetFree.of_bodySF (plainFor_of_name own_pn2) hisR ?_
  intro p e s m args below meth c s₁ Bd hml0 hP hK
  obtain ⟨rfl, hZ, hh⟩ := hP
  have hx := Bd.exec
  have hby := Bd.bytes
  have hml : c.maxLocals = 2 := hml0
  have hown : s.vm.findClass "java/lang/Integer" = some m.cls := findClass_of_methodNamed Bd.named
  have hnm := (name_of_methodNamed Bd.named Bd.method).1
  have X0 : Stand p l e ({ frames := 0, cells := 0, slots := 0, locals := 0 } : Room) s m #[(.int p0), (.int p1)] below meth c s₁ [] 0 0 := Stand.of_body Bd
  have e0 : s₁.heap = h0 := by rw [← hh, Bd.state]; rfl
  have N0 := Fr.nil n0
  show own_G p.tables e below s (own_Q3 Z p0 p1 h0 n0) ({ frames := 0, cells := 0, slots := 0, locals := 0 } : Room).cells ({ frames := 0, cells := 0, slots := 0, locals := 0 } : Room).slots (s₁.setTop (entryFrame m #[(.int p0), (.int p1)] 2))
  refine own_by (fun _ k => castTop (own_ef3 m p0 p1) k) ?_
  show own_G _ _ _ _ _ _ _ (s₁.setTop (mkF m 0 #[.val (.int p0), .val (.int p1)] []))
  refine own_by (fun _ k => XS.iloadN X0.here hx rfl (hb hby own_d7_0) rfl  k) ?_
  show own_G _ _ _ _ _ _ _ (s₁.setTop (mkF m 1 #[.val (.int p0), .val (.int p1)] [(.int p0)]))
  refine own_by (fun _ k => XS.iloadN X0.here hx rfl (hb hby own_d7_1) rfl  k) ?_
  show own_G _ _ _ _ _ _ _ (s₁.setTop (mkF m 2 #[.val (.int p0), .val (.int p1)] [(.int p1), (.int p0)]))
  by_cases hc2 : p0 < p1
  · refine own_by (fun _ k => XS.icmpNo X0.here hx rfl (hb hby own_d7_2) rfl (XT.ii_ge_f hc2) k) ?_
    show own_G _ _ _ _ _ _ _ (s₁.setTop (mkF m 5 #[.val (.int p0), .val (.int p1)] []))
    refine own_by (fun _ k => XS.iconst X0.here hx rfl (hb hby own_d7_5) k) ?_
    show own_G _ _ _ _ _ _ _ (s₁.setTop (mkF m 6 #[.val (.int p0), .val (.int p1)] [(.int (-1 : Int32))]))
    refine own_by (fun _ k => XS.goto X0.here hx rfl (pc0 := 6) (pc' := 19) rfl (hb hby own_d7_6) (by decide) (by decide) k) ?_
    show own_G _ _ _ _ _ _ _ (s₁.setTop (mkF m 19 #[.val (.int p0), .val (.int p1)] [(.int (-1 : Int32))]))
    exact own_end X0 (v := some (.int (-1 : Int32))) (fun h => by rw [Bd.returns] at h; cases h) (BodyLoose.notSynchronized Bd) (fun fs hr => retI X0 hx Bd.returns (hb hby own_d7_19) hr) (by rw [e0]; exact ⟨(by simp only [own_cI, if_pos hc2]; first | done | rfl), N0, rfl⟩) (by decide) (by decide)
  · refine own_by (fun _ k => XS.icmpYes X0.here hx rfl (pc0 := 2) (pc' := 9) rfl (hb hby own_d7_2) rfl (XT.ii_ge_t hc2) (by decide) (by decide) k) ?_
    show own_G _ _ _ _ _ _ _ (s₁.setTop (mkF m 9 #[.val (.int p0), .val (.int p1)] []))
    refine own_by (fun _ k => XS.iloadN X0.here hx rfl (hb hby own_d7_9) rfl  k) ?_
    show own_G _ _ _ _ _ _ _ (s₁.setTop (mkF m 10 #[.val (.int p0), .val (.int p1)] [(.int p0)]))
    refine own_by (fun _ k => XS.iloadN X0.here hx rfl (hb hby own_d7_10) rfl  k) ?_
    show own_G _ _ _ _ _ _ _ (s₁.setTop (mkF m 11 #[.val (.int p0), .val (.int p1)] [(.int p1), (.int p0)]))
    by_cases hc11 : p0 = p1
    · refine own_by (fun _ k => XS.icmpNo X0.here hx rfl (hb hby own_d7_11) rfl (XT.ii_ne_f hc11) k) ?_
      show own_G _ _ _ _ _ _ _ (s₁.setTop (mkF m 14 #[.val (.int p0), .val (.int p1)] []))
      refine own_by (fun _ k => XS.iconst X0.here hx rfl (hb hby own_d7_14) k) ?_
      show own_G _ _ _ _ _ _ _ (s₁.setTop (mkF m 15 #[.val (.int p0), .val (.int p1)] [(.int (0 : Int32))]))
      refine own_by (fun _ k => XS.goto X0.here hx rfl (pc0 := 15) (pc' := 19) rfl (hb hby own_d7_15) (by decide) (by decide) k) ?_
      show own_G _ _ _ _ _ _ _ (s₁.setTop (mkF m 19 #[.val (.int p0), .val (.int p1)] [(.int (0 : Int32))]))
      exact own_end X0 (v := some (.int (0 : Int32))) (fun h => by rw [Bd.returns] at h; cases h) (BodyLoose.notSynchronized Bd) (fun fs hr => retI X0 hx Bd.returns (hb hby own_d7_19) hr) (by rw [e0]; exact ⟨(by simp only [own_cI, if_neg hc2, if_pos hc11]; first | done | rfl), N0, rfl⟩) (by decide) (by decide)
    · refine own_by (fun _ k => XS.icmpYes X0.here hx rfl (pc0 := 11) (pc' := 18) rfl (hb hby own_d7_11) rfl (XT.ii_ne_t hc11) (by decide) (by decide) k) ?_
      show own_G _ _ _ _ _ _ _ (s₁.setTop (mkF m 18 #[.val (.int p0), .val (.int p1)] []))
      refine own_by (fun _ k => XS.iconst X0.here hx rfl (hb hby own_d7_18) k) ?_
      show own_G _ _ _ _ _ _ _ (s₁.setTop (mkF m 19 #[.val (.int p0), .val (.int p1)] [(.int (1 : Int32))]))
      exact own_end X0 (v := some (.int (1 : Int32))) (fun h => by rw [Bd.returns] at h; cases h) (BodyLoose.notSynchronized Bd) (fun fs hr => retI X0 hx Bd.returns (hb hby own_d7_19) hr) (by rw [e0]; exact ⟨(by simp only [own_cI, if_neg hc2, if_neg hc11]; first | done | rfl), N0, rfl⟩) (by decide) (by decide)
theorem own_d6_0 : decode method_2_code 0 = .ok (.iload_n 0, 1) := by decide +kernel
theorem own_d6_1 : decode method_2_code 1 = .ok (.ifCond .ge 5, 3) := by decide +kernel
theorem own_d6_4 : decode method_2_code 4 = .ok (.iconst (-1), 1) := by decide +kernel
theorem own_d6_5 : decode method_2_code 5 = .ok (.ireturn, 1) := by decide +kernel
theorem own_d6_6 : decode method_2_code 6 = .ok (.iload_n 0, 1) := by decide +kernel
theorem own_d6_7 : decode method_2_code 7 = .ok (.ifCond .le 5, 3) := by decide +kernel
theorem own_d6_10 : decode method_2_code 10 = .ok (.iconst 1, 1) := by decide +kernel
theorem own_d6_11 : decode method_2_code 11 = .ok (.ireturn, 1) := by decide +kernel
theorem own_d6_12 : decode method_2_code 12 = .ok (.iconst 0, 1) := by decide +kernel
theorem own_d6_13 : decode method_2_code 13 = .ok (.ireturn, 1) := by decide +kernel
theorem own_ef4 (m : MethodId) (x0 : Int32) : entryFrame m #[(.int x0)] 1 = mkF m 0 #[.val (.int x0)] [] := by first | (simp [entryFrame, mkF, argsToLocals, Value.category]; done) | rfl
def own_Q4 (Z : State) (p0 : Int32) (h0 : Heap) (n0 : Nat) (v : Option Value) (h : Heap) (L : List Loc) : Prop := v = some (.int (own_sign p0)) ∧ Fr n0 L ∧ h = h0
set_option maxRecDepth 65536 in
set_option maxHeartbeats 40000000 in
theorem rm4 (l : Launch) (Z : State) (aw : Array Value) (hw : ∀ d ∈ tables_1, d.before aw Z = true) (ws : List Jvm.Cond) (p0 : Int32) (h0 : Heap) (n0 : Nat) (Z0 : n0 ≤ h0.size) :
    MetFree l (⟨"com/example/inua/inua/ReadingPositionCompareToPinLaw", "sign", "(I)I"⟩ : MethodName) (head1 (Jvm.Cond.code (⟨"com/example/inua/inua/ReadingPositionCompareToPinLaw", "sign", "(I)I"⟩ : MethodName) method_2_code 1 (some .int) :: ws) ({ frames := 0, cells := 0, slots := 0, locals := 0 } : Room)) (fun a U => a = #[(.int p0)] ∧ Z.Warmed39 U.vm ∧ U.heap = h0) (fun _ _ _ _ _ => True) (fun _ U o U' => ∃ v L, o = .returned v ∧ own_Q4 Z p0 h0 n0 v U'.heap L ∧ FrameEnd U o U' L ({ frames := 0, cells := 0, slots := 0, locals := 0 } : Room).cells ({ frames := 0, cells := 0, slots := 0, locals := 0 } : Room).slots) := by
  refine MetFree.of_bodySF (plainFor_of_name own_pn0) hisR ?_
  intro p e s m args below meth c s₁ Bd hml0 hP hK
  obtain ⟨rfl, hZ, hh⟩ := hP
  have hx := Bd.exec
  have hby := Bd.bytes
  have hml : c.maxLocals = 1 := hml0
  have hown : s.vm.findClass "com/example/inua/inua/ReadingPositionCompareToPinLaw" = some m.cls := findClass_of_methodNamed Bd.named
  have hnm := (name_of_methodNamed Bd.named Bd.method).1
  have X0 : Stand p l e ({ frames := 0, cells := 0, slots := 0, locals := 0 } : Room) s m #[(.int p0)] below meth c s₁ [] 0 0 := Stand.of_body Bd
  have e0 : s₁.heap = h0 := by rw [← hh, Bd.state]; rfl
  have N0 := Fr.nil n0
  show own_G p.tables e below s (own_Q4 Z p0 h0 n0) ({ frames := 0, cells := 0, slots := 0, locals := 0 } : Room).cells ({ frames := 0, cells := 0, slots := 0, locals := 0 } : Room).slots (s₁.setTop (entryFrame m #[(.int p0)] 1))
  refine own_by (fun _ k => castTop (own_ef4 m p0) k) ?_
  show own_G _ _ _ _ _ _ _ (s₁.setTop (mkF m 0 #[.val (.int p0)] []))
  refine own_by (fun _ k => XS.iloadN X0.here hx rfl (hb hby own_d6_0) rfl  k) ?_
  show own_G _ _ _ _ _ _ _ (s₁.setTop (mkF m 1 #[.val (.int p0)] [(.int p0)]))
  by_cases hc1 : p0 < (0 : Int32)
  · refine own_by (fun _ k => XS.ifNo X0.here hx rfl (hb hby own_d6_1) rfl (XT.i0_ge_f hc1) k) ?_
    show own_G _ _ _ _ _ _ _ (s₁.setTop (mkF m 4 #[.val (.int p0)] []))
    refine own_by (fun _ k => XS.iconst X0.here hx rfl (hb hby own_d6_4) k) ?_
    show own_G _ _ _ _ _ _ _ (s₁.setTop (mkF m 5 #[.val (.int p0)] [(.int (-1 : Int32))]))
    exact own_end X0 (v := some (.int (-1 : Int32))) (fun h => by rw [Bd.returns] at h; cases h) (BodyLoose.notSynchronized Bd) (fun fs hr => retI X0 hx Bd.returns (hb hby own_d6_5) hr) (by rw [e0]; exact ⟨(by simp only [own_sign, if_pos hc1]; first | done | rfl), N0, rfl⟩) (by decide) (by decide)
  · refine own_by (fun _ k => XS.ifYes X0.here hx rfl (pc0 := 1) (pc' := 6) rfl (hb hby own_d6_1) rfl (XT.i0_ge_t hc1) (by decide) (by decide) k) ?_
    show own_G _ _ _ _ _ _ _ (s₁.setTop (mkF m 6 #[.val (.int p0)] []))
    refine own_by (fun _ k => XS.iloadN X0.here hx rfl (hb hby own_d6_6) rfl  k) ?_
    show own_G _ _ _ _ _ _ _ (s₁.setTop (mkF m 7 #[.val (.int p0)] [(.int p0)]))
    by_cases hc7 : (0 : Int32) < p0
    · refine own_by (fun _ k => XS.ifNo X0.here hx rfl (hb hby own_d6_7) rfl (XT.i0_le_f hc7) k) ?_
      show own_G _ _ _ _ _ _ _ (s₁.setTop (mkF m 10 #[.val (.int p0)] []))
      refine own_by (fun _ k => XS.iconst X0.here hx rfl (hb hby own_d6_10) k) ?_
      show own_G _ _ _ _ _ _ _ (s₁.setTop (mkF m 11 #[.val (.int p0)] [(.int (1 : Int32))]))
      exact own_end X0 (v := some (.int (1 : Int32))) (fun h => by rw [Bd.returns] at h; cases h) (BodyLoose.notSynchronized Bd) (fun fs hr => retI X0 hx Bd.returns (hb hby own_d6_11) hr) (by rw [e0]; exact ⟨(by simp only [own_sign, if_neg hc1, if_pos hc7]; first | done | rfl), N0, rfl⟩) (by decide) (by decide)
    · refine own_by (fun _ k => XS.ifYes X0.here hx rfl (pc0 := 7) (pc' := 12) rfl (hb hby own_d6_7) rfl (XT.i0_le_t hc7) (by decide) (by decide) k) ?_
      show own_G _ _ _ _ _ _ _ (s₁.setTop (mkF m 12 #[.val (.int p0)] []))
      refine own_by (fun _ k => XS.iconst X0.here hx rfl (hb hby own_d6_12) k) ?_
      show own_G _ _ _ _ _ _ _ (s₁.setTop (mkF m 13 #[.val (.int p0)] [(.int (0 : Int32))]))
      exact own_end X0 (v := some (.int (0 : Int32))) (fun h => by rw [Bd.returns] at h; cases h) (BodyLoose.notSynchronized Bd) (fun fs hr => retI X0 hx Bd.returns (hb hby own_d6_13) hr) (by rw [e0]; exact ⟨(by simp only [own_sign, if_neg hc1, if_neg hc7]; first | done | rfl), N0, rfl⟩) (by decide) (by decide)
theorem own_d1_0 : decode prog_24_method_1_code 0 = .ok (.aload_n 0, 1) := by decide +kernel
theorem own_d1_1 : decode prog_24_method_1_code 1 = .ok (.invokespecial 3, 3) := by decide +kernel
theorem own_d1_4 : decode prog_24_method_1_code 4 = .ok (.iload_n 3, 1) := by decide +kernel
theorem own_d1_5 : decode prog_24_method_1_code 5 = .ok (.ifCond .ge 17, 3) := by decide +kernel
theorem own_d1_22 : decode prog_24_method_1_code 22 = .ok (.aload_n 0, 1) := by decide +kernel
theorem own_d1_23 : decode prog_24_method_1_code 23 = .ok (.lload_n 1, 1) := by decide +kernel
theorem own_d1_24 : decode prog_24_method_1_code 24 = .ok (.putfield 18, 3) := by decide +kernel
theorem own_d1_27 : decode prog_24_method_1_code 27 = .ok (.aload_n 0, 1) := by decide +kernel
theorem own_d1_28 : decode prog_24_method_1_code 28 = .ok (.iload_n 3, 1) := by decide +kernel
theorem own_d1_29 : decode prog_24_method_1_code 29 = .ok (.putfield 24, 3) := by decide +kernel
theorem own_d1_32 : decode prog_24_method_1_code 32 = .ok (.return_, 1) := by decide +kernel
theorem own_pn3 : plainName "com/example/inua/inua/StoredRecord$ReadingPosition" = true := by first | (simp [plainName, overriddenIn]; done) | decide +kernel
theorem own_ef5 (m : MethodId) (x0 : Addr) (x1 : Int64) (x2 : Int32) : entryFrame m #[(.ref x0), (.long x1), (.int x2)] 4 = mkF m 0 #[.val (.ref x0), .val (.long x1), .second, .val (.int x2)] [] := by first | (simp [entryFrame, mkF, argsToLocals, Value.category]; done) | rfl
def own_Q5 (Z : State) (a0 : Addr) (q1 : Int64) (p2 : Int32) (h0 : Heap) (n0 : Nat) (v : Option Value) (h : Heap) (L : List Loc) : Prop := v = none ∧ Fr n0 L ∧ Keep h0 h [a0] ∧ Exa Z h a0 "com/example/inua/inua/StoredRecord$ReadingPosition" ∧ Fld Z h a0 "com/example/inua/inua/StoredRecord$ReadingPosition" "position" "J" (.long q1) ∧ Fld Z h a0 "com/example/inua/inua/StoredRecord$ReadingPosition" "index" "I" (.int p2)
set_option maxRecDepth 65536 in
set_option maxHeartbeats 40000000 in
theorem rm5 (l : Launch) (Z : State) (aw : Array Value) (hw : ∀ d ∈ tables_1, d.before aw Z = true) (ws : List Jvm.Cond) (a0 : Addr) (q1 : Int64) (p2 : Int32) (h0 : Heap) (n0 : Nat) (Z0 : n0 ≤ h0.size) (E_a : Exa Z h0 a0 "com/example/inua/inua/StoredRecord$ReadingPosition") (F_position : Fld Z h0 a0 "com/example/inua/inua/StoredRecord$ReadingPosition" "position" "J" (.long (0 : Int64))) (F_index : Fld Z h0 a0 "com/example/inua/inua/StoredRecord$ReadingPosition" "index" "I" (.int (0 : Int32))) (g_a : n0 ≤ a0) (hp : ¬ (p2 < (0 : Int32))) :
    MetFree l (⟨"com/example/inua/inua/StoredRecord$ReadingPosition", "<init>", "(JI)V"⟩ : MethodName) (head1 (Jvm.Cond.code (⟨"com/example/inua/inua/StoredRecord$ReadingPosition", "<init>", "(JI)V"⟩ : MethodName) prog_24_method_1_code 4 none :: ws) ({ frames := 1, cells := 0, slots := 0, locals := 12 } : Room)) (fun a U => a = #[(.ref a0), (.long q1), (.int p2)] ∧ Z.Warmed39 U.vm ∧ U.heap = h0) (fun _ _ _ _ _ => True) (fun _ U o U' => ∃ v L, o = .returned v ∧ own_Q5 Z a0 q1 p2 h0 n0 v U'.heap L ∧ FrameEnd U o U' L ({ frames := 1, cells := 0, slots := 0, locals := 12 } : Room).cells ({ frames := 1, cells := 0, slots := 0, locals := 12 } : Room).slots) := by
  refine MetFree.of_bodySF (plainFor_of_name own_pn3) hisR ?_
  intro p e s m args below meth c s₁ Bd hml0 hP hK
  obtain ⟨rfl, hZ, hh⟩ := hP
  have hx := Bd.exec
  have hby := Bd.bytes
  have hml : c.maxLocals = 4 := hml0
  have hown : s.vm.findClass "com/example/inua/inua/StoredRecord$ReadingPosition" = some m.cls := findClass_of_methodNamed Bd.named
  have hnm := (name_of_methodNamed Bd.named Bd.method).1
  have X0 : Stand p l e ({ frames := 1, cells := 0, slots := 0, locals := 12 } : Room) s m #[(.ref a0), (.long q1), (.int p2)] below meth c s₁ [] 0 0 := Stand.of_body Bd
  have e0 : s₁.heap = h0 := by rw [← hh, Bd.state]; rfl
  have N0 := Fr.nil n0
  show own_G p.tables e below s (own_Q5 Z a0 q1 p2 h0 n0) ({ frames := 1, cells := 0, slots := 0, locals := 12 } : Room).cells ({ frames := 1, cells := 0, slots := 0, locals := 12 } : Room).slots (s₁.setTop (entryFrame m #[(.ref a0), (.long q1), (.int p2)] 4))
  refine own_by (fun _ k => castTop (own_ef5 m a0 q1 p2) k) ?_
  show own_G _ _ _ _ _ _ _ (s₁.setTop (mkF m 0 #[.val (.ref a0), .val (.long q1), .second, .val (.int p2)] []))
  refine own_by (fun _ k => XS.aloadN X0.here hx rfl (hb hby own_d1_0) rfl rfl k) ?_
  show own_G _ _ _ _ _ _ _ (s₁.setTop (mkF m 1 #[.val (.ref a0), .val (.long q1), .second, .val (.int p2)] [(.ref a0)]))
  obtain ⟨T1, X1, e1, st1⟩ := initO X0 hx hZ hown (hw _ (List.mem_of_getElem? (i := 7) rfl)) (hw _ (List.mem_of_getElem? (i := 8) rfl)) (hw _ (List.mem_of_getElem? (i := 9) rfl)) e0 (g := (mkF m 1 #[.val (.ref a0), .val (.long q1), .second, .val (.int p2)] [(.ref a0)])) rfl (by rw [hml]; rfl) rfl (hb hby own_d1_1) (by decide) (W := 0) (by show 2 * 0 + _ ≤ _; exact Nat.le_of_eq rfl) (by decide)
  refine own_by st1 ?_
  show own_G _ _ _ _ _ _ _ (T1.setTop (mkF m 4 #[.val (.ref a0), .val (.long q1), .second, .val (.int p2)] []))
  refine own_by (fun _ k => XS.iloadN X1.here hx rfl (hb hby own_d1_4) rfl  k) ?_
  show own_G _ _ _ _ _ _ _ (T1.setTop (mkF m 5 #[.val (.ref a0), .val (.long q1), .second, .val (.int p2)] [(.int p2)]))
  have hc5 : ¬ (p2 < (0 : Int32)) := hp
  refine own_by (fun _ k => XS.ifYes X1.here hx rfl (pc0 := 5) (pc' := 22) rfl (hb hby own_d1_5) rfl (XT.i0_ge_t hc5) (by decide) (by decide) k) ?_
  show own_G _ _ _ _ _ _ _ (T1.setTop (mkF m 22 #[.val (.ref a0), .val (.long q1), .second, .val (.int p2)] []))
  refine own_by (fun _ k => XS.aloadN X1.here hx rfl (hb hby own_d1_22) rfl rfl k) ?_
  show own_G _ _ _ _ _ _ _ (T1.setTop (mkF m 23 #[.val (.ref a0), .val (.long q1), .second, .val (.int p2)] [(.ref a0)]))
  refine own_by (fun _ k => XT.lloadN X1.here hx rfl (hb hby own_d1_23) rfl  k) ?_
  show own_G _ _ _ _ _ _ _ (T1.setTop (mkF m 24 #[.val (.ref a0), .val (.long q1), .second, .val (.int p2)] [(.long q1), (.ref a0)]))
  obtain ⟨T2, h2, X2, e2, W2, st2⟩ := putF X1 hx hZ hown (host := "") (Or.inl (hw _ (List.mem_of_getElem? (i := 10) rfl))) Via.refl e1 F_position E_a (Or.inr ⟨(hw _ (List.mem_of_getElem? (i := 11) rfl)), rfl, hnm⟩) (hw _ (List.mem_of_getElem? (i := 2) rfl)) (ty := .long) (by decide) rfl rfl (g := (mkF m 24 #[.val (.ref a0), .val (.long q1), .second, .val (.int p2)] [(.long q1), (.ref a0)])) rfl rfl (hb hby own_d1_24)
  refine own_by st2 ?_
  have F3_0 := E_a.wr W2
  have F3_1 := F_position.same W2
  have F3_2 := F_index.other W2 (Or.inr (slot_ne (Or.inr (hw _ (List.mem_of_getElem? (i := 13) rfl))) (Or.inr (hw _ (List.mem_of_getElem? (i := 11) rfl))) (by decide) (t := .int) (t' := .long) (by decide) (by decide)))
  have N2 := Fr.snoc X2 N0 g_a
  have Z4 : n0 ≤ h2.size := Nat.le_trans Z0 (Nat.le_of_eq W2.size.symm)
  have K2 := (Keep.refl h0 [a0]).wr W2 (Or.inl (List.mem_of_getElem? (i := 0) rfl))
  show own_G _ _ _ _ _ _ _ (T2.setTop (mkF m 27 #[.val (.ref a0), .val (.long q1), .second, .val (.int p2)] []))
  refine own_by (fun _ k => XS.aloadN X2.here hx rfl (hb hby own_d1_27) rfl rfl k) ?_
  show own_G _ _ _ _ _ _ _ (T2.setTop (mkF m 28 #[.val (.ref a0), .val (.long q1), .second, .val (.int p2)] [(.ref a0)]))
  refine own_by (fun _ k => XS.iloadN X2.here hx rfl (hb hby own_d1_28) rfl  k) ?_
  show own_G _ _ _ _ _ _ _ (T2.setTop (mkF m 29 #[.val (.ref a0), .val (.long q1), .second, .val (.int p2)] [(.int p2), (.ref a0)]))
  obtain ⟨T5, h5, X5, e5, W5, st5⟩ := putF X2 hx hZ hown (host := "") (Or.inl (hw _ (List.mem_of_getElem? (i := 12) rfl))) Via.refl e2 F3_2 F3_0 (Or.inr ⟨(hw _ (List.mem_of_getElem? (i := 13) rfl)), rfl, hnm⟩) (hw _ (List.mem_of_getElem? (i := 2) rfl)) (ty := .int) (by decide) rfl rfl (g := (mkF m 29 #[.val (.ref a0), .val (.long q1), .second, .val (.int p2)] [(.int p2), (.ref a0)])) rfl rfl (hb hby own_d1_29)
  refine own_by st5 ?_
  have F6_0 := F3_0.wr W5
  have F6_1 := F3_1.other W5 (Or.inr (slot_ne (Or.inr (hw _ (List.mem_of_getElem? (i := 11) rfl))) (Or.inr (hw _ (List.mem_of_getElem? (i := 13) rfl))) (by decide) (t := .long) (t' := .int) (by decide) (by decide)))
  have F6_2 := F3_2.same W5
  have N5 := Fr.snoc X5 N2 g_a
  have Z7 : n0 ≤ h5.size := Nat.le_trans Z4 (Nat.le_of_eq W5.size.symm)
  have K5 := K2.wr W5 (Or.inl (List.mem_of_getElem? (i := 0) rfl))
  show own_G _ _ _ _ _ _ _ (T5.setTop (mkF m 32 #[.val (.ref a0), .val (.long q1), .second, .val (.int p2)] []))
  exact own_end X5 (v := none) (fun _ => rfl) (BodyLoose.notSynchronized Bd) (fun fs hr => X5.returnOut hx Bd.returns (hb hby own_d1_32) hr) (by rw [e5]; exact ⟨rfl, N5, K5, F6_0, F6_1, F6_2⟩) (by decide) (by decide)
theorem own_d4_0 : decode prog_24_method_6_code 0 = .ok (.aload_n 0, 1) := by decide +kernel
theorem own_d4_1 : decode prog_24_method_6_code 1 = .ok (.getfield 18, 3) := by decide +kernel
theorem own_d4_4 : decode prog_24_method_6_code 4 = .ok (.aload_n 1, 1) := by decide +kernel
theorem own_d4_5 : decode prog_24_method_6_code 5 = .ok (.getfield 18, 3) := by decide +kernel
theorem own_d4_8 : decode prog_24_method_6_code 8 = .ok (.invokestatic 32, 3) := by decide +kernel
theorem own_pd0 : parseMethodDescriptor "(JJ)I" = some ⟨[.long, .long], some .int⟩ := by decide +kernel
theorem own_d4_11 : decode prog_24_method_6_code 11 = .ok (.istore_n 2, 1) := by decide +kernel
theorem own_d4_12 : decode prog_24_method_6_code 12 = .ok (.iload_n 2, 1) := by decide +kernel
theorem own_d4_13 : decode prog_24_method_6_code 13 = .ok (.ifCond .ne 15, 3) := by decide +kernel
theorem own_d4_16 : decode prog_24_method_6_code 16 = .ok (.aload_n 0, 1) := by decide +kernel
theorem own_d4_17 : decode prog_24_method_6_code 17 = .ok (.getfield 24, 3) := by decide +kernel
theorem own_d4_20 : decode prog_24_method_6_code 20 = .ok (.aload_n 1, 1) := by decide +kernel
theorem own_d4_21 : decode prog_24_method_6_code 21 = .ok (.getfield 24, 3) := by decide +kernel
theorem own_d4_24 : decode prog_24_method_6_code 24 = .ok (.invokestatic 38, 3) := by decide +kernel
theorem own_pd1 : parseMethodDescriptor "(II)I" = some ⟨[.int, .int], some .int⟩ := by decide +kernel
theorem own_d4_27 : decode prog_24_method_6_code 27 = .ok (.istore_n 2, 1) := by decide +kernel
theorem own_d4_28 : decode prog_24_method_6_code 28 = .ok (.iload_n 2, 1) := by decide +kernel
theorem own_d4_29 : decode prog_24_method_6_code 29 = .ok (.ireturn, 1) := by decide +kernel
theorem own_ef6 (m : MethodId) (x0 : Addr) (x1 : Addr) : entryFrame m #[(.ref x0), (.ref x1)] 3 = mkF m 0 #[.val (.ref x0), .val (.ref x1), .unset] [] := by first | (simp [entryFrame, mkF, argsToLocals, Value.category]; done) | rfl
def own_Q6 (Z : State) (a0 : Addr) (a1 : Addr) (x0 : Int64) (x1 : Int32) (y0 : Int64) (y1 : Int32) (h0 : Heap) (n0 : Nat) (v : Option Value) (h : Heap) (L : List Loc) : Prop := v = some (.int (own_to x0 x1 y0 y1)) ∧ Fr n0 L ∧ h = h0
set_option maxRecDepth 65536 in
set_option maxHeartbeats 40000000 in
theorem rm6 (l : Launch) (Z : State) (aw : Array Value) (hw : ∀ d ∈ tables_1, d.before aw Z = true) (ws : List Jvm.Cond) (a0 : Addr) (a1 : Addr) (x0 : Int64) (x1 : Int32) (y0 : Int64) (y1 : Int32) (h0 : Heap) (n0 : Nat) (Z0 : n0 ≤ h0.size) (F_a0_position : Fld Z h0 a0 "com/example/inua/inua/StoredRecord$ReadingPosition" "position" "J" (.long x0)) (F_a0_index : Fld Z h0 a0 "com/example/inua/inua/StoredRecord$ReadingPosition" "index" "I" (.int x1)) (F_a1_position : Fld Z h0 a1 "com/example/inua/inua/StoredRecord$ReadingPosition" "position" "J" (.long y0)) (F_a1_index : Fld Z h0 a1 "com/example/inua/inua/StoredRecord$ReadingPosition" "index" "I" (.int y1)) :
    MetFree l (⟨"com/example/inua/inua/StoredRecord$ReadingPosition", "compareTo", "(Lcom/example/inua/inua/StoredRecord$ReadingPosition;)I"⟩ : MethodName) (head1 (Jvm.Cond.code (⟨"com/example/inua/inua/StoredRecord$ReadingPosition", "compareTo", "(Lcom/example/inua/inua/StoredRecord$ReadingPosition;)I"⟩ : MethodName) prog_24_method_6_code 3 (some .int) :: ws) ({ frames := 1, cells := 0, slots := 0, locals := 15 } : Room)) (fun a U => a = #[(.ref a0), (.ref a1)] ∧ Z.Warmed39 U.vm ∧ U.heap = h0) (fun _ _ _ _ _ => True) (fun _ U o U' => ∃ v L, o = .returned v ∧ own_Q6 Z a0 a1 x0 x1 y0 y1 h0 n0 v U'.heap L ∧ FrameEnd U o U' L ({ frames := 1, cells := 0, slots := 0, locals := 15 } : Room).cells ({ frames := 1, cells := 0, slots := 0, locals := 15 } : Room).slots) := by
  refine MetFree.of_bodySF (plainFor_of_name own_pn3) hisR ?_
  intro p e s m args below meth c s₁ Bd hml0 hP hK
  obtain ⟨rfl, hZ, hh⟩ := hP
  have hx := Bd.exec
  have hby := Bd.bytes
  have hml : c.maxLocals = 3 := hml0
  have hown : s.vm.findClass "com/example/inua/inua/StoredRecord$ReadingPosition" = some m.cls := findClass_of_methodNamed Bd.named
  have hnm := (name_of_methodNamed Bd.named Bd.method).1
  have X0 : Stand p l e ({ frames := 1, cells := 0, slots := 0, locals := 15 } : Room) s m #[(.ref a0), (.ref a1)] below meth c s₁ [] 0 0 := Stand.of_body Bd
  have e0 : s₁.heap = h0 := by rw [← hh, Bd.state]; rfl
  have N0 := Fr.nil n0
  show own_G p.tables e below s (own_Q6 Z a0 a1 x0 x1 y0 y1 h0 n0) ({ frames := 1, cells := 0, slots := 0, locals := 15 } : Room).cells ({ frames := 1, cells := 0, slots := 0, locals := 15 } : Room).slots (s₁.setTop (entryFrame m #[(.ref a0), (.ref a1)] 3))
  refine own_by (fun _ k => castTop (own_ef6 m a0 a1) k) ?_
  show own_G _ _ _ _ _ _ _ (s₁.setTop (mkF m 0 #[.val (.ref a0), .val (.ref a1), .unset] []))
  refine own_by (fun _ k => XS.aloadN X0.here hx rfl (hb hby own_d4_0) rfl rfl k) ?_
  show own_G _ _ _ _ _ _ _ (s₁.setTop (mkF m 1 #[.val (.ref a0), .val (.ref a1), .unset] [(.ref a0)]))
  obtain ⟨T8, X8, e8, st8⟩ := getF X0 hx hZ hown (host := "") (Or.inl (hw _ (List.mem_of_getElem? (i := 10) rfl))) Via.refl e0 F_a0_position (g := (mkF m 1 #[.val (.ref a0), .val (.ref a1), .unset] [(.ref a0)])) rfl rfl (hb hby own_d4_1)
  refine own_by st8 ?_
  show own_G _ _ _ _ _ _ _ (T8.setTop (mkF m 4 #[.val (.ref a0), .val (.ref a1), .unset] [(.long x0)]))
  refine own_by (fun _ k => XS.aloadN X8.here hx rfl (hb hby own_d4_4) rfl rfl k) ?_
  show own_G _ _ _ _ _ _ _ (T8.setTop (mkF m 5 #[.val (.ref a0), .val (.ref a1), .unset] [(.ref a1), (.long x0)]))
  obtain ⟨T9, X9, e9, st9⟩ := getF X8 hx hZ hown (host := "") (Or.inl (hw _ (List.mem_of_getElem? (i := 10) rfl))) Via.refl e8 F_a1_position (g := (mkF m 5 #[.val (.ref a0), .val (.ref a1), .unset] [(.ref a1), (.long x0)])) rfl rfl (hb hby own_d4_5)
  refine own_by st9 ?_
  show own_G _ _ _ _ _ _ _ (T9.setTop (mkF m 8 #[.val (.ref a0), .val (.ref a1), .unset] [(.long y0), (.long x0)]))
  obtain ⟨_, _, ⟨T10, L10, k10, n10⟩, -, X10, ⟨Lc10, hQ10, l10, y10, z10⟩, st10⟩ := Jvm.LawKit.callS X9 hx (y := (⟨"java/lang/Long", "compare", "(JJ)I"⟩ : MethodName)) hown (mvT hZ (hw _ (List.mem_of_getElem? (i := 23) rfl))) (mvT hZ (hw _ (List.mem_of_getElem? (i := 24) rfl))) (mvT hZ (hw _ (List.mem_of_getElem? (i := 25) rfl))) (mvT hZ (hw _ (List.mem_of_getElem? (i := 26) rfl))) (by decide) (backOf (W := 0) (rm2 l Z aw hw [] x0 y0 h0 n0 Z0 ) hZ (hw _ (List.mem_of_getElem? (i := 26) rfl)) (hw _ (List.mem_of_getElem? (i := 25) rfl)) (by decide) (by decide)) (g := (mkF m 8 #[.val (.ref a0), .val (.ref a1), .unset] [(.long y0), (.long x0)])) rfl (by rw [hml]; rfl) (argsL := [(.long x0), (.long y0)]) (rest := []) (lenOf own_pd0 rfl) rfl (by show 2 * 0 + _ ≤ _; exact Nat.le_of_eq rfl) (hb hby own_d4_8) (fun _ _ => ⟨rfl, e9, (by decide : 0 + 0 ≤ _), (by decide : 0 + 0 ≤ _)⟩)
  dsimp only [Pt.U, Pt.locs, Pt.cells, Pt.slots] at X10 l10 y10 z10 st10 hQ10
  subst l10 y10 z10
  obtain ⟨rfl, Nq10, e10⟩ := hQ10
  have N10 := Fr.app N0 Nq10
  refine own_by (fun _ k => st10 _ k) ?_
  show own_G _ _ _ _ _ _ _ (T10.setTop (mkF m 11 #[.val (.ref a0), .val (.ref a1), .unset] [(.int (own_cJ x0 y0))]))
  refine own_by (fun _ k => XS.istoreN X10.here hx rfl (hb hby own_d4_11) rfl (l' := #[.val (.ref a0), .val (.ref a1), .val (.int (own_cJ x0 y0))]) rfl k) ?_
  show own_G _ _ _ _ _ _ _ (T10.setTop (mkF m 12 #[.val (.ref a0), .val (.ref a1), .val (.int (own_cJ x0 y0))] []))
  refine own_by (fun _ k => XS.iloadN X10.here hx rfl (hb hby own_d4_12) rfl  k) ?_
  show own_G _ _ _ _ _ _ _ (T10.setTop (mkF m 13 #[.val (.ref a0), .val (.ref a1), .val (.int (own_cJ x0 y0))] [(.int (own_cJ x0 y0))]))
  by_cases hc13 : (own_cJ x0 y0) = (0 : Int32)
  · refine own_by (fun _ k => XS.ifNo X10.here hx rfl (hb hby own_d4_13) rfl (XT.i0_ne_f hc13) k) ?_
    show own_G _ _ _ _ _ _ _ (T10.setTop (mkF m 16 #[.val (.ref a0), .val (.ref a1), .val (.int (own_cJ x0 y0))] []))
    refine own_by (fun _ k => XS.aloadN X10.here hx rfl (hb hby own_d4_16) rfl rfl k) ?_
    show own_G _ _ _ _ _ _ _ (T10.setTop (mkF m 17 #[.val (.ref a0), .val (.ref a1), .val (.int (own_cJ x0 y0))] [(.ref a0)]))
    obtain ⟨T11, X11, e11, st11⟩ := getF X10 hx hZ hown (host := "") (Or.inl (hw _ (List.mem_of_getElem? (i := 12) rfl))) Via.refl e10 F_a0_index (g := (mkF m 17 #[.val (.ref a0), .val (.ref a1), .val (.int (own_cJ x0 y0))] [(.ref a0)])) rfl rfl (hb hby own_d4_17)
    refine own_by st11 ?_
    show own_G _ _ _ _ _ _ _ (T11.setTop (mkF m 20 #[.val (.ref a0), .val (.ref a1), .val (.int (own_cJ x0 y0))] [(.int x1)]))
    refine own_by (fun _ k => XS.aloadN X11.here hx rfl (hb hby own_d4_20) rfl rfl k) ?_
    show own_G _ _ _ _ _ _ _ (T11.setTop (mkF m 21 #[.val (.ref a0), .val (.ref a1), .val (.int (own_cJ x0 y0))] [(.ref a1), (.int x1)]))
    obtain ⟨T12, X12, e12, st12⟩ := getF X11 hx hZ hown (host := "") (Or.inl (hw _ (List.mem_of_getElem? (i := 12) rfl))) Via.refl e11 F_a1_index (g := (mkF m 21 #[.val (.ref a0), .val (.ref a1), .val (.int (own_cJ x0 y0))] [(.ref a1), (.int x1)])) rfl rfl (hb hby own_d4_21)
    refine own_by st12 ?_
    show own_G _ _ _ _ _ _ _ (T12.setTop (mkF m 24 #[.val (.ref a0), .val (.ref a1), .val (.int (own_cJ x0 y0))] [(.int y1), (.int x1)]))
    obtain ⟨_, _, ⟨T13, L13, k13, n13⟩, -, X13, ⟨Lc13, hQ13, l13, y13, z13⟩, st13⟩ := Jvm.LawKit.callS X12 hx (y := (⟨"java/lang/Integer", "compare", "(II)I"⟩ : MethodName)) hown (mvT hZ (hw _ (List.mem_of_getElem? (i := 30) rfl))) (mvT hZ (hw _ (List.mem_of_getElem? (i := 31) rfl))) (mvT hZ (hw _ (List.mem_of_getElem? (i := 32) rfl))) (mvT hZ (hw _ (List.mem_of_getElem? (i := 33) rfl))) (by decide) (backOf (W := 0) (rm3 l Z aw hw [] x1 y1 h0 n0 Z0 ) hZ (hw _ (List.mem_of_getElem? (i := 33) rfl)) (hw _ (List.mem_of_getElem? (i := 32) rfl)) (by decide) (by decide)) (g := (mkF m 24 #[.val (.ref a0), .val (.ref a1), .val (.int (own_cJ x0 y0))] [(.int y1), (.int x1)])) rfl (by rw [hml]; rfl) (argsL := [(.int x1), (.int y1)]) (rest := []) (lenOf own_pd1 rfl) rfl (by show 2 * 0 + _ ≤ _; exact Nat.le_of_eq rfl) (hb hby own_d4_24) (fun _ _ => ⟨rfl, e12, (by decide : 0 + 0 ≤ _), (by decide : 0 + 0 ≤ _)⟩)
    dsimp only [Pt.U, Pt.locs, Pt.cells, Pt.slots] at X13 l13 y13 z13 st13 hQ13
    subst l13 y13 z13
    obtain ⟨rfl, Nq13, e13⟩ := hQ13
    have N13 := Fr.app N10 Nq13
    refine own_by (fun _ k => st13 _ k) ?_
    show own_G _ _ _ _ _ _ _ (T13.setTop (mkF m 27 #[.val (.ref a0), .val (.ref a1), .val (.int (own_cJ x0 y0))] [(.int (own_cI x1 y1))]))
    refine own_by (fun _ k => XS.istoreN X13.here hx rfl (hb hby own_d4_27) rfl (l' := #[.val (.ref a0), .val (.ref a1), .val (.int (own_cI x1 y1))]) rfl k) ?_
    show own_G _ _ _ _ _ _ _ (T13.setTop (mkF m 28 #[.val (.ref a0), .val (.ref a1), .val (.int (own_cI x1 y1))] []))
    refine own_by (fun _ k => XS.iloadN X13.here hx rfl (hb hby own_d4_28) rfl  k) ?_
    show own_G _ _ _ _ _ _ _ (T13.setTop (mkF m 29 #[.val (.ref a0), .val (.ref a1), .val (.int (own_cI x1 y1))] [(.int (own_cI x1 y1))]))
    exact own_end X13 (v := some (.int (own_cI x1 y1))) (fun h => by rw [Bd.returns] at h; cases h) (BodyLoose.notSynchronized Bd) (fun fs hr => retI X13 hx Bd.returns (hb hby own_d4_29) hr) (by rw [e13]; exact ⟨(by simp only [own_to, if_pos hc13]; first | done | rfl), N13, rfl⟩) (by decide) (by decide)
  · refine own_by (fun _ k => XS.ifYes X10.here hx rfl (pc0 := 13) (pc' := 28) rfl (hb hby own_d4_13) rfl (XT.i0_ne_t hc13) (by decide) (by decide) k) ?_
    show own_G _ _ _ _ _ _ _ (T10.setTop (mkF m 28 #[.val (.ref a0), .val (.ref a1), .val (.int (own_cJ x0 y0))] []))
    refine own_by (fun _ k => XS.iloadN X10.here hx rfl (hb hby own_d4_28) rfl  k) ?_
    show own_G _ _ _ _ _ _ _ (T10.setTop (mkF m 29 #[.val (.ref a0), .val (.ref a1), .val (.int (own_cJ x0 y0))] [(.int (own_cJ x0 y0))]))
    exact own_end X10 (v := some (.int (own_cJ x0 y0))) (fun h => by rw [Bd.returns] at h; cases h) (BodyLoose.notSynchronized Bd) (fun fs hr => retI X10 hx Bd.returns (hb hby own_d4_29) hr) (by rw [e10]; exact ⟨(by simp only [own_to, if_neg hc13]; first | done | rfl), N10, rfl⟩) (by decide) (by decide)
theorem own_pd2 : parseMethodDescriptor "(JI)V" = some ⟨[.long, .int], none⟩ := by decide +kernel
theorem own_pd3 : parseMethodDescriptor "(JIJI)I" = some ⟨[.long, .int, .long, .int], some .int⟩ := by decide +kernel
theorem own_pd4 : parseMethodDescriptor "(Lcom/example/inua/inua/StoredRecord$ReadingPosition;)I" = some ⟨[(.object "com/example/inua/inua/StoredRecord$ReadingPosition")], some .int⟩ := by decide +kernel
theorem own_pd5 : parseMethodDescriptor "(I)I" = some ⟨[.int], some .int⟩ := by decide +kernel
theorem own_ef0 (m : MethodId) (x0 : Int64) (x1 : Int64) (x2 : Int32) (x3 : Int32) (x4 : Int32) : entryFrame m #[(.long x0), (.long x1), (.int x2), (.int x3), (.int x4)] maxLocals = mkF m 0 #[.val (.long x0), .second, .val (.long x1), .second, .val (.int x2), .val (.int x3), .val (.int x4), .unset, .unset, .unset, .unset, .unset, .unset, .unset, .unset, .unset, .unset, .unset] [] := by first | (simp [entryFrame, mkF, argsToLocals, Value.category, maxLocals]; done) | rfl
def own_Q0 (Z : State) (q0 : Int64) (q1 : Int64) (p2 : Int32) (p3 : Int32) (p4 : Int32) (h0 : Heap) (n0 : Nat) (v : Option Value) (h : Heap) (L : List Loc) : Prop := v = some (.int 1) ∧ Fr n0 L
set_option maxRecDepth 65536 in
set_option maxHeartbeats 40000000 in
theorem rm0 (l : Launch) (Z : State) (aw : Array Value) (hw : ∀ d ∈ tables_1, d.before aw Z = true) (ws : List Jvm.Cond) (q0 : Int64) (q1 : Int64) (p2 : Int32) (p3 : Int32) (p4 : Int32) (h0 : Heap) (n0 : Nat) (Z0 : n0 ≤ h0.size) :
    MetFree l x (head1 (Jvm.Cond.code x code maxLocals ret :: ws) room_1) (fun a U => a = #[(.long q0), (.long q1), (.int p2), (.int p3), (.int p4)] ∧ Z.Warmed39 U.vm ∧ U.heap = h0) (fun _ _ _ _ _ => True) (fun _ U o U' => ∃ v L, o = .returned v ∧ own_Q0 Z q0 q1 p2 p3 p4 h0 n0 v U'.heap L ∧ FrameEnd U o U' L room_1.cells room_1.slots) := by
  refine MetFree.of_bodySF (plainFor_of_name own_pn0) hisR ?_
  intro p e s m args below meth c s₁ Bd hml0 hP hK
  obtain ⟨rfl, hZ, hh⟩ := hP
  have hx := Bd.exec
  have hby := Bd.bytes
  have hml : c.maxLocals = 18 := hml0
  have hown : s.vm.findClass "com/example/inua/inua/ReadingPositionCompareToPinLaw" = some m.cls := findClass_of_methodNamed Bd.named
  have hnm := (name_of_methodNamed Bd.named Bd.method).1
  have X0 : Stand p l e room_1 s m #[(.long q0), (.long q1), (.int p2), (.int p3), (.int p4)] below meth c s₁ [] 0 0 := Stand.of_body Bd
  have e0 : s₁.heap = h0 := by rw [← hh, Bd.state]; rfl
  have N0 := Fr.nil n0
  show own_G p.tables e below s (own_Q0 Z q0 q1 p2 p3 p4 h0 n0) room_1.cells room_1.slots (s₁.setTop (entryFrame m #[(.long q0), (.long q1), (.int p2), (.int p3), (.int p4)] maxLocals))
  refine own_by (fun _ k => castTop (own_ef0 m q0 q1 p2 p3 p4) k) ?_
  show own_G _ _ _ _ _ _ _ (s₁.setTop (mkF m 0 #[.val (.long q0), .second, .val (.long q1), .second, .val (.int p2), .val (.int p3), .val (.int p4), .unset, .unset, .unset, .unset, .unset, .unset, .unset, .unset, .unset, .unset, .unset] []))
  refine own_by (fun _ k => XS.iload X0.here hx rfl (hb hby at_0) rfl  k) ?_
  show own_G _ _ _ _ _ _ _ (s₁.setTop (mkF m 2 #[.val (.long q0), .second, .val (.long q1), .second, .val (.int p2), .val (.int p3), .val (.int p4), .unset, .unset, .unset, .unset, .unset, .unset, .unset, .unset, .unset, .unset, .unset] [(.int p4)]))
  refine own_by (fun _ k => XS.iconst X0.here hx rfl (hb hby at_2) k) ?_
  show own_G _ _ _ _ _ _ _ (s₁.setTop (mkF m 3 #[.val (.long q0), .second, .val (.long q1), .second, .val (.int p2), .val (.int p3), .val (.int p4), .unset, .unset, .unset, .unset, .unset, .unset, .unset, .unset, .unset, .unset, .unset] [(.int (3 : Int32)), (.int p4)]))
  refine own_by (fun _ k => XS.iand X0.here hx rfl (hb hby at_3) rfl k) ?_
  show own_G _ _ _ _ _ _ _ (s₁.setTop (mkF m 4 #[.val (.long q0), .second, .val (.long q1), .second, .val (.int p2), .val (.int p3), .val (.int p4), .unset, .unset, .unset, .unset, .unset, .unset, .unset, .unset, .unset, .unset, .unset] [(.int (p4 &&& (3 : Int32)))]))
  refine own_by (fun _ k => XS.istore X0.here hx rfl (hb hby at_4) rfl (l' := #[.val (.long q0), .second, .val (.long q1), .second, .val (.int p2), .val (.int p3), .val (.int p4), .val (.int (p4 &&& (3 : Int32))), .unset, .unset, .unset, .unset, .unset, .unset, .unset, .unset, .unset, .unset]) rfl k) ?_
  show own_G _ _ _ _ _ _ _ (s₁.setTop (mkF m 6 #[.val (.long q0), .second, .val (.long q1), .second, .val (.int p2), .val (.int p3), .val (.int p4), .val (.int (p4 &&& (3 : Int32))), .unset, .unset, .unset, .unset, .unset, .unset, .unset, .unset, .unset, .unset] []))
  generalize hnpm : (p4 &&& (3 : Int32)) = pm
  show own_G _ _ _ _ _ _ _ (s₁.setTop (mkF m 6 #[.val (.long q0), .second, .val (.long q1), .second, .val (.int p2), .val (.int p3), .val (.int p4), .val (.int pm), .unset, .unset, .unset, .unset, .unset, .unset, .unset, .unset, .unset, .unset] []))
  refine own_by (fun _ k => XS.iload X0.here hx rfl (hb hby at_6) rfl  k) ?_
  show own_G _ _ _ _ _ _ _ (s₁.setTop (mkF m 8 #[.val (.long q0), .second, .val (.long q1), .second, .val (.int p2), .val (.int p3), .val (.int p4), .val (.int pm), .unset, .unset, .unset, .unset, .unset, .unset, .unset, .unset, .unset, .unset] [(.int p4)]))
  refine own_by (fun _ k => XS.iconst X0.here hx rfl (hb hby at_8) k) ?_
  show own_G _ _ _ _ _ _ _ (s₁.setTop (mkF m 9 #[.val (.long q0), .second, .val (.long q1), .second, .val (.int p2), .val (.int p3), .val (.int p4), .val (.int pm), .unset, .unset, .unset, .unset, .unset, .unset, .unset, .unset, .unset, .unset] [(.int (2 : Int32)), (.int p4)]))
  refine own_by (fun _ k => XT.ishr X0.here hx rfl (hb hby at_9) rfl k) ?_
  show own_G _ _ _ _ _ _ _ (s₁.setTop (mkF m 10 #[.val (.long q0), .second, .val (.long q1), .second, .val (.int p2), .val (.int p3), .val (.int p4), .val (.int pm), .unset, .unset, .unset, .unset, .unset, .unset, .unset, .unset, .unset, .unset] [(.int (p4 >>> ((2 : Int32) &&& 31)))]))
  refine own_by (fun _ k => XS.iconst X0.here hx rfl (hb hby at_10) k) ?_
  show own_G _ _ _ _ _ _ _ (s₁.setTop (mkF m 11 #[.val (.long q0), .second, .val (.long q1), .second, .val (.int p2), .val (.int p3), .val (.int p4), .val (.int pm), .unset, .unset, .unset, .unset, .unset, .unset, .unset, .unset, .unset, .unset] [(.int (3 : Int32)), (.int (p4 >>> ((2 : Int32) &&& 31)))]))
  refine own_by (fun _ k => XS.iand X0.here hx rfl (hb hby at_11) rfl k) ?_
  show own_G _ _ _ _ _ _ _ (s₁.setTop (mkF m 12 #[.val (.long q0), .second, .val (.long q1), .second, .val (.int p2), .val (.int p3), .val (.int p4), .val (.int pm), .unset, .unset, .unset, .unset, .unset, .unset, .unset, .unset, .unset, .unset] [(.int ((p4 >>> ((2 : Int32) &&& 31)) &&& (3 : Int32)))]))
  refine own_by (fun _ k => XS.istore X0.here hx rfl (hb hby at_12) rfl (l' := #[.val (.long q0), .second, .val (.long q1), .second, .val (.int p2), .val (.int p3), .val (.int p4), .val (.int pm), .val (.int ((p4 >>> ((2 : Int32) &&& 31)) &&& (3 : Int32))), .unset, .unset, .unset, .unset, .unset, .unset, .unset, .unset, .unset]) rfl k) ?_
  show own_G _ _ _ _ _ _ _ (s₁.setTop (mkF m 14 #[.val (.long q0), .second, .val (.long q1), .second, .val (.int p2), .val (.int p3), .val (.int p4), .val (.int pm), .val (.int ((p4 >>> ((2 : Int32) &&& 31)) &&& (3 : Int32))), .unset, .unset, .unset, .unset, .unset, .unset, .unset, .unset, .unset] []))
  generalize hnim : ((p4 >>> ((2 : Int32) &&& 31)) &&& (3 : Int32)) = im
  show own_G _ _ _ _ _ _ _ (s₁.setTop (mkF m 14 #[.val (.long q0), .second, .val (.long q1), .second, .val (.int p2), .val (.int p3), .val (.int p4), .val (.int pm), .val (.int im), .unset, .unset, .unset, .unset, .unset, .unset, .unset, .unset, .unset] []))
  refine own_by (fun _ k => XT.lloadN X0.here hx rfl (hb hby at_14) rfl  k) ?_
  show own_G _ _ _ _ _ _ _ (s₁.setTop (mkF m 15 #[.val (.long q0), .second, .val (.long q1), .second, .val (.int p2), .val (.int p3), .val (.int p4), .val (.int pm), .val (.int im), .unset, .unset, .unset, .unset, .unset, .unset, .unset, .unset, .unset] [(.long q1)]))
  refine own_by (fun _ k => XT.lstore X0.here hx rfl (hb hby at_15) rfl (l' := #[.val (.long q0), .second, .val (.long q1), .second, .val (.int p2), .val (.int p3), .val (.int p4), .val (.int pm), .val (.int im), .val (.long q1), .second, .unset, .unset, .unset, .unset, .unset, .unset, .unset]) rfl k) ?_
  have J54 : ∀ (Tj14 : State) (lj14 : List Loc) (Xj14 : Stand p l e room_1 s m #[(.long q0), (.long q1), (.int p2), (.int p3), (.int p4)] below meth c Tj14 lj14 0 0) (Nj14 : Fr n0 lj14) (ej14 : Tj14.heap = h0) (p2v : Int64), own_G p.tables e below s (own_Q0 Z q0 q1 p2 p3 p4 h0 n0) room_1.cells room_1.slots (Tj14.setTop (mkF m 54 #[.val (.long q0), .second, .val (.long q1), .second, .val (.int p2), .val (.int p3), .val (.int p4), .val (.int pm), .val (.int im), .val (.long p2v), .second, .unset, .unset, .unset, .unset, .unset, .unset, .unset] [])) := by
    intro Tj14 lj14 Xj14 Nj14 ej14 p2v
    show own_G _ _ _ _ _ _ _ (Tj14.setTop (mkF m 54 #[.val (.long q0), .second, .val (.long q1), .second, .val (.int p2), .val (.int p3), .val (.int p4), .val (.int pm), .val (.int im), .val (.long p2v), .second, .unset, .unset, .unset, .unset, .unset, .unset, .unset] []))
    refine own_by (fun _ k => XS.iload Xj14.here hx rfl (hb hby at_54) rfl  k) ?_
    show own_G _ _ _ _ _ _ _ (Tj14.setTop (mkF m 56 #[.val (.long q0), .second, .val (.long q1), .second, .val (.int p2), .val (.int p3), .val (.int p4), .val (.int pm), .val (.int im), .val (.long p2v), .second, .unset, .unset, .unset, .unset, .unset, .unset, .unset] [(.int p2)]))
    refine own_by (Xj14.ldcInt hx hown (mvT hZ (hw _ (List.mem_of_getElem? (i := 0) rfl))) (g := (mkF m 56 #[.val (.long q0), .second, .val (.long q1), .second, .val (.int p2), .val (.int p3), .val (.int p4), .val (.int pm), .val (.int im), .val (.long p2v), .second, .unset, .unset, .unset, .unset, .unset, .unset, .unset] [(.int p2)])) rfl (hb hby at_56)) ?_
    show own_G _ _ _ _ _ _ _ (Tj14.setTop (mkF m 58 #[.val (.long q0), .second, .val (.long q1), .second, .val (.int p2), .val (.int p3), .val (.int p4), .val (.int pm), .val (.int im), .val (.long p2v), .second, .unset, .unset, .unset, .unset, .unset, .unset, .unset] [(.int (2147483647 : Int32)), (.int p2)]))
    refine own_by (fun _ k => XS.iand Xj14.here hx rfl (hb hby at_58) rfl k) ?_
    show own_G _ _ _ _ _ _ _ (Tj14.setTop (mkF m 59 #[.val (.long q0), .second, .val (.long q1), .second, .val (.int p2), .val (.int p3), .val (.int p4), .val (.int pm), .val (.int im), .val (.long p2v), .second, .unset, .unset, .unset, .unset, .unset, .unset, .unset] [(.int (p2 &&& (2147483647 : Int32)))]))
    refine own_by (fun _ k => XS.istore Xj14.here hx rfl (hb hby at_59) rfl (l' := #[.val (.long q0), .second, .val (.long q1), .second, .val (.int p2), .val (.int p3), .val (.int p4), .val (.int pm), .val (.int im), .val (.long p2v), .second, .val (.int (p2 &&& (2147483647 : Int32))), .unset, .unset, .unset, .unset, .unset, .unset]) rfl k) ?_
    show own_G _ _ _ _ _ _ _ (Tj14.setTop (mkF m 61 #[.val (.long q0), .second, .val (.long q1), .second, .val (.int p2), .val (.int p3), .val (.int p4), .val (.int pm), .val (.int im), .val (.long p2v), .second, .val (.int (p2 &&& (2147483647 : Int32))), .unset, .unset, .unset, .unset, .unset, .unset] []))
    have hi1 : ¬ ((p2 &&& (2147483647 : Int32))) < (0 : Int32) := own_msk _
    generalize (p2 &&& (2147483647 : Int32)) = i1 at hi1 ⊢
    show own_G _ _ _ _ _ _ _ (Tj14.setTop (mkF m 61 #[.val (.long q0), .second, .val (.long q1), .second, .val (.int p2), .val (.int p3), .val (.int p4), .val (.int pm), .val (.int im), .val (.long p2v), .second, .val (.int i1), .unset, .unset, .unset, .unset, .unset, .unset] []))
    refine own_by (fun _ k => XS.iload Xj14.here hx rfl (hb hby at_61) rfl  k) ?_
    show own_G _ _ _ _ _ _ _ (Tj14.setTop (mkF m 63 #[.val (.long q0), .second, .val (.long q1), .second, .val (.int p2), .val (.int p3), .val (.int p4), .val (.int pm), .val (.int im), .val (.long p2v), .second, .val (.int i1), .unset, .unset, .unset, .unset, .unset, .unset] [(.int p3)]))
    refine own_by (Xj14.ldcInt hx hown (mvT hZ (hw _ (List.mem_of_getElem? (i := 0) rfl))) (g := (mkF m 63 #[.val (.long q0), .second, .val (.long q1), .second, .val (.int p2), .val (.int p3), .val (.int p4), .val (.int pm), .val (.int im), .val (.long p2v), .second, .val (.int i1), .unset, .unset, .unset, .unset, .unset, .unset] [(.int p3)])) rfl (hb hby at_63)) ?_
    show own_G _ _ _ _ _ _ _ (Tj14.setTop (mkF m 65 #[.val (.long q0), .second, .val (.long q1), .second, .val (.int p2), .val (.int p3), .val (.int p4), .val (.int pm), .val (.int im), .val (.long p2v), .second, .val (.int i1), .unset, .unset, .unset, .unset, .unset, .unset] [(.int (2147483647 : Int32)), (.int p3)]))
    refine own_by (fun _ k => XS.iand Xj14.here hx rfl (hb hby at_65) rfl k) ?_
    show own_G _ _ _ _ _ _ _ (Tj14.setTop (mkF m 66 #[.val (.long q0), .second, .val (.long q1), .second, .val (.int p2), .val (.int p3), .val (.int p4), .val (.int pm), .val (.int im), .val (.long p2v), .second, .val (.int i1), .unset, .unset, .unset, .unset, .unset, .unset] [(.int (p3 &&& (2147483647 : Int32)))]))
    refine own_by (fun _ k => XS.istore Xj14.here hx rfl (hb hby at_66) rfl (l' := #[.val (.long q0), .second, .val (.long q1), .second, .val (.int p2), .val (.int p3), .val (.int p4), .val (.int pm), .val (.int im), .val (.long p2v), .second, .val (.int i1), .val (.int (p3 &&& (2147483647 : Int32))), .unset, .unset, .unset, .unset, .unset]) rfl k) ?_
    have J114 : ∀ (Tj15 : State) (lj15 : List Loc) (Xj15 : Stand p l e room_1 s m #[(.long q0), (.long q1), (.int p2), (.int p3), (.int p4)] below meth c Tj15 lj15 0 0) (Nj15 : Fr n0 lj15) (ej15 : Tj15.heap = h0) (i2 : Int32) (hi2 : ¬ i2 < (0 : Int32)), own_G p.tables e below s (own_Q0 Z q0 q1 p2 p3 p4 h0 n0) room_1.cells room_1.slots (Tj15.setTop (mkF m 114 #[.val (.long q0), .second, .val (.long q1), .second, .val (.int p2), .val (.int p3), .val (.int p4), .val (.int pm), .val (.int im), .val (.long p2v), .second, .val (.int i1), .val (.int i2), .unset, .unset, .unset, .unset, .unset] [])) := by
      intro Tj15 lj15 Xj15 Nj15 ej15 i2 hi2
      show own_G _ _ _ _ _ _ _ (Tj15.setTop (mkF m 114 #[.val (.long q0), .second, .val (.long q1), .second, .val (.int p2), .val (.int p3), .val (.int p4), .val (.int pm), .val (.int im), .val (.long p2v), .second, .val (.int i1), .val (.int i2), .unset, .unset, .unset, .unset, .unset] []))
      obtain ⟨T16, h16, X16, e16, E16, A16, D16, -, st16⟩ := newO Xj15 hx hZ hown (hw _ (List.mem_of_getElem? (i := 1) rfl)) (hw _ (List.mem_of_getElem? (i := 2) rfl)) (hw _ (List.mem_of_getElem? (i := 3) rfl)) ej15 (g := (mkF m 114 #[.val (.long q0), .second, .val (.long q1), .second, .val (.int p2), .val (.int p3), .val (.int p4), .val (.int pm), .val (.int im), .val (.long p2v), .second, .val (.int i1), .val (.int i2), .unset, .unset, .unset, .unset, .unset] [])) rfl (hb hby at_114) (by decide) (by decide)
      obtain ⟨b16, g16⟩ : ∃ z, z = h0.size := ⟨_, rfl⟩
      rw [← g16] at A16 D16 st16
      have g_b16 : n0 ≤ b16 := Nat.le_trans Z0 (Nat.le_of_eq g16.symm)
      refine own_by st16 ?_
      have Z18 : n0 ≤ h16.size := Nat.le_trans Z0 E16.1
      have F16_position : Fld Z h16 b16 "com/example/inua/inua/StoredRecord$ReadingPosition" "position" "J" (.long (0 : Int64)) := D16 (Or.inr (hw _ (List.mem_of_getElem? (i := 11) rfl))) (ty := .long) (by decide)
      have F16_index : Fld Z h16 b16 "com/example/inua/inua/StoredRecord$ReadingPosition" "index" "I" (.int (0 : Int32)) := D16 (Or.inr (hw _ (List.mem_of_getElem? (i := 13) rfl))) (ty := .int) (by decide)
      show own_G _ _ _ _ _ _ _ (T16.setTop (mkF m 117 #[.val (.long q0), .second, .val (.long q1), .second, .val (.int p2), .val (.int p3), .val (.int p4), .val (.int pm), .val (.int im), .val (.long p2v), .second, .val (.int i1), .val (.int i2), .unset, .unset, .unset, .unset, .unset] [(.ref b16)]))
      refine own_by (fun _ k => XS.dup X16.here hx rfl (hb hby at_117) rfl rfl k) ?_
      show own_G _ _ _ _ _ _ _ (T16.setTop (mkF m 118 #[.val (.long q0), .second, .val (.long q1), .second, .val (.int p2), .val (.int p3), .val (.int p4), .val (.int pm), .val (.int im), .val (.long p2v), .second, .val (.int i1), .val (.int i2), .unset, .unset, .unset, .unset, .unset] [(.ref b16), (.ref b16)]))
      refine own_by (fun _ k => XT.lloadN X16.here hx rfl (hb hby at_118) rfl  k) ?_
      show own_G _ _ _ _ _ _ _ (T16.setTop (mkF m 119 #[.val (.long q0), .second, .val (.long q1), .second, .val (.int p2), .val (.int p3), .val (.int p4), .val (.int pm), .val (.int im), .val (.long p2v), .second, .val (.int i1), .val (.int i2), .unset, .unset, .unset, .unset, .unset] [(.long q0), (.ref b16), (.ref b16)]))
      refine own_by (fun _ k => XS.iload X16.here hx rfl (hb hby at_119) rfl  k) ?_
      show own_G _ _ _ _ _ _ _ (T16.setTop (mkF m 121 #[.val (.long q0), .second, .val (.long q1), .second, .val (.int p2), .val (.int p3), .val (.int p4), .val (.int pm), .val (.int im), .val (.long p2v), .second, .val (.int i1), .val (.int i2), .unset, .unset, .unset, .unset, .unset] [(.int i1), (.long q0), (.ref b16), (.ref b16)]))
      obtain ⟨_, _, ⟨T19, L19, k19, n19⟩, -, X19, ⟨Lc19, hQ19, l19, y19, z19⟩, st19⟩ := X16.specialBack hx (y := (⟨"com/example/inua/inua/StoredRecord$ReadingPosition", "<init>", "(JI)V"⟩ : MethodName)) rfl hown (mvT hZ (hw _ (List.mem_of_getElem? (i := 4) rfl))) (mvT hZ (hw _ (List.mem_of_getElem? (i := 5) rfl))) (mvT hZ (hw _ (List.mem_of_getElem? (i := 6) rfl))) (by decide) (backOf (W := 1) (rm5 l Z aw hw [] b16 q0 i1 h16 n0 Z18 A16 F16_position F16_index g_b16 hi1) hZ (hw _ (List.mem_of_getElem? (i := 6) rfl)) (hw _ (List.mem_of_getElem? (i := 3) rfl)) (by decide) (by decide)) (g := (mkF m 121 #[.val (.long q0), .second, .val (.long q1), .second, .val (.int p2), .val (.int p3), .val (.int p4), .val (.int pm), .val (.int im), .val (.long p2v), .second, .val (.int i1), .val (.int i2), .unset, .unset, .unset, .unset, .unset] [(.int i1), (.long q0), (.ref b16), (.ref b16)])) rfl (by rw [hml]; rfl) (Steps.refl _) (a := b16) (argsL := [(.long q0), (.int i1)]) (rest := [(.ref b16)]) (lenOf own_pd2 rfl) rfl (by show 2 * 0 + _ ≤ _; exact Nat.le_of_eq rfl) (hb hby at_121) (fun _ _ => ⟨rfl, e16, (by decide : 1 + 0 ≤ _), (by decide : 2 + 0 ≤ _)⟩)
      dsimp only [Pt.U, Pt.locs, Pt.cells, Pt.slots] at X19 l19 y19 z19 st19 hQ19
      subst l19 y19 z19
      obtain ⟨h19, e19⟩ : ∃ h, T19.heap = h := ⟨_, rfl⟩
      rw [e19] at hQ19
      obtain ⟨rfl, Nq19, K19, E19, G19_0, G19_1⟩ := hQ19
      have N19 := Fr.app Nj15 Nq19
      have F20_0 := A16.keep K19
      have Z21 : n0 ≤ h19.size := Nat.le_trans Z18 K19.1
      refine own_by (fun _ k => st19.trans k) ?_
      show own_G _ _ _ _ _ _ _ (T19.setTop (mkF m 124 #[.val (.long q0), .second, .val (.long q1), .second, .val (.int p2), .val (.int p3), .val (.int p4), .val (.int pm), .val (.int im), .val (.long p2v), .second, .val (.int i1), .val (.int i2), .unset, .unset, .unset, .unset, .unset] [(.ref b16)]))
      refine own_by (fun _ k => XS.astore X19.here hx rfl (hb hby at_124) rfl rfl (l' := #[.val (.long q0), .second, .val (.long q1), .second, .val (.int p2), .val (.int p3), .val (.int p4), .val (.int pm), .val (.int im), .val (.long p2v), .second, .val (.int i1), .val (.int i2), .val (.ref b16), .unset, .unset, .unset, .unset]) rfl k) ?_
      show own_G _ _ _ _ _ _ _ (T19.setTop (mkF m 126 #[.val (.long q0), .second, .val (.long q1), .second, .val (.int p2), .val (.int p3), .val (.int p4), .val (.int pm), .val (.int im), .val (.long p2v), .second, .val (.int i1), .val (.int i2), .val (.ref b16), .unset, .unset, .unset, .unset] []))
      obtain ⟨T22, h22, X22, e22, E22, A22, D22, -, st22⟩ := newO X19 hx hZ hown (hw _ (List.mem_of_getElem? (i := 1) rfl)) (hw _ (List.mem_of_getElem? (i := 2) rfl)) (hw _ (List.mem_of_getElem? (i := 3) rfl)) e19 (g := (mkF m 126 #[.val (.long q0), .second, .val (.long q1), .second, .val (.int p2), .val (.int p3), .val (.int p4), .val (.int pm), .val (.int im), .val (.long p2v), .second, .val (.int i1), .val (.int i2), .val (.ref b16), .unset, .unset, .unset, .unset] [])) rfl (hb hby at_126) (by decide) (by decide)
      obtain ⟨b22, g22⟩ : ∃ z, z = h19.size := ⟨_, rfl⟩
      rw [← g22] at A22 D22 st22
      have ne_b16_b22 : b16 ≠ b22 := Nat.ne_of_lt (Nat.lt_of_lt_of_le E19.lt (Nat.le_of_eq g22.symm))
      have g_b22 : n0 ≤ b22 := Nat.le_trans Z21 (Nat.le_of_eq g22.symm)
      refine own_by st22 ?_
      have F23_0 := E19.ext E22
      have F23_1 := G19_0.ext E22
      have F23_2 := G19_1.ext E22
      have Z24 : n0 ≤ h22.size := Nat.le_trans Z21 E22.1
      have F22_position : Fld Z h22 b22 "com/example/inua/inua/StoredRecord$ReadingPosition" "position" "J" (.long (0 : Int64)) := D22 (Or.inr (hw _ (List.mem_of_getElem? (i := 11) rfl))) (ty := .long) (by decide)
      have F22_index : Fld Z h22 b22 "com/example/inua/inua/StoredRecord$ReadingPosition" "index" "I" (.int (0 : Int32)) := D22 (Or.inr (hw _ (List.mem_of_getElem? (i := 13) rfl))) (ty := .int) (by decide)
      show own_G _ _ _ _ _ _ _ (T22.setTop (mkF m 129 #[.val (.long q0), .second, .val (.long q1), .second, .val (.int p2), .val (.int p3), .val (.int p4), .val (.int pm), .val (.int im), .val (.long p2v), .second, .val (.int i1), .val (.int i2), .val (.ref b16), .unset, .unset, .unset, .unset] [(.ref b22)]))
      refine own_by (fun _ k => XS.dup X22.here hx rfl (hb hby at_129) rfl rfl k) ?_
      show own_G _ _ _ _ _ _ _ (T22.setTop (mkF m 130 #[.val (.long q0), .second, .val (.long q1), .second, .val (.int p2), .val (.int p3), .val (.int p4), .val (.int pm), .val (.int im), .val (.long p2v), .second, .val (.int i1), .val (.int i2), .val (.ref b16), .unset, .unset, .unset, .unset] [(.ref b22), (.ref b22)]))
      refine own_by (fun _ k => XT.lload X22.here hx rfl (hb hby at_130) rfl  k) ?_
      show own_G _ _ _ _ _ _ _ (T22.setTop (mkF m 132 #[.val (.long q0), .second, .val (.long q1), .second, .val (.int p2), .val (.int p3), .val (.int p4), .val (.int pm), .val (.int im), .val (.long p2v), .second, .val (.int i1), .val (.int i2), .val (.ref b16), .unset, .unset, .unset, .unset] [(.long p2v), (.ref b22), (.ref b22)]))
      refine own_by (fun _ k => XS.iload X22.here hx rfl (hb hby at_132) rfl  k) ?_
      show own_G _ _ _ _ _ _ _ (T22.setTop (mkF m 134 #[.val (.long q0), .second, .val (.long q1), .second, .val (.int p2), .val (.int p3), .val (.int p4), .val (.int pm), .val (.int im), .val (.long p2v), .second, .val (.int i1), .val (.int i2), .val (.ref b16), .unset, .unset, .unset, .unset] [(.int i2), (.long p2v), (.ref b22), (.ref b22)]))
      obtain ⟨_, _, ⟨T25, L25, k25, n25⟩, -, X25, ⟨Lc25, hQ25, l25, y25, z25⟩, st25⟩ := X22.specialBack hx (y := (⟨"com/example/inua/inua/StoredRecord$ReadingPosition", "<init>", "(JI)V"⟩ : MethodName)) rfl hown (mvT hZ (hw _ (List.mem_of_getElem? (i := 4) rfl))) (mvT hZ (hw _ (List.mem_of_getElem? (i := 5) rfl))) (mvT hZ (hw _ (List.mem_of_getElem? (i := 6) rfl))) (by decide) (backOf (W := 1) (rm5 l Z aw hw [] b22 p2v i2 h22 n0 Z24 A22 F22_position F22_index g_b22 hi2) hZ (hw _ (List.mem_of_getElem? (i := 6) rfl)) (hw _ (List.mem_of_getElem? (i := 3) rfl)) (by decide) (by decide)) (g := (mkF m 134 #[.val (.long q0), .second, .val (.long q1), .second, .val (.int p2), .val (.int p3), .val (.int p4), .val (.int pm), .val (.int im), .val (.long p2v), .second, .val (.int i1), .val (.int i2), .val (.ref b16), .unset, .unset, .unset, .unset] [(.int i2), (.long p2v), (.ref b22), (.ref b22)])) rfl (by rw [hml]; rfl) (Steps.refl _) (a := b22) (argsL := [(.long p2v), (.int i2)]) (rest := [(.ref b22)]) (lenOf own_pd2 rfl) rfl (by show 2 * 0 + _ ≤ _; exact Nat.le_of_eq rfl) (hb hby at_134) (fun _ _ => ⟨rfl, e22, (by decide : 2 + 0 ≤ _), (by decide : 4 + 0 ≤ _)⟩)
      dsimp only [Pt.U, Pt.locs, Pt.cells, Pt.slots] at X25 l25 y25 z25 st25 hQ25
      subst l25 y25 z25
      obtain ⟨h25, e25⟩ : ∃ h, T25.heap = h := ⟨_, rfl⟩
      rw [e25] at hQ25
      obtain ⟨rfl, Nq25, K25, E25, G25_0, G25_1⟩ := hQ25
      have N25 := Fr.app N19 Nq25
      have F26_0 := F23_0.keep K25
      have F26_1 := F23_1.keep K25 (ninS ne_b16_b22 nin0)
      have F26_2 := F23_2.keep K25 (ninS ne_b16_b22 nin0)
      have F26_3 := A22.keep K25
      have Z27 : n0 ≤ h25.size := Nat.le_trans Z24 K25.1
      refine own_by (fun _ k => st25.trans k) ?_
      show own_G _ _ _ _ _ _ _ (T25.setTop (mkF m 137 #[.val (.long q0), .second, .val (.long q1), .second, .val (.int p2), .val (.int p3), .val (.int p4), .val (.int pm), .val (.int im), .val (.long p2v), .second, .val (.int i1), .val (.int i2), .val (.ref b16), .unset, .unset, .unset, .unset] [(.ref b22)]))
      refine own_by (fun _ k => XS.astore X25.here hx rfl (hb hby at_137) rfl rfl (l' := #[.val (.long q0), .second, .val (.long q1), .second, .val (.int p2), .val (.int p3), .val (.int p4), .val (.int pm), .val (.int im), .val (.long p2v), .second, .val (.int i1), .val (.int i2), .val (.ref b16), .val (.ref b22), .unset, .unset, .unset]) rfl k) ?_
      show own_G _ _ _ _ _ _ _ (T25.setTop (mkF m 139 #[.val (.long q0), .second, .val (.long q1), .second, .val (.int p2), .val (.int p3), .val (.int p4), .val (.int pm), .val (.int im), .val (.long p2v), .second, .val (.int i1), .val (.int i2), .val (.ref b16), .val (.ref b22), .unset, .unset, .unset] []))
      refine own_by (fun _ k => XT.lloadN X25.here hx rfl (hb hby at_139) rfl  k) ?_
      show own_G _ _ _ _ _ _ _ (T25.setTop (mkF m 140 #[.val (.long q0), .second, .val (.long q1), .second, .val (.int p2), .val (.int p3), .val (.int p4), .val (.int pm), .val (.int im), .val (.long p2v), .second, .val (.int i1), .val (.int i2), .val (.ref b16), .val (.ref b22), .unset, .unset, .unset] [(.long q0)]))
      refine own_by (fun _ k => XS.iload X25.here hx rfl (hb hby at_140) rfl  k) ?_
      show own_G _ _ _ _ _ _ _ (T25.setTop (mkF m 142 #[.val (.long q0), .second, .val (.long q1), .second, .val (.int p2), .val (.int p3), .val (.int p4), .val (.int pm), .val (.int im), .val (.long p2v), .second, .val (.int i1), .val (.int i2), .val (.ref b16), .val (.ref b22), .unset, .unset, .unset] [(.int i1), (.long q0)]))
      refine own_by (fun _ k => XT.lload X25.here hx rfl (hb hby at_142) rfl  k) ?_
      show own_G _ _ _ _ _ _ _ (T25.setTop (mkF m 144 #[.val (.long q0), .second, .val (.long q1), .second, .val (.int p2), .val (.int p3), .val (.int p4), .val (.int pm), .val (.int im), .val (.long p2v), .second, .val (.int i1), .val (.int i2), .val (.ref b16), .val (.ref b22), .unset, .unset, .unset] [(.long p2v), (.int i1), (.long q0)]))
      refine own_by (fun _ k => XS.iload X25.here hx rfl (hb hby at_144) rfl  k) ?_
      show own_G _ _ _ _ _ _ _ (T25.setTop (mkF m 146 #[.val (.long q0), .second, .val (.long q1), .second, .val (.int p2), .val (.int p3), .val (.int p4), .val (.int pm), .val (.int im), .val (.long p2v), .second, .val (.int i1), .val (.int i2), .val (.ref b16), .val (.ref b22), .unset, .unset, .unset] [(.int i2), (.long p2v), (.int i1), (.long q0)]))
      obtain ⟨_, _, ⟨T28, L28, k28, n28⟩, -, X28, ⟨Lc28, hQ28, l28, y28, z28⟩, st28⟩ := Jvm.LawKit.callS X25 hx (y := (⟨"com/example/inua/inua/ReadingPositionCompareToPinLaw", "expected", "(JIJI)I"⟩ : MethodName)) hown (mvT hZ (hw _ (List.mem_of_getElem? (i := 14) rfl))) (mvT hZ (hw _ (List.mem_of_getElem? (i := 15) rfl))) (mvT hZ (hw _ (List.mem_of_getElem? (i := 16) rfl))) (mvT hZ (hw _ (List.mem_of_getElem? (i := 17) rfl))) (by decide) (backOf (W := 0) (rm1 l Z aw hw [] q0 i1 p2v i2 h25 n0 Z27 ) hZ (hw _ (List.mem_of_getElem? (i := 17) rfl)) (hw _ (List.mem_of_getElem? (i := 16) rfl)) (by decide) (by decide)) (g := (mkF m 146 #[.val (.long q0), .second, .val (.long q1), .second, .val (.int p2), .val (.int p3), .val (.int p4), .val (.int pm), .val (.int im), .val (.long p2v), .second, .val (.int i1), .val (.int i2), .val (.ref b16), .val (.ref b22), .unset, .unset, .unset] [(.int i2), (.long p2v), (.int i1), (.long q0)])) rfl (by rw [hml]; rfl) (argsL := [(.long q0), (.int i1), (.long p2v), (.int i2)]) (rest := []) (lenOf own_pd3 rfl) rfl (by show 2 * 0 + _ ≤ _; exact Nat.le_of_eq rfl) (hb hby at_146) (fun _ _ => ⟨rfl, e25, (by decide : 2 + 0 ≤ _), (by decide : 4 + 0 ≤ _)⟩)
      dsimp only [Pt.U, Pt.locs, Pt.cells, Pt.slots] at X28 l28 y28 z28 st28 hQ28
      subst l28 y28 z28
      obtain ⟨rfl, Nq28, e28⟩ := hQ28
      have N28 := Fr.app N25 Nq28
      refine own_by (fun _ k => st28 _ k) ?_
      show own_G _ _ _ _ _ _ _ (T28.setTop (mkF m 149 #[.val (.long q0), .second, .val (.long q1), .second, .val (.int p2), .val (.int p3), .val (.int p4), .val (.int pm), .val (.int im), .val (.long p2v), .second, .val (.int i1), .val (.int i2), .val (.ref b16), .val (.ref b22), .unset, .unset, .unset] [(.int (own_exp q0 i1 p2v i2))]))
      refine own_by (fun _ k => XS.istore X28.here hx rfl (hb hby at_149) rfl (l' := #[.val (.long q0), .second, .val (.long q1), .second, .val (.int p2), .val (.int p3), .val (.int p4), .val (.int pm), .val (.int im), .val (.long p2v), .second, .val (.int i1), .val (.int i2), .val (.ref b16), .val (.ref b22), .val (.int (own_exp q0 i1 p2v i2)), .unset, .unset]) rfl k) ?_
      show own_G _ _ _ _ _ _ _ (T28.setTop (mkF m 151 #[.val (.long q0), .second, .val (.long q1), .second, .val (.int p2), .val (.int p3), .val (.int p4), .val (.int pm), .val (.int im), .val (.long p2v), .second, .val (.int i1), .val (.int i2), .val (.ref b16), .val (.ref b22), .val (.int (own_exp q0 i1 p2v i2)), .unset, .unset] []))
      refine own_by (fun _ k => XS.aload X28.here hx rfl (hb hby at_151) rfl rfl k) ?_
      show own_G _ _ _ _ _ _ _ (T28.setTop (mkF m 153 #[.val (.long q0), .second, .val (.long q1), .second, .val (.int p2), .val (.int p3), .val (.int p4), .val (.int pm), .val (.int im), .val (.long p2v), .second, .val (.int i1), .val (.int i2), .val (.ref b16), .val (.ref b22), .val (.int (own_exp q0 i1 p2v i2)), .unset, .unset] [(.ref b16)]))
      refine own_by (fun _ k => XS.aload X28.here hx rfl (hb hby at_153) rfl rfl k) ?_
      show own_G _ _ _ _ _ _ _ (T28.setTop (mkF m 155 #[.val (.long q0), .second, .val (.long q1), .second, .val (.int p2), .val (.int p3), .val (.int p4), .val (.int pm), .val (.int im), .val (.long p2v), .second, .val (.int i1), .val (.int i2), .val (.ref b16), .val (.ref b22), .val (.int (own_exp q0 i1 p2v i2)), .unset, .unset] [(.ref b22), (.ref b16)]))
      obtain ⟨cq29, kq29, q29a, q29b, q29c⟩ := isOf hZ e28 F26_0
      obtain ⟨_, _, ⟨T29, L29, k29, n29⟩, -, X29, ⟨Lc29, hQ29, l29, y29, z29⟩, st29⟩ := X28.virtualBack hx (y := (⟨"com/example/inua/inua/StoredRecord$ReadingPosition", "compareTo", "(Lcom/example/inua/inua/StoredRecord$ReadingPosition;)I"⟩ : MethodName)) (z := (⟨"com/example/inua/inua/StoredRecord$ReadingPosition", "compareTo", "(Lcom/example/inua/inua/StoredRecord$ReadingPosition;)I"⟩ : MethodName)) hown (mvT hZ (hw _ (List.mem_of_getElem? (i := 18) rfl))) (mvT hZ (hw _ (List.mem_of_getElem? (i := 19) rfl))) (notFace_of_selects (args := #[]) (mvT hZ (hw _ (List.mem_of_getElem? (i := 21) rfl)))) (mvT hZ (hw _ (List.mem_of_getElem? (i := 21) rfl))) (mvT hZ (hw _ (List.mem_of_getElem? (i := 20) rfl))) (by decide) (backOf (W := 0) (rm6 l Z aw hw [] b16 b22 q0 i1 p2v i2 h25 n0 Z27 F26_1 F26_2 G25_0 G25_1) hZ (hw _ (List.mem_of_getElem? (i := 22) rfl)) (hw _ (List.mem_of_getElem? (i := 3) rfl)) (by decide) (by decide)) q29a q29c (g := (mkF m 155 #[.val (.long q0), .second, .val (.long q1), .second, .val (.int p2), .val (.int p3), .val (.int p4), .val (.int pm), .val (.int im), .val (.long p2v), .second, .val (.int i1), .val (.int i2), .val (.ref b16), .val (.ref b22), .val (.int (own_exp q0 i1 p2v i2)), .unset, .unset] [(.ref b22), (.ref b16)])) rfl (by rw [hml]; rfl) (Steps.refl _) (argsL := [(.ref b22)]) (rest := []) (lenOf own_pd4 rfl) rfl (by show 2 * 0 + _ ≤ _; exact Nat.le_of_eq rfl) (hb hby at_155) (fun _ _ => ⟨rfl, e28, (by decide : 2 + 0 ≤ _), (by decide : 4 + 0 ≤ _)⟩)
      dsimp only [Pt.U, Pt.locs, Pt.cells, Pt.slots] at X29 l29 y29 z29 st29 hQ29
      subst l29 y29 z29
      obtain ⟨rfl, Nq29, e29⟩ := hQ29
      have N29 := Fr.app N28 Nq29
      refine own_by (fun _ k => st29.trans k) ?_
      show own_G _ _ _ _ _ _ _ (T29.setTop (mkF m 158 #[.val (.long q0), .second, .val (.long q1), .second, .val (.int p2), .val (.int p3), .val (.int p4), .val (.int pm), .val (.int im), .val (.long p2v), .second, .val (.int i1), .val (.int i2), .val (.ref b16), .val (.ref b22), .val (.int (own_exp q0 i1 p2v i2)), .unset, .unset] [(.int (own_to q0 i1 p2v i2))]))
      obtain ⟨_, _, ⟨T30, L30, k30, n30⟩, -, X30, ⟨Lc30, hQ30, l30, y30, z30⟩, st30⟩ := Jvm.LawKit.callS X29 hx (y := (⟨"com/example/inua/inua/ReadingPositionCompareToPinLaw", "sign", "(I)I"⟩ : MethodName)) hown (mvT hZ (hw _ (List.mem_of_getElem? (i := 27) rfl))) (mvT hZ (hw _ (List.mem_of_getElem? (i := 28) rfl))) (mvT hZ (hw _ (List.mem_of_getElem? (i := 16) rfl))) (mvT hZ (hw _ (List.mem_of_getElem? (i := 29) rfl))) (by decide) (backOf (W := 0) (rm4 l Z aw hw [] (own_to q0 i1 p2v i2) h25 n0 Z27 ) hZ (hw _ (List.mem_of_getElem? (i := 29) rfl)) (hw _ (List.mem_of_getElem? (i := 16) rfl)) (by decide) (by decide)) (g := (mkF m 158 #[.val (.long q0), .second, .val (.long q1), .second, .val (.int p2), .val (.int p3), .val (.int p4), .val (.int pm), .val (.int im), .val (.long p2v), .second, .val (.int i1), .val (.int i2), .val (.ref b16), .val (.ref b22), .val (.int (own_exp q0 i1 p2v i2)), .unset, .unset] [(.int (own_to q0 i1 p2v i2))])) rfl (by rw [hml]; rfl) (argsL := [(.int (own_to q0 i1 p2v i2))]) (rest := []) (lenOf own_pd5 rfl) rfl (by show 2 * 0 + _ ≤ _; exact Nat.le_of_eq rfl) (hb hby at_158) (fun _ _ => ⟨rfl, e29, (by decide : 2 + 0 ≤ _), (by decide : 4 + 0 ≤ _)⟩)
      dsimp only [Pt.U, Pt.locs, Pt.cells, Pt.slots] at X30 l30 y30 z30 st30 hQ30
      subst l30 y30 z30
      obtain ⟨rfl, Nq30, e30⟩ := hQ30
      have N30 := Fr.app N29 Nq30
      refine own_by (fun _ k => st30 _ k) ?_
      show own_G _ _ _ _ _ _ _ (T30.setTop (mkF m 161 #[.val (.long q0), .second, .val (.long q1), .second, .val (.int p2), .val (.int p3), .val (.int p4), .val (.int pm), .val (.int im), .val (.long p2v), .second, .val (.int i1), .val (.int i2), .val (.ref b16), .val (.ref b22), .val (.int (own_exp q0 i1 p2v i2)), .unset, .unset] [(.int (own_sign (own_to q0 i1 p2v i2)))]))
      refine own_by (fun _ k => XS.istore X30.here hx rfl (hb hby at_161) rfl (l' := #[.val (.long q0), .second, .val (.long q1), .second, .val (.int p2), .val (.int p3), .val (.int p4), .val (.int pm), .val (.int im), .val (.long p2v), .second, .val (.int i1), .val (.int i2), .val (.ref b16), .val (.ref b22), .val (.int (own_exp q0 i1 p2v i2)), .val (.int (own_sign (own_to q0 i1 p2v i2))), .unset]) rfl k) ?_
      show own_G _ _ _ _ _ _ _ (T30.setTop (mkF m 163 #[.val (.long q0), .second, .val (.long q1), .second, .val (.int p2), .val (.int p3), .val (.int p4), .val (.int pm), .val (.int im), .val (.long p2v), .second, .val (.int i1), .val (.int i2), .val (.ref b16), .val (.ref b22), .val (.int (own_exp q0 i1 p2v i2)), .val (.int (own_sign (own_to q0 i1 p2v i2))), .unset] []))
      refine own_by (fun _ k => XS.aload X30.here hx rfl (hb hby at_163) rfl rfl k) ?_
      show own_G _ _ _ _ _ _ _ (T30.setTop (mkF m 165 #[.val (.long q0), .second, .val (.long q1), .second, .val (.int p2), .val (.int p3), .val (.int p4), .val (.int pm), .val (.int im), .val (.long p2v), .second, .val (.int i1), .val (.int i2), .val (.ref b16), .val (.ref b22), .val (.int (own_exp q0 i1 p2v i2)), .val (.int (own_sign (own_to q0 i1 p2v i2))), .unset] [(.ref b22)]))
      refine own_by (fun _ k => XS.aload X30.here hx rfl (hb hby at_165) rfl rfl k) ?_
      show own_G _ _ _ _ _ _ _ (T30.setTop (mkF m 167 #[.val (.long q0), .second, .val (.long q1), .second, .val (.int p2), .val (.int p3), .val (.int p4), .val (.int pm), .val (.int im), .val (.long p2v), .second, .val (.int i1), .val (.int i2), .val (.ref b16), .val (.ref b22), .val (.int (own_exp q0 i1 p2v i2)), .val (.int (own_sign (own_to q0 i1 p2v i2))), .unset] [(.ref b16), (.ref b22)]))
      obtain ⟨cq31, kq31, q31a, q31b, q31c⟩ := isOf hZ e30 E25
      obtain ⟨_, _, ⟨T31, L31, k31, n31⟩, -, X31, ⟨Lc31, hQ31, l31, y31, z31⟩, st31⟩ := X30.virtualBack hx (y := (⟨"com/example/inua/inua/StoredRecord$ReadingPosition", "compareTo", "(Lcom/example/inua/inua/StoredRecord$ReadingPosition;)I"⟩ : MethodName)) (z := (⟨"com/example/inua/inua/StoredRecord$ReadingPosition", "compareTo", "(Lcom/example/inua/inua/StoredRecord$ReadingPosition;)I"⟩ : MethodName)) hown (mvT hZ (hw _ (List.mem_of_getElem? (i := 18) rfl))) (mvT hZ (hw _ (List.mem_of_getElem? (i := 19) rfl))) (notFace_of_selects (args := #[]) (mvT hZ (hw _ (List.mem_of_getElem? (i := 21) rfl)))) (mvT hZ (hw _ (List.mem_of_getElem? (i := 21) rfl))) (mvT hZ (hw _ (List.mem_of_getElem? (i := 20) rfl))) (by decide) (backOf (W := 0) (rm6 l Z aw hw [] b22 b16 p2v i2 q0 i1 h25 n0 Z27 G25_0 G25_1 F26_1 F26_2) hZ (hw _ (List.mem_of_getElem? (i := 22) rfl)) (hw _ (List.mem_of_getElem? (i := 3) rfl)) (by decide) (by decide)) q31a q31c (g := (mkF m 167 #[.val (.long q0), .second, .val (.long q1), .second, .val (.int p2), .val (.int p3), .val (.int p4), .val (.int pm), .val (.int im), .val (.long p2v), .second, .val (.int i1), .val (.int i2), .val (.ref b16), .val (.ref b22), .val (.int (own_exp q0 i1 p2v i2)), .val (.int (own_sign (own_to q0 i1 p2v i2))), .unset] [(.ref b16), (.ref b22)])) rfl (by rw [hml]; rfl) (Steps.refl _) (argsL := [(.ref b16)]) (rest := []) (lenOf own_pd4 rfl) rfl (by show 2 * 0 + _ ≤ _; exact Nat.le_of_eq rfl) (hb hby at_167) (fun _ _ => ⟨rfl, e30, (by decide : 2 + 0 ≤ _), (by decide : 4 + 0 ≤ _)⟩)
      dsimp only [Pt.U, Pt.locs, Pt.cells, Pt.slots] at X31 l31 y31 z31 st31 hQ31
      subst l31 y31 z31
      obtain ⟨rfl, Nq31, e31⟩ := hQ31
      have N31 := Fr.app N30 Nq31
      refine own_by (fun _ k => st31.trans k) ?_
      show own_G _ _ _ _ _ _ _ (T31.setTop (mkF m 170 #[.val (.long q0), .second, .val (.long q1), .second, .val (.int p2), .val (.int p3), .val (.int p4), .val (.int pm), .val (.int im), .val (.long p2v), .second, .val (.int i1), .val (.int i2), .val (.ref b16), .val (.ref b22), .val (.int (own_exp q0 i1 p2v i2)), .val (.int (own_sign (own_to q0 i1 p2v i2))), .unset] [(.int (own_to p2v i2 q0 i1))]))
      obtain ⟨_, _, ⟨T32, L32, k32, n32⟩, -, X32, ⟨Lc32, hQ32, l32, y32, z32⟩, st32⟩ := Jvm.LawKit.callS X31 hx (y := (⟨"com/example/inua/inua/ReadingPositionCompareToPinLaw", "sign", "(I)I"⟩ : MethodName)) hown (mvT hZ (hw _ (List.mem_of_getElem? (i := 27) rfl))) (mvT hZ (hw _ (List.mem_of_getElem? (i := 28) rfl))) (mvT hZ (hw _ (List.mem_of_getElem? (i := 16) rfl))) (mvT hZ (hw _ (List.mem_of_getElem? (i := 29) rfl))) (by decide) (backOf (W := 0) (rm4 l Z aw hw [] (own_to p2v i2 q0 i1) h25 n0 Z27 ) hZ (hw _ (List.mem_of_getElem? (i := 29) rfl)) (hw _ (List.mem_of_getElem? (i := 16) rfl)) (by decide) (by decide)) (g := (mkF m 170 #[.val (.long q0), .second, .val (.long q1), .second, .val (.int p2), .val (.int p3), .val (.int p4), .val (.int pm), .val (.int im), .val (.long p2v), .second, .val (.int i1), .val (.int i2), .val (.ref b16), .val (.ref b22), .val (.int (own_exp q0 i1 p2v i2)), .val (.int (own_sign (own_to q0 i1 p2v i2))), .unset] [(.int (own_to p2v i2 q0 i1))])) rfl (by rw [hml]; rfl) (argsL := [(.int (own_to p2v i2 q0 i1))]) (rest := []) (lenOf own_pd5 rfl) rfl (by show 2 * 0 + _ ≤ _; exact Nat.le_of_eq rfl) (hb hby at_170) (fun _ _ => ⟨rfl, e31, (by decide : 2 + 0 ≤ _), (by decide : 4 + 0 ≤ _)⟩)
      dsimp only [Pt.U, Pt.locs, Pt.cells, Pt.slots] at X32 l32 y32 z32 st32 hQ32
      subst l32 y32 z32
      obtain ⟨rfl, Nq32, e32⟩ := hQ32
      have N32 := Fr.app N31 Nq32
      refine own_by (fun _ k => st32 _ k) ?_
      show own_G _ _ _ _ _ _ _ (T32.setTop (mkF m 173 #[.val (.long q0), .second, .val (.long q1), .second, .val (.int p2), .val (.int p3), .val (.int p4), .val (.int pm), .val (.int im), .val (.long p2v), .second, .val (.int i1), .val (.int i2), .val (.ref b16), .val (.ref b22), .val (.int (own_exp q0 i1 p2v i2)), .val (.int (own_sign (own_to q0 i1 p2v i2))), .unset] [(.int (own_sign (own_to p2v i2 q0 i1)))]))
      refine own_by (fun _ k => XS.istore X32.here hx rfl (hb hby at_173) rfl (l' := #[.val (.long q0), .second, .val (.long q1), .second, .val (.int p2), .val (.int p3), .val (.int p4), .val (.int pm), .val (.int im), .val (.long p2v), .second, .val (.int i1), .val (.int i2), .val (.ref b16), .val (.ref b22), .val (.int (own_exp q0 i1 p2v i2)), .val (.int (own_sign (own_to q0 i1 p2v i2))), .val (.int (own_sign (own_to p2v i2 q0 i1)))]) rfl k) ?_
      show own_G _ _ _ _ _ _ _ (T32.setTop (mkF m 175 #[.val (.long q0), .second, .val (.long q1), .second, .val (.int p2), .val (.int p3), .val (.int p4), .val (.int pm), .val (.int im), .val (.long p2v), .second, .val (.int i1), .val (.int i2), .val (.ref b16), .val (.ref b22), .val (.int (own_exp q0 i1 p2v i2)), .val (.int (own_sign (own_to q0 i1 p2v i2))), .val (.int (own_sign (own_to p2v i2 q0 i1)))] []))
      refine own_by (fun _ k => XS.iload X32.here hx rfl (hb hby at_175) rfl  k) ?_
      show own_G _ _ _ _ _ _ _ (T32.setTop (mkF m 177 #[.val (.long q0), .second, .val (.long q1), .second, .val (.int p2), .val (.int p3), .val (.int p4), .val (.int pm), .val (.int im), .val (.long p2v), .second, .val (.int i1), .val (.int i2), .val (.ref b16), .val (.ref b22), .val (.int (own_exp q0 i1 p2v i2)), .val (.int (own_sign (own_to q0 i1 p2v i2))), .val (.int (own_sign (own_to p2v i2 q0 i1)))] [(.int (own_sign (own_to q0 i1 p2v i2)))]))
      refine own_by (fun _ k => XS.iload X32.here hx rfl (hb hby at_177) rfl  k) ?_
      show own_G _ _ _ _ _ _ _ (T32.setTop (mkF m 179 #[.val (.long q0), .second, .val (.long q1), .second, .val (.int p2), .val (.int p3), .val (.int p4), .val (.int pm), .val (.int im), .val (.long p2v), .second, .val (.int i1), .val (.int i2), .val (.ref b16), .val (.ref b22), .val (.int (own_exp q0 i1 p2v i2)), .val (.int (own_sign (own_to q0 i1 p2v i2))), .val (.int (own_sign (own_to p2v i2 q0 i1)))] [(.int (own_exp q0 i1 p2v i2)), (.int (own_sign (own_to q0 i1 p2v i2)))]))
      have hc179 : (own_sign (own_to q0 i1 p2v i2)) = (own_exp q0 i1 p2v i2) := own_ab _ _ _ _
      refine own_by (fun _ k => XS.icmpNo X32.here hx rfl (hb hby at_179) rfl (XT.ii_ne_f hc179) k) ?_
      show own_G _ _ _ _ _ _ _ (T32.setTop (mkF m 182 #[.val (.long q0), .second, .val (.long q1), .second, .val (.int p2), .val (.int p3), .val (.int p4), .val (.int pm), .val (.int im), .val (.long p2v), .second, .val (.int i1), .val (.int i2), .val (.ref b16), .val (.ref b22), .val (.int (own_exp q0 i1 p2v i2)), .val (.int (own_sign (own_to q0 i1 p2v i2))), .val (.int (own_sign (own_to p2v i2 q0 i1)))] []))
      refine own_by (fun _ k => XS.iload X32.here hx rfl (hb hby at_182) rfl  k) ?_
      show own_G _ _ _ _ _ _ _ (T32.setTop (mkF m 184 #[.val (.long q0), .second, .val (.long q1), .second, .val (.int p2), .val (.int p3), .val (.int p4), .val (.int pm), .val (.int im), .val (.long p2v), .second, .val (.int i1), .val (.int i2), .val (.ref b16), .val (.ref b22), .val (.int (own_exp q0 i1 p2v i2)), .val (.int (own_sign (own_to q0 i1 p2v i2))), .val (.int (own_sign (own_to p2v i2 q0 i1)))] [(.int (own_sign (own_to p2v i2 q0 i1)))]))
      refine own_by (fun _ k => XS.iload X32.here hx rfl (hb hby at_184) rfl  k) ?_
      show own_G _ _ _ _ _ _ _ (T32.setTop (mkF m 186 #[.val (.long q0), .second, .val (.long q1), .second, .val (.int p2), .val (.int p3), .val (.int p4), .val (.int pm), .val (.int im), .val (.long p2v), .second, .val (.int i1), .val (.int i2), .val (.ref b16), .val (.ref b22), .val (.int (own_exp q0 i1 p2v i2)), .val (.int (own_sign (own_to q0 i1 p2v i2))), .val (.int (own_sign (own_to p2v i2 q0 i1)))] [(.int (own_exp q0 i1 p2v i2)), (.int (own_sign (own_to p2v i2 q0 i1)))]))
      refine own_by (fun _ k => XS.ineg X32.here hx rfl (hb hby at_186) rfl k) ?_
      show own_G _ _ _ _ _ _ _ (T32.setTop (mkF m 187 #[.val (.long q0), .second, .val (.long q1), .second, .val (.int p2), .val (.int p3), .val (.int p4), .val (.int pm), .val (.int im), .val (.long p2v), .second, .val (.int i1), .val (.int i2), .val (.ref b16), .val (.ref b22), .val (.int (own_exp q0 i1 p2v i2)), .val (.int (own_sign (own_to q0 i1 p2v i2))), .val (.int (own_sign (own_to p2v i2 q0 i1)))] [(.int (-(own_exp q0 i1 p2v i2))), (.int (own_sign (own_to p2v i2 q0 i1)))]))
      have hc187 : (own_sign (own_to p2v i2 q0 i1)) = (-(own_exp q0 i1 p2v i2)) := ((own_ab _ _ _ _).trans (own_ba _ _ _ _))
      refine own_by (fun _ k => XS.icmpNo X32.here hx rfl (hb hby at_187) rfl (XT.ii_ne_f hc187) k) ?_
      show own_G _ _ _ _ _ _ _ (T32.setTop (mkF m 190 #[.val (.long q0), .second, .val (.long q1), .second, .val (.int p2), .val (.int p3), .val (.int p4), .val (.int pm), .val (.int im), .val (.long p2v), .second, .val (.int i1), .val (.int i2), .val (.ref b16), .val (.ref b22), .val (.int (own_exp q0 i1 p2v i2)), .val (.int (own_sign (own_to q0 i1 p2v i2))), .val (.int (own_sign (own_to p2v i2 q0 i1)))] []))
      refine own_by (fun _ k => XS.iconst X32.here hx rfl (hb hby at_190) k) ?_
      show own_G _ _ _ _ _ _ _ (T32.setTop (mkF m 191 #[.val (.long q0), .second, .val (.long q1), .second, .val (.int p2), .val (.int p3), .val (.int p4), .val (.int pm), .val (.int im), .val (.long p2v), .second, .val (.int i1), .val (.int i2), .val (.ref b16), .val (.ref b22), .val (.int (own_exp q0 i1 p2v i2)), .val (.int (own_sign (own_to q0 i1 p2v i2))), .val (.int (own_sign (own_to p2v i2 q0 i1)))] [(.int (1 : Int32))]))
      refine own_by (fun _ k => XS.goto X32.here hx rfl (pc0 := 191) (pc' := 195) rfl (hb hby at_191) (by decide) (by decide) k) ?_
      show own_G _ _ _ _ _ _ _ (T32.setTop (mkF m 195 #[.val (.long q0), .second, .val (.long q1), .second, .val (.int p2), .val (.int p3), .val (.int p4), .val (.int pm), .val (.int im), .val (.long p2v), .second, .val (.int i1), .val (.int i2), .val (.ref b16), .val (.ref b22), .val (.int (own_exp q0 i1 p2v i2)), .val (.int (own_sign (own_to q0 i1 p2v i2))), .val (.int (own_sign (own_to p2v i2 q0 i1)))] [(.int (1 : Int32))]))
      exact own_end X32 (v := some (.int (nar .boolean (1 : Int32)))) (fun h => by rw [Bd.returns] at h; cases h) (BodyLoose.notSynchronized Bd) (fun fs hr => retN X32 hx (t := .boolean) Bd.returns (by simp) (hb hby at_195) hr) (by rw [e32]; exact ⟨rfl, N32⟩) (by decide) (by decide)
    show own_G _ _ _ _ _ _ _ (Tj14.setTop (mkF m 68 #[.val (.long q0), .second, .val (.long q1), .second, .val (.int p2), .val (.int p3), .val (.int p4), .val (.int pm), .val (.int im), .val (.long p2v), .second, .val (.int i1), .val (.int (p3 &&& (2147483647 : Int32))), .unset, .unset, .unset, .unset, .unset] []))
    refine own_by (fun _ k => XS.iload Xj14.here hx rfl (hb hby at_68) rfl  k) ?_
    show own_G _ _ _ _ _ _ _ (Tj14.setTop (mkF m 70 #[.val (.long q0), .second, .val (.long q1), .second, .val (.int p2), .val (.int p3), .val (.int p4), .val (.int pm), .val (.int im), .val (.long p2v), .second, .val (.int i1), .val (.int (p3 &&& (2147483647 : Int32))), .unset, .unset, .unset, .unset, .unset] [(.int im)]))
    refine own_by (fun _ k => XS.iconst Xj14.here hx rfl (hb hby at_70) k) ?_
    show own_G _ _ _ _ _ _ _ (Tj14.setTop (mkF m 71 #[.val (.long q0), .second, .val (.long q1), .second, .val (.int p2), .val (.int p3), .val (.int p4), .val (.int pm), .val (.int im), .val (.long p2v), .second, .val (.int i1), .val (.int (p3 &&& (2147483647 : Int32))), .unset, .unset, .unset, .unset, .unset] [(.int (1 : Int32)), (.int im)]))
    by_cases hc71 : im = (1 : Int32)
    · refine own_by (fun _ k => XS.icmpNo Xj14.here hx rfl (hb hby at_71) rfl (XT.ii_ne_f hc71) k) ?_
      show own_G _ _ _ _ _ _ _ (Tj14.setTop (mkF m 74 #[.val (.long q0), .second, .val (.long q1), .second, .val (.int p2), .val (.int p3), .val (.int p4), .val (.int pm), .val (.int im), .val (.long p2v), .second, .val (.int i1), .val (.int (p3 &&& (2147483647 : Int32))), .unset, .unset, .unset, .unset, .unset] []))
      refine own_by (fun _ k => XS.iload Xj14.here hx rfl (hb hby at_74) rfl  k) ?_
      show own_G _ _ _ _ _ _ _ (Tj14.setTop (mkF m 76 #[.val (.long q0), .second, .val (.long q1), .second, .val (.int p2), .val (.int p3), .val (.int p4), .val (.int pm), .val (.int im), .val (.long p2v), .second, .val (.int i1), .val (.int (p3 &&& (2147483647 : Int32))), .unset, .unset, .unset, .unset, .unset] [(.int i1)]))
      refine own_by (fun _ k => XS.istore Xj14.here hx rfl (hb hby at_76) rfl (l' := #[.val (.long q0), .second, .val (.long q1), .second, .val (.int p2), .val (.int p3), .val (.int p4), .val (.int pm), .val (.int im), .val (.long p2v), .second, .val (.int i1), .val (.int i1), .unset, .unset, .unset, .unset, .unset]) rfl k) ?_
      show own_G _ _ _ _ _ _ _ (Tj14.setTop (mkF m 78 #[.val (.long q0), .second, .val (.long q1), .second, .val (.int p2), .val (.int p3), .val (.int p4), .val (.int pm), .val (.int im), .val (.long p2v), .second, .val (.int i1), .val (.int i1), .unset, .unset, .unset, .unset, .unset] []))
      refine own_by (fun _ k => XS.goto Xj14.here hx rfl (pc0 := 78) (pc' := 114) rfl (hb hby at_78) (by decide) (by decide) k) ?_
      exact J114 Tj14 _ Xj14 Nj14 ej14 i1 (by first | exact hi1 | exact own_msk _)
    · refine own_by (fun _ k => XS.icmpYes Xj14.here hx rfl (pc0 := 71) (pc' := 81) rfl (hb hby at_71) rfl (XT.ii_ne_t hc71) (by decide) (by decide) k) ?_
      show own_G _ _ _ _ _ _ _ (Tj14.setTop (mkF m 81 #[.val (.long q0), .second, .val (.long q1), .second, .val (.int p2), .val (.int p3), .val (.int p4), .val (.int pm), .val (.int im), .val (.long p2v), .second, .val (.int i1), .val (.int (p3 &&& (2147483647 : Int32))), .unset, .unset, .unset, .unset, .unset] []))
      refine own_by (fun _ k => XS.iload Xj14.here hx rfl (hb hby at_81) rfl  k) ?_
      show own_G _ _ _ _ _ _ _ (Tj14.setTop (mkF m 83 #[.val (.long q0), .second, .val (.long q1), .second, .val (.int p2), .val (.int p3), .val (.int p4), .val (.int pm), .val (.int im), .val (.long p2v), .second, .val (.int i1), .val (.int (p3 &&& (2147483647 : Int32))), .unset, .unset, .unset, .unset, .unset] [(.int im)]))
      refine own_by (fun _ k => XS.iconst Xj14.here hx rfl (hb hby at_83) k) ?_
      show own_G _ _ _ _ _ _ _ (Tj14.setTop (mkF m 84 #[.val (.long q0), .second, .val (.long q1), .second, .val (.int p2), .val (.int p3), .val (.int p4), .val (.int pm), .val (.int im), .val (.long p2v), .second, .val (.int i1), .val (.int (p3 &&& (2147483647 : Int32))), .unset, .unset, .unset, .unset, .unset] [(.int (2 : Int32)), (.int im)]))
      by_cases hc84 : im = (2 : Int32)
      · refine own_by (fun _ k => XS.icmpNo Xj14.here hx rfl (hb hby at_84) rfl (XT.ii_ne_f hc84) k) ?_
        show own_G _ _ _ _ _ _ _ (Tj14.setTop (mkF m 87 #[.val (.long q0), .second, .val (.long q1), .second, .val (.int p2), .val (.int p3), .val (.int p4), .val (.int pm), .val (.int im), .val (.long p2v), .second, .val (.int i1), .val (.int (p3 &&& (2147483647 : Int32))), .unset, .unset, .unset, .unset, .unset] []))
        refine own_by (fun _ k => XS.iload Xj14.here hx rfl (hb hby at_87) rfl  k) ?_
        show own_G _ _ _ _ _ _ _ (Tj14.setTop (mkF m 89 #[.val (.long q0), .second, .val (.long q1), .second, .val (.int p2), .val (.int p3), .val (.int p4), .val (.int pm), .val (.int im), .val (.long p2v), .second, .val (.int i1), .val (.int (p3 &&& (2147483647 : Int32))), .unset, .unset, .unset, .unset, .unset] [(.int i1)]))
        refine own_by (fun _ k => XS.iconst Xj14.here hx rfl (hb hby at_89) k) ?_
        show own_G _ _ _ _ _ _ _ (Tj14.setTop (mkF m 90 #[.val (.long q0), .second, .val (.long q1), .second, .val (.int p2), .val (.int p3), .val (.int p4), .val (.int pm), .val (.int im), .val (.long p2v), .second, .val (.int i1), .val (.int (p3 &&& (2147483647 : Int32))), .unset, .unset, .unset, .unset, .unset] [(.int (1 : Int32)), (.int i1)]))
        refine own_by (fun _ k => XS.iadd Xj14.here hx rfl (hb hby at_90) rfl k) ?_
        show own_G _ _ _ _ _ _ _ (Tj14.setTop (mkF m 91 #[.val (.long q0), .second, .val (.long q1), .second, .val (.int p2), .val (.int p3), .val (.int p4), .val (.int pm), .val (.int im), .val (.long p2v), .second, .val (.int i1), .val (.int (p3 &&& (2147483647 : Int32))), .unset, .unset, .unset, .unset, .unset] [(.int (i1 + (1 : Int32)))]))
        refine own_by (Xj14.ldcInt hx hown (mvT hZ (hw _ (List.mem_of_getElem? (i := 0) rfl))) (g := (mkF m 91 #[.val (.long q0), .second, .val (.long q1), .second, .val (.int p2), .val (.int p3), .val (.int p4), .val (.int pm), .val (.int im), .val (.long p2v), .second, .val (.int i1), .val (.int (p3 &&& (2147483647 : Int32))), .unset, .unset, .unset, .unset, .unset] [(.int (i1 + (1 : Int32)))])) rfl (hb hby at_91)) ?_
        show own_G _ _ _ _ _ _ _ (Tj14.setTop (mkF m 93 #[.val (.long q0), .second, .val (.long q1), .second, .val (.int p2), .val (.int p3), .val (.int p4), .val (.int pm), .val (.int im), .val (.long p2v), .second, .val (.int i1), .val (.int (p3 &&& (2147483647 : Int32))), .unset, .unset, .unset, .unset, .unset] [(.int (2147483647 : Int32)), (.int (i1 + (1 : Int32)))]))
        refine own_by (fun _ k => XS.iand Xj14.here hx rfl (hb hby at_93) rfl k) ?_
        show own_G _ _ _ _ _ _ _ (Tj14.setTop (mkF m 94 #[.val (.long q0), .second, .val (.long q1), .second, .val (.int p2), .val (.int p3), .val (.int p4), .val (.int pm), .val (.int im), .val (.long p2v), .second, .val (.int i1), .val (.int (p3 &&& (2147483647 : Int32))), .unset, .unset, .unset, .unset, .unset] [(.int ((i1 + (1 : Int32)) &&& (2147483647 : Int32)))]))
        refine own_by (fun _ k => XS.istore Xj14.here hx rfl (hb hby at_94) rfl (l' := #[.val (.long q0), .second, .val (.long q1), .second, .val (.int p2), .val (.int p3), .val (.int p4), .val (.int pm), .val (.int im), .val (.long p2v), .second, .val (.int i1), .val (.int ((i1 + (1 : Int32)) &&& (2147483647 : Int32))), .unset, .unset, .unset, .unset, .unset]) rfl k) ?_
        show own_G _ _ _ _ _ _ _ (Tj14.setTop (mkF m 96 #[.val (.long q0), .second, .val (.long q1), .second, .val (.int p2), .val (.int p3), .val (.int p4), .val (.int pm), .val (.int im), .val (.long p2v), .second, .val (.int i1), .val (.int ((i1 + (1 : Int32)) &&& (2147483647 : Int32))), .unset, .unset, .unset, .unset, .unset] []))
        refine own_by (fun _ k => XS.goto Xj14.here hx rfl (pc0 := 96) (pc' := 114) rfl (hb hby at_96) (by decide) (by decide) k) ?_
        exact J114 Tj14 _ Xj14 Nj14 ej14 ((i1 + (1 : Int32)) &&& (2147483647 : Int32)) (by first | exact hi1 | exact own_msk _)
      · refine own_by (fun _ k => XS.icmpYes Xj14.here hx rfl (pc0 := 84) (pc' := 99) rfl (hb hby at_84) rfl (XT.ii_ne_t hc84) (by decide) (by decide) k) ?_
        show own_G _ _ _ _ _ _ _ (Tj14.setTop (mkF m 99 #[.val (.long q0), .second, .val (.long q1), .second, .val (.int p2), .val (.int p3), .val (.int p4), .val (.int pm), .val (.int im), .val (.long p2v), .second, .val (.int i1), .val (.int (p3 &&& (2147483647 : Int32))), .unset, .unset, .unset, .unset, .unset] []))
        refine own_by (fun _ k => XS.iload Xj14.here hx rfl (hb hby at_99) rfl  k) ?_
        show own_G _ _ _ _ _ _ _ (Tj14.setTop (mkF m 101 #[.val (.long q0), .second, .val (.long q1), .second, .val (.int p2), .val (.int p3), .val (.int p4), .val (.int pm), .val (.int im), .val (.long p2v), .second, .val (.int i1), .val (.int (p3 &&& (2147483647 : Int32))), .unset, .unset, .unset, .unset, .unset] [(.int im)]))
        refine own_by (fun _ k => XS.iconst Xj14.here hx rfl (hb hby at_101) k) ?_
        show own_G _ _ _ _ _ _ _ (Tj14.setTop (mkF m 102 #[.val (.long q0), .second, .val (.long q1), .second, .val (.int p2), .val (.int p3), .val (.int p4), .val (.int pm), .val (.int im), .val (.long p2v), .second, .val (.int i1), .val (.int (p3 &&& (2147483647 : Int32))), .unset, .unset, .unset, .unset, .unset] [(.int (3 : Int32)), (.int im)]))
        by_cases hc102 : im = (3 : Int32)
        · refine own_by (fun _ k => XS.icmpNo Xj14.here hx rfl (hb hby at_102) rfl (XT.ii_ne_f hc102) k) ?_
          show own_G _ _ _ _ _ _ _ (Tj14.setTop (mkF m 105 #[.val (.long q0), .second, .val (.long q1), .second, .val (.int p2), .val (.int p3), .val (.int p4), .val (.int pm), .val (.int im), .val (.long p2v), .second, .val (.int i1), .val (.int (p3 &&& (2147483647 : Int32))), .unset, .unset, .unset, .unset, .unset] []))
          refine own_by (fun _ k => XS.iload Xj14.here hx rfl (hb hby at_105) rfl  k) ?_
          show own_G _ _ _ _ _ _ _ (Tj14.setTop (mkF m 107 #[.val (.long q0), .second, .val (.long q1), .second, .val (.int p2), .val (.int p3), .val (.int p4), .val (.int pm), .val (.int im), .val (.long p2v), .second, .val (.int i1), .val (.int (p3 &&& (2147483647 : Int32))), .unset, .unset, .unset, .unset, .unset] [(.int i1)]))
          refine own_by (fun _ k => XS.iconst Xj14.here hx rfl (hb hby at_107) k) ?_
          show own_G _ _ _ _ _ _ _ (Tj14.setTop (mkF m 108 #[.val (.long q0), .second, .val (.long q1), .second, .val (.int p2), .val (.int p3), .val (.int p4), .val (.int pm), .val (.int im), .val (.long p2v), .second, .val (.int i1), .val (.int (p3 &&& (2147483647 : Int32))), .unset, .unset, .unset, .unset, .unset] [(.int (1 : Int32)), (.int i1)]))
          refine own_by (fun _ k => XS.isub Xj14.here hx rfl (hb hby at_108) rfl k) ?_
          show own_G _ _ _ _ _ _ _ (Tj14.setTop (mkF m 109 #[.val (.long q0), .second, .val (.long q1), .second, .val (.int p2), .val (.int p3), .val (.int p4), .val (.int pm), .val (.int im), .val (.long p2v), .second, .val (.int i1), .val (.int (p3 &&& (2147483647 : Int32))), .unset, .unset, .unset, .unset, .unset] [(.int (i1 - (1 : Int32)))]))
          refine own_by (Xj14.ldcInt hx hown (mvT hZ (hw _ (List.mem_of_getElem? (i := 0) rfl))) (g := (mkF m 109 #[.val (.long q0), .second, .val (.long q1), .second, .val (.int p2), .val (.int p3), .val (.int p4), .val (.int pm), .val (.int im), .val (.long p2v), .second, .val (.int i1), .val (.int (p3 &&& (2147483647 : Int32))), .unset, .unset, .unset, .unset, .unset] [(.int (i1 - (1 : Int32)))])) rfl (hb hby at_109)) ?_
          show own_G _ _ _ _ _ _ _ (Tj14.setTop (mkF m 111 #[.val (.long q0), .second, .val (.long q1), .second, .val (.int p2), .val (.int p3), .val (.int p4), .val (.int pm), .val (.int im), .val (.long p2v), .second, .val (.int i1), .val (.int (p3 &&& (2147483647 : Int32))), .unset, .unset, .unset, .unset, .unset] [(.int (2147483647 : Int32)), (.int (i1 - (1 : Int32)))]))
          refine own_by (fun _ k => XS.iand Xj14.here hx rfl (hb hby at_111) rfl k) ?_
          show own_G _ _ _ _ _ _ _ (Tj14.setTop (mkF m 112 #[.val (.long q0), .second, .val (.long q1), .second, .val (.int p2), .val (.int p3), .val (.int p4), .val (.int pm), .val (.int im), .val (.long p2v), .second, .val (.int i1), .val (.int (p3 &&& (2147483647 : Int32))), .unset, .unset, .unset, .unset, .unset] [(.int ((i1 - (1 : Int32)) &&& (2147483647 : Int32)))]))
          refine own_by (fun _ k => XS.istore Xj14.here hx rfl (hb hby at_112) rfl (l' := #[.val (.long q0), .second, .val (.long q1), .second, .val (.int p2), .val (.int p3), .val (.int p4), .val (.int pm), .val (.int im), .val (.long p2v), .second, .val (.int i1), .val (.int ((i1 - (1 : Int32)) &&& (2147483647 : Int32))), .unset, .unset, .unset, .unset, .unset]) rfl k) ?_
          exact J114 Tj14 _ Xj14 Nj14 ej14 ((i1 - (1 : Int32)) &&& (2147483647 : Int32)) (by first | exact hi1 | exact own_msk _)
        · refine own_by (fun _ k => XS.icmpYes Xj14.here hx rfl (pc0 := 102) (pc' := 114) rfl (hb hby at_102) rfl (XT.ii_ne_t hc102) (by decide) (by decide) k) ?_
          exact J114 Tj14 _ Xj14 Nj14 ej14 (p3 &&& (2147483647 : Int32)) (by first | exact hi1 | exact own_msk _)
  show own_G _ _ _ _ _ _ _ (s₁.setTop (mkF m 17 #[.val (.long q0), .second, .val (.long q1), .second, .val (.int p2), .val (.int p3), .val (.int p4), .val (.int pm), .val (.int im), .val (.long q1), .second, .unset, .unset, .unset, .unset, .unset, .unset, .unset] []))
  refine own_by (fun _ k => XS.iload X0.here hx rfl (hb hby at_17) rfl  k) ?_
  show own_G _ _ _ _ _ _ _ (s₁.setTop (mkF m 19 #[.val (.long q0), .second, .val (.long q1), .second, .val (.int p2), .val (.int p3), .val (.int p4), .val (.int pm), .val (.int im), .val (.long q1), .second, .unset, .unset, .unset, .unset, .unset, .unset, .unset] [(.int pm)]))
  refine own_by (fun _ k => XS.iconst X0.here hx rfl (hb hby at_19) k) ?_
  show own_G _ _ _ _ _ _ _ (s₁.setTop (mkF m 20 #[.val (.long q0), .second, .val (.long q1), .second, .val (.int p2), .val (.int p3), .val (.int p4), .val (.int pm), .val (.int im), .val (.long q1), .second, .unset, .unset, .unset, .unset, .unset, .unset, .unset] [(.int (1 : Int32)), (.int pm)]))
  by_cases hc20 : pm = (1 : Int32)
  · refine own_by (fun _ k => XS.icmpNo X0.here hx rfl (hb hby at_20) rfl (XT.ii_ne_f hc20) k) ?_
    show own_G _ _ _ _ _ _ _ (s₁.setTop (mkF m 23 #[.val (.long q0), .second, .val (.long q1), .second, .val (.int p2), .val (.int p3), .val (.int p4), .val (.int pm), .val (.int im), .val (.long q1), .second, .unset, .unset, .unset, .unset, .unset, .unset, .unset] []))
    refine own_by (fun _ k => XT.lloadN X0.here hx rfl (hb hby at_23) rfl  k) ?_
    show own_G _ _ _ _ _ _ _ (s₁.setTop (mkF m 24 #[.val (.long q0), .second, .val (.long q1), .second, .val (.int p2), .val (.int p3), .val (.int p4), .val (.int pm), .val (.int im), .val (.long q1), .second, .unset, .unset, .unset, .unset, .unset, .unset, .unset] [(.long q0)]))
    refine own_by (fun _ k => XT.lstore X0.here hx rfl (hb hby at_24) rfl (l' := #[.val (.long q0), .second, .val (.long q1), .second, .val (.int p2), .val (.int p3), .val (.int p4), .val (.int pm), .val (.int im), .val (.long q0), .second, .unset, .unset, .unset, .unset, .unset, .unset, .unset]) rfl k) ?_
    show own_G _ _ _ _ _ _ _ (s₁.setTop (mkF m 26 #[.val (.long q0), .second, .val (.long q1), .second, .val (.int p2), .val (.int p3), .val (.int p4), .val (.int pm), .val (.int im), .val (.long q0), .second, .unset, .unset, .unset, .unset, .unset, .unset, .unset] []))
    refine own_by (fun _ k => XS.goto X0.here hx rfl (pc0 := 26) (pc' := 54) rfl (hb hby at_26) (by decide) (by decide) k) ?_
    exact J54 s₁ _ X0 N0 e0 q0
  · refine own_by (fun _ k => XS.icmpYes X0.here hx rfl (pc0 := 20) (pc' := 29) rfl (hb hby at_20) rfl (XT.ii_ne_t hc20) (by decide) (by decide) k) ?_
    show own_G _ _ _ _ _ _ _ (s₁.setTop (mkF m 29 #[.val (.long q0), .second, .val (.long q1), .second, .val (.int p2), .val (.int p3), .val (.int p4), .val (.int pm), .val (.int im), .val (.long q1), .second, .unset, .unset, .unset, .unset, .unset, .unset, .unset] []))
    refine own_by (fun _ k => XS.iload X0.here hx rfl (hb hby at_29) rfl  k) ?_
    show own_G _ _ _ _ _ _ _ (s₁.setTop (mkF m 31 #[.val (.long q0), .second, .val (.long q1), .second, .val (.int p2), .val (.int p3), .val (.int p4), .val (.int pm), .val (.int im), .val (.long q1), .second, .unset, .unset, .unset, .unset, .unset, .unset, .unset] [(.int pm)]))
    refine own_by (fun _ k => XS.iconst X0.here hx rfl (hb hby at_31) k) ?_
    show own_G _ _ _ _ _ _ _ (s₁.setTop (mkF m 32 #[.val (.long q0), .second, .val (.long q1), .second, .val (.int p2), .val (.int p3), .val (.int p4), .val (.int pm), .val (.int im), .val (.long q1), .second, .unset, .unset, .unset, .unset, .unset, .unset, .unset] [(.int (2 : Int32)), (.int pm)]))
    by_cases hc32 : pm = (2 : Int32)
    · refine own_by (fun _ k => XS.icmpNo X0.here hx rfl (hb hby at_32) rfl (XT.ii_ne_f hc32) k) ?_
      show own_G _ _ _ _ _ _ _ (s₁.setTop (mkF m 35 #[.val (.long q0), .second, .val (.long q1), .second, .val (.int p2), .val (.int p3), .val (.int p4), .val (.int pm), .val (.int im), .val (.long q1), .second, .unset, .unset, .unset, .unset, .unset, .unset, .unset] []))
      refine own_by (fun _ k => XT.lloadN X0.here hx rfl (hb hby at_35) rfl  k) ?_
      show own_G _ _ _ _ _ _ _ (s₁.setTop (mkF m 36 #[.val (.long q0), .second, .val (.long q1), .second, .val (.int p2), .val (.int p3), .val (.int p4), .val (.int pm), .val (.int im), .val (.long q1), .second, .unset, .unset, .unset, .unset, .unset, .unset, .unset] [(.long q0)]))
      refine own_by (fun _ k => XT.lconst X0.here hx rfl (hb hby at_36) k) ?_
      show own_G _ _ _ _ _ _ _ (s₁.setTop (mkF m 37 #[.val (.long q0), .second, .val (.long q1), .second, .val (.int p2), .val (.int p3), .val (.int p4), .val (.int pm), .val (.int im), .val (.long q1), .second, .unset, .unset, .unset, .unset, .unset, .unset, .unset] [(.long (1 : Int64)), (.long q0)]))
      refine own_by (fun _ k => XT.ladd X0.here hx rfl (hb hby at_37) rfl k) ?_
      show own_G _ _ _ _ _ _ _ (s₁.setTop (mkF m 38 #[.val (.long q0), .second, .val (.long q1), .second, .val (.int p2), .val (.int p3), .val (.int p4), .val (.int pm), .val (.int im), .val (.long q1), .second, .unset, .unset, .unset, .unset, .unset, .unset, .unset] [(.long (q0 + (1 : Int64)))]))
      refine own_by (fun _ k => XT.lstore X0.here hx rfl (hb hby at_38) rfl (l' := #[.val (.long q0), .second, .val (.long q1), .second, .val (.int p2), .val (.int p3), .val (.int p4), .val (.int pm), .val (.int im), .val (.long (q0 + (1 : Int64))), .second, .unset, .unset, .unset, .unset, .unset, .unset, .unset]) rfl k) ?_
      show own_G _ _ _ _ _ _ _ (s₁.setTop (mkF m 40 #[.val (.long q0), .second, .val (.long q1), .second, .val (.int p2), .val (.int p3), .val (.int p4), .val (.int pm), .val (.int im), .val (.long (q0 + (1 : Int64))), .second, .unset, .unset, .unset, .unset, .unset, .unset, .unset] []))
      refine own_by (fun _ k => XS.goto X0.here hx rfl (pc0 := 40) (pc' := 54) rfl (hb hby at_40) (by decide) (by decide) k) ?_
      exact J54 s₁ _ X0 N0 e0 (q0 + (1 : Int64))
    · refine own_by (fun _ k => XS.icmpYes X0.here hx rfl (pc0 := 32) (pc' := 43) rfl (hb hby at_32) rfl (XT.ii_ne_t hc32) (by decide) (by decide) k) ?_
      show own_G _ _ _ _ _ _ _ (s₁.setTop (mkF m 43 #[.val (.long q0), .second, .val (.long q1), .second, .val (.int p2), .val (.int p3), .val (.int p4), .val (.int pm), .val (.int im), .val (.long q1), .second, .unset, .unset, .unset, .unset, .unset, .unset, .unset] []))
      refine own_by (fun _ k => XS.iload X0.here hx rfl (hb hby at_43) rfl  k) ?_
      show own_G _ _ _ _ _ _ _ (s₁.setTop (mkF m 45 #[.val (.long q0), .second, .val (.long q1), .second, .val (.int p2), .val (.int p3), .val (.int p4), .val (.int pm), .val (.int im), .val (.long q1), .second, .unset, .unset, .unset, .unset, .unset, .unset, .unset] [(.int pm)]))
      refine own_by (fun _ k => XS.iconst X0.here hx rfl (hb hby at_45) k) ?_
      show own_G _ _ _ _ _ _ _ (s₁.setTop (mkF m 46 #[.val (.long q0), .second, .val (.long q1), .second, .val (.int p2), .val (.int p3), .val (.int p4), .val (.int pm), .val (.int im), .val (.long q1), .second, .unset, .unset, .unset, .unset, .unset, .unset, .unset] [(.int (3 : Int32)), (.int pm)]))
      by_cases hc46 : pm = (3 : Int32)
      · refine own_by (fun _ k => XS.icmpNo X0.here hx rfl (hb hby at_46) rfl (XT.ii_ne_f hc46) k) ?_
        show own_G _ _ _ _ _ _ _ (s₁.setTop (mkF m 49 #[.val (.long q0), .second, .val (.long q1), .second, .val (.int p2), .val (.int p3), .val (.int p4), .val (.int pm), .val (.int im), .val (.long q1), .second, .unset, .unset, .unset, .unset, .unset, .unset, .unset] []))
        refine own_by (fun _ k => XT.lloadN X0.here hx rfl (hb hby at_49) rfl  k) ?_
        show own_G _ _ _ _ _ _ _ (s₁.setTop (mkF m 50 #[.val (.long q0), .second, .val (.long q1), .second, .val (.int p2), .val (.int p3), .val (.int p4), .val (.int pm), .val (.int im), .val (.long q1), .second, .unset, .unset, .unset, .unset, .unset, .unset, .unset] [(.long q0)]))
        refine own_by (fun _ k => XT.lconst X0.here hx rfl (hb hby at_50) k) ?_
        show own_G _ _ _ _ _ _ _ (s₁.setTop (mkF m 51 #[.val (.long q0), .second, .val (.long q1), .second, .val (.int p2), .val (.int p3), .val (.int p4), .val (.int pm), .val (.int im), .val (.long q1), .second, .unset, .unset, .unset, .unset, .unset, .unset, .unset] [(.long (1 : Int64)), (.long q0)]))
        refine own_by (fun _ k => XT.lsub X0.here hx rfl (hb hby at_51) rfl k) ?_
        show own_G _ _ _ _ _ _ _ (s₁.setTop (mkF m 52 #[.val (.long q0), .second, .val (.long q1), .second, .val (.int p2), .val (.int p3), .val (.int p4), .val (.int pm), .val (.int im), .val (.long q1), .second, .unset, .unset, .unset, .unset, .unset, .unset, .unset] [(.long (q0 - (1 : Int64)))]))
        refine own_by (fun _ k => XT.lstore X0.here hx rfl (hb hby at_52) rfl (l' := #[.val (.long q0), .second, .val (.long q1), .second, .val (.int p2), .val (.int p3), .val (.int p4), .val (.int pm), .val (.int im), .val (.long (q0 - (1 : Int64))), .second, .unset, .unset, .unset, .unset, .unset, .unset, .unset]) rfl k) ?_
        exact J54 s₁ _ X0 N0 e0 (q0 - (1 : Int64))
      · refine own_by (fun _ k => XS.icmpYes X0.here hx rfl (pc0 := 46) (pc' := 54) rfl (hb hby at_46) rfl (XT.ii_ne_t hc46) (by decide) (by decide) k) ?_
        exact J54 s₁ _ X0 N0 e0 q1
set_option maxRecDepth 65536 in
set_option maxHeartbeats 40000000 in
theorem comes_1 {Post : Tables → Env → Array Value → State → Outcome → State → Prop} (hpost : ∀ tb e args s v u, (limb_1_1.after args s (.returned v) u = true ∧ limb_1_2.after args s (.returned v) u = true ∧ True) → FrameEnd s (.returned v) u (Jvm.fieldLocs frame_1_writes args s ++ Jvm.arrayLocs frame_1_arrays args s ++ Jvm.staticLocs frame_1_statics s) 16 128 → Post tb e args s (.returned v) u) :
    ArmFor flags0 classFile x code maxLocals ret World_1 tables_1 room_1 Calls_1 rest_1 Pre_1 Post := by
  intro l hfl _ _ p e ha hc hk s m args below hf hA hF happ hP
  obtain ⟨hcalls, hrest, hpre⟩ := hP
  obtain ⟨-, -, -, hnamed, -, -, -, hat⟩ := (Spec.applies_iff hf).mp happ
  obtain ⟨hg, hn⟩ := and_e (Cond.before_iff.mp (show (Jvm.Cond.and given_1 narrow_1).before args s = true from hpre))
  obtain ⟨gc, hg⟩ := and_e hg
  obtain ⟨g0, hg⟩ := and_e hg
  obtain ⟨g1, hg⟩ := and_e hg
  obtain ⟨g2, hg⟩ := and_e hg
  obtain ⟨g3, hg⟩ := and_e hg
  have g4 := hg
  obtain ⟨w0, w1, w2, w3, w4, rfl⟩ : ∃ w0 w1 w2 w3 w4 : Value, args = #[w0, w1, w2, w3, w4] := by
    have hs : args.size = 5 := by simpa [Cond.value, given_1] using gc
    obtain ⟨L⟩ := args
    match L, hs with
    | [w0, w1, w2, w3, w4], _ => exact ⟨w0, w1, w2, w3, w4, rfl⟩
  have hw := fun d (hd : d ∈ tables_1) => atoms_spec (ws := Jvm.Cond.code x code maxLocals ret :: tables_1) hat d (List.mem_cons_of_mem _ hd)
  obtain ⟨i0, ei0⟩ := isL_v g0
  obtain rfl : w0 = (.long i0) := Option.some.inj ei0
  obtain ⟨i1, ei1⟩ := isL_v g1
  obtain rfl : w1 = (.long i1) := Option.some.inj ei1
  obtain ⟨i2, ei2⟩ := is_v g2
  obtain rfl : w2 = (.int i2) := Option.some.inj ei2
  obtain ⟨i3, ei3⟩ := is_v g3
  obtain rfl : w3 = (.int i3) := Option.some.inj ei3
  obtain ⟨i4, ei4⟩ := is_v g4
  obtain rfl : w4 = (.int i4) := Option.some.inj ei4
  obtain ⟨n, o, h1, h2, h3, _, L, rfl, ⟨rfl, N⟩, hq⟩ := rm0 l s _ hw tables_1 i0 i1 i2 i3 i4  s.heap s.heap.size (Nat.le_refl _)  p e ha hc hk s m _ below hf ((Spec.applies_iff_loose hf).mp happ).1 ⟨rfl, State.Warmed39.refl s, rfl⟩ trivial
  refine ⟨n, _, h1, h2, h3, hpost _ _ _ _ _ _ ⟨Cond.after_iff.mpr rfl, Cond.after_iff.mpr (eq_i res_at (Term.int_eval (1)) rfl), trivial⟩ ⟨hq.1, hq.2.1, (hq.2.2.sift fun y hy => Or.inr (N y hy)).mono (by decide) (by decide)⟩⟩
theorem main_1_1 : Claimed_1_1 := comes_1 fun _ _ _ _ _ _ h hF => ⟨h.1, hF⟩
theorem main_1_2 : Claimed_1_2 := comes_1 fun _ _ _ _ _ _ h hF => ⟨h.2.1, hF⟩
end Jvm.Pilot.@@N@@
namespace Jvm.Pilot.@@N@@
open Jvm Jvm.ClassFile Sem Op Lib Jvm.Free Jvm.Stand Jvm.Pilot.@@N@@.Jvm.D
/-! MADE BY PROGRAM (witnessworld.py) out of the Statement's table words and the real class files: 15 classes; the members and pool entries that the words name. The judged class is class 1, her method 3. -/
namespace start1
open Jvm.ClassFile
def u (s : String) : CpInfo := .utf8 (stringToUtf16 s)
/-- a pool by its gaps: so many unusable entries, then the entry; so many at the end -/
def gap : Nat → List CpInfo → List CpInfo
  | 0, r => r
  | n + 1, r => .unusable :: gap n r
def poolList (es : List (Nat × CpInfo)) (last : Nat) : List CpInfo := es.foldr (fun e r => gap e.1 (e.2 :: r)) (gap last [])
def pool (es : List (Nat × CpInfo)) (last : Nat) : Array CpInfo := ⟨poolList es last⟩
def fileOf (pool : Array CpInfo) (this : Nat) (attrs : Array Attribute := #[]) (ms : Array MethodInfo := #[]) (fl : Nat := 33) (sup : Nat := 0) (ifs : Array Nat := #[]) (fds : Array FieldInfo := #[]) : ClassFile where
  minorVersion := 0
  majorVersion := 65
  constantPool := pool
  accessFlags := fl
  thisClass := this
  superClass := sup
  interfaces := ifs
  fields := fds
  methods := ms
  attributes := attrs
def plain (name : String) (sup : Option ClassId) : Class where
  name := name
  kind := .ordinary
  loader := none
  accessFlags := 33
  super := sup
  interfaces := #[]
  cf := none
  fields := #[]
  methods := #[]
  instanceTypes := #[]
  staticTypes := #[]
  resolved := #[]
  callSites := []
  init := .initialized
  statics := none
  mirror := none

def pool0 : Array CpInfo := pool [(5, u "<init>"), (0, u "()V"), (1, .class_ 10), (1, u "java/lang/Object")] 113

def k0c0 : Code := { maxStack := 0, maxLocals := 1, code := object_method_1_code, exceptionTable := #[], attributes := #[] }
def k0m0 : Method := { name := "<init>", desc := "()V", sig := { parameters := [], returnType := none }, accessFlags := 1, code := some k0c0 }
/-- java/lang/Object -/
def k0 : Class := { plain "java/lang/Object" none with
  accessFlags := 33
  interfaces := #[]
  cf := some (fileOf pool0 8 #[] #[{ accessFlags := 1, nameIndex := 5, descriptorIndex := 6, attributes := #[] }] 33 0 #[] #[])
  fields := #[]
  methods := #[k0m0]
  instanceTypes := #[]
  staticTypes := #[]
  resolved := Array.replicate 124 none
  statics := none }

def pool1 : Array CpInfo := pool [(2, .class_ 4), (1, u "java/lang/Object"), (0, u "<init>"), (0, u "()V"), (0, .integer 2147483647), (0, .class_ 9), (0, u "com/example/inua/inua/StoredRecord$ReadingPosition"), (0, .methodref 8 11), (0, .nameAndType 5 12), (0, u "(JI)V"), (0, .methodref 14 15), (0, .class_ 16), (0, .nameAndType 17 18), (0, u "com/example/inua/inua/ReadingPositionCompareToPinLaw"), (0, u "expected"), (0, u "(JIJI)I"), (0, .methodref 8 20), (0, .nameAndType 21 22), (0, u "compareTo"), (0, u "(Lcom/example/inua/inua/StoredRecord$ReadingPosition;)I"), (0, .methodref 14 24), (0, .nameAndType 25 26), (0, u "sign"), (0, u "(I)I"), (3, u "law"), (0, u "(JJIII)Z")] 6

def k1m0 : Method := { name := "<init>", desc := "()V", sig := { parameters := [], returnType := none }, accessFlags := 2, code := none }
def k1c1 : Code := { maxStack := 1, maxLocals := 1, code := method_2_code, exceptionTable := #[], attributes := #[] }
def k1m1 : Method := { name := "sign", desc := "(I)I", sig := { parameters := [.int], returnType := some .int }, accessFlags := 10, code := some k1c1 }
def k1c2 : Code := { maxStack := 4, maxLocals := 6, code := method_3_code, exceptionTable := #[], attributes := #[] }
def k1m2 : Method := { name := "expected", desc := "(JIJI)I", sig := { parameters := [.long, .int, .long, .int], returnType := some .int }, accessFlags := 10, code := some k1c2 }
def k1c3 : Code := { maxStack := 6, maxLocals := 18, code := code, exceptionTable := #[], attributes := #[] }
def k1m3 : Method := { name := "law", desc := "(JJIII)Z", sig := { parameters := [.long, .long, .int, .int, .int], returnType := some .boolean }, accessFlags := 9, code := some k1c3 }
/-- com/example/inua/inua/ReadingPositionCompareToPinLaw -/
def k1 : Class := { plain "com/example/inua/inua/ReadingPositionCompareToPinLaw" (some 0) with
  accessFlags := 49
  interfaces := #[]
  cf := some (fileOf pool1 14 #[] #[{ accessFlags := 2, nameIndex := 5, descriptorIndex := 6, attributes := #[] }, { accessFlags := 10, nameIndex := 25, descriptorIndex := 26, attributes := #[] }, { accessFlags := 10, nameIndex := 17, descriptorIndex := 18, attributes := #[] }, { accessFlags := 9, nameIndex := 30, descriptorIndex := 31, attributes := #[] }] 49 2 #[] #[])
  fields := #[]
  methods := #[k1m0, k1m1, k1m2, k1m3]
  instanceTypes := #[]
  staticTypes := #[]
  resolved := Array.replicate 38 none
  statics := none }

def pool2 : Array CpInfo := pool [(1, .class_ 2), (0, u "java/lang/Comparable"), (0, .class_ 4), (0, u "java/lang/Object")] 7

/-- java/lang/Comparable -/
def k2 : Class := { plain "java/lang/Comparable" (some 0) with
  accessFlags := 1537
  interfaces := #[]
  cf := some (fileOf pool2 1 #[] #[] 1537 3 #[] #[])
  fields := #[]
  methods := #[]
  instanceTypes := #[]
  staticTypes := #[]
  resolved := Array.replicate 12 none
  statics := none }

def pool3 : Array CpInfo := pool [(1, .class_ 2), (0, u "java/lang/Integer"), (0, .methodref 4 5), (0, .class_ 6), (0, .nameAndType 7 8), (0, u "java/lang/Object"), (0, u "<init>"), (0, u "()V"), (9, .fieldref 19 20), (0, .class_ 21), (0, .nameAndType 22 23), (0, u "com/example/inua/inua/StoredRecord$ReadingPosition"), (0, u "position"), (0, u "J"), (0, .fieldref 19 25), (0, .nameAndType 26 27), (0, u "index"), (0, u "I"), (3, u "(JI)V"), (0, .methodref 33 34), (0, .class_ 35), (0, .nameAndType 36 37), (0, u "java/lang/Long"), (0, u "compare"), (0, u "(JJ)I"), (0, .methodref 1 39), (0, .nameAndType 36 40), (0, u "(II)I"), (18, u "compareTo"), (0, u "(Lcom/example/inua/inua/StoredRecord$ReadingPosition;)I"), (0, .class_ 62), (0, u "java/lang/Comparable"), (0, u "END"), (22, .class_ 87), (0, u "com/example/inua/inua/StoredRecord")] 18

def k3c0 : Code := { maxStack := 3, maxLocals := 4, code := prog_24_method_1_code, exceptionTable := #[], attributes := #[] }
def k3m0 : Method := { name := "<init>", desc := "(JI)V", sig := { parameters := [.long, .int], returnType := none }, accessFlags := 1, code := some k3c0 }
def k3c1 : Code := { maxStack := 4, maxLocals := 3, code := prog_24_method_6_code, exceptionTable := #[], attributes := #[] }
def k3m1 : Method := { name := "compareTo", desc := "(Lcom/example/inua/inua/StoredRecord$ReadingPosition;)I", sig := { parameters := [(.object "com/example/inua/inua/StoredRecord$ReadingPosition")], returnType := some .int }, accessFlags := 1, code := some k3c1 }
/-- com/example/inua/inua/StoredRecord$ReadingPosition -/
def k3 : Class := { plain "com/example/inua/inua/StoredRecord$ReadingPosition" (some 0) with
  accessFlags := 49
  interfaces := #[2]
  cf := some (fileOf pool3 19 #[.nestHost 86] #[{ accessFlags := 1, nameIndex := 7, descriptorIndex := 31, attributes := #[] }, { accessFlags := 1, nameIndex := 59, descriptorIndex := 60, attributes := #[] }] 49 4 #[61] #[{ accessFlags := 26, nameIndex := 63, descriptorIndex := 27, attributes := #[] }, { accessFlags := 18, nameIndex := 22, descriptorIndex := 23, attributes := #[] }, { accessFlags := 18, nameIndex := 26, descriptorIndex := 27, attributes := #[] }])
  fields := #[{ name := "END", type := .int, accessFlags := 26, slot := 0, constantValue := 0 }, { name := "position", type := .long, accessFlags := 18, slot := 0, constantValue := 0 }, { name := "index", type := .int, accessFlags := 18, slot := 1, constantValue := 0 }]
  methods := #[k3m0, k3m1]
  instanceTypes := #[.long, .int]
  staticTypes := #[.int]
  resolved := Array.replicate 106 none
  statics := none }

def pool4 : Array CpInfo := pool [(1, .class_ 2), (0, u "java/io/Serializable"), (0, .class_ 4), (0, u "java/lang/Object")] 2

/-- java/io/Serializable -/
def k4 : Class := { plain "java/io/Serializable" (some 0) with
  accessFlags := 1537
  interfaces := #[]
  cf := some (fileOf pool4 1 #[] #[] 1537 3 #[] #[])
  fields := #[]
  methods := #[]
  instanceTypes := #[]
  staticTypes := #[]
  resolved := Array.replicate 7 none
  statics := none }

def pool5 : Array CpInfo := pool [(2, .class_ 4), (1, u "java/lang/Object"), (0, u "<init>"), (0, u "()V"), (1, .class_ 10), (1, u "java/lang/Number"), (2, .class_ 14), (0, u "java/io/Serializable"), (0, u "serialVersionUID"), (0, u "J")] 20

def k5m0 : Method := { name := "<init>", desc := "()V", sig := { parameters := [], returnType := none }, accessFlags := 1, code := none }
/-- java/lang/Number -/
def k5 : Class := { plain "java/lang/Number" (some 0) with
  accessFlags := 1057
  interfaces := #[4]
  cf := some (fileOf pool5 8 #[] #[{ accessFlags := 1, nameIndex := 5, descriptorIndex := 6, attributes := #[] }] 1057 2 #[13] #[{ accessFlags := 26, nameIndex := 15, descriptorIndex := 16, attributes := #[] }])
  fields := #[{ name := "serialVersionUID", type := .long, accessFlags := 26, slot := 0, constantValue := 0 }]
  methods := #[k5m0]
  instanceTypes := #[]
  staticTypes := #[.long]
  resolved := Array.replicate 37 none
  statics := none }

def pool6 : Array CpInfo := pool [(1, .class_ 2), (0, u "java/lang/constant/Constable"), (0, .class_ 4), (0, u "java/lang/Object")] 6

/-- java/lang/constant/Constable -/
def k6 : Class := { plain "java/lang/constant/Constable" (some 0) with
  accessFlags := 1537
  interfaces := #[]
  cf := some (fileOf pool6 1 #[] #[] 1537 3 #[] #[])
  fields := #[]
  methods := #[]
  instanceTypes := #[]
  staticTypes := #[]
  resolved := Array.replicate 11 none
  statics := none }

def pool7 : Array CpInfo := pool [(1, .class_ 2), (0, u "java/lang/constant/ConstantDesc"), (0, .class_ 4), (0, u "java/lang/Object")] 32

/-- java/lang/constant/ConstantDesc -/
def k7 : Class := { plain "java/lang/constant/ConstantDesc" (some 0) with
  accessFlags := 1537
  interfaces := #[]
  cf := some (fileOf pool7 1 #[] #[] 1537 3 #[] #[])
  fields := #[]
  methods := #[]
  instanceTypes := #[]
  staticTypes := #[]
  resolved := Array.replicate 37 none
  statics := none }

def pool8 : Array CpInfo := pool [(1, .class_ 2), (0, u "java/lang/Long"), (232, .class_ 237), (1, u "java/lang/Long$LongCache"), (33, .class_ 272), (0, u "java/lang/Number"), (2, u "value"), (0, u "J"), (27, u "compare"), (0, u "(JJ)I"), (55, u "TYPE"), (0, u "Ljava/lang/Class;"), (0, .class_ 364), (0, u "java/lang/Comparable"), (0, .class_ 366), (0, u "java/lang/constant/Constable"), (0, .class_ 368), (0, u "java/lang/constant/ConstantDesc"), (0, u "MIN_VALUE"), (1, u "MAX_VALUE"), (4, u "SIZE"), (0, u "I"), (1, u "BYTES"), (1, u "serialVersionUID")] 142

def k8c0 : Code := { maxStack := 4, maxLocals := 4, code := jdk_35_method_42_code, exceptionTable := #[], attributes := #[] }
def k8m0 : Method := { name := "compare", desc := "(JJ)I", sig := { parameters := [.long, .long], returnType := some .int }, accessFlags := 9, code := some k8c0 }
/-- java/lang/Long -/
def k8 : Class := { plain "java/lang/Long" (some 5) with
  accessFlags := 49
  interfaces := #[2, 6, 7]
  cf := some (fileOf pool8 1 #[.nestMembers #[235]] #[{ accessFlags := 9, nameIndex := 304, descriptorIndex := 305, attributes := #[] }] 49 271 #[363, 365, 367] #[{ accessFlags := 25, nameIndex := 369, descriptorIndex := 276, attributes := #[] }, { accessFlags := 25, nameIndex := 371, descriptorIndex := 276, attributes := #[] }, { accessFlags := 25, nameIndex := 361, descriptorIndex := 362, attributes := #[] }, { accessFlags := 18, nameIndex := 275, descriptorIndex := 276, attributes := #[] }, { accessFlags := 25, nameIndex := 376, descriptorIndex := 377, attributes := #[] }, { accessFlags := 25, nameIndex := 379, descriptorIndex := 377, attributes := #[] }, { accessFlags := 26, nameIndex := 381, descriptorIndex := 276, attributes := #[] }])
  fields := #[{ name := "MIN_VALUE", type := .long, accessFlags := 25, slot := 0, constantValue := 0 }, { name := "MAX_VALUE", type := .long, accessFlags := 25, slot := 1, constantValue := 0 }, { name := "TYPE", type := (.object "java/lang/Class"), accessFlags := 25, slot := 2, constantValue := 0 }, { name := "value", type := .long, accessFlags := 18, slot := 0, constantValue := 0 }, { name := "SIZE", type := .int, accessFlags := 25, slot := 3, constantValue := 0 }, { name := "BYTES", type := .int, accessFlags := 25, slot := 4, constantValue := 0 }, { name := "serialVersionUID", type := .long, accessFlags := 26, slot := 5, constantValue := 0 }]
  methods := #[k8m0]
  instanceTypes := #[.long]
  staticTypes := #[.long, .long, (.object "java/lang/Class"), .int, .int, .long]
  resolved := Array.replicate 524 none
  statics := none }

def pool9 : Array CpInfo := pool [(1, .class_ 2), (0, u "java/lang/Integer"), (16, u "digits"), (0, u "[C"), (39, u "(II)I"), (24, u "DigitOnes"), (0, u "[B"), (2, u "DigitTens"), (99, .class_ 190), (0, u "java/lang/Integer$IntegerCache"), (3, u "I"), (8, .class_ 204), (0, u "java/lang/Number"), (2, u "value"), (53, u "compare"), (40, u "TYPE"), (0, u "Ljava/lang/Class;"), (0, .class_ 305), (0, u "java/lang/Comparable"), (0, .class_ 307), (0, u "java/lang/constant/Constable"), (0, .class_ 309), (0, u "java/lang/constant/ConstantDesc"), (0, u "MIN_VALUE"), (1, u "MAX_VALUE"), (3, u "SIZE"), (1, u "BYTES"), (1, u "serialVersionUID"), (0, u "J")] 131

def k9c0 : Code := { maxStack := 2, maxLocals := 2, code := jdk_33_method_40_code, exceptionTable := #[], attributes := #[] }
def k9m0 : Method := { name := "compare", desc := "(II)I", sig := { parameters := [.int, .int], returnType := some .int }, accessFlags := 9, code := some k9c0 }
/-- java/lang/Integer -/
def k9 : Class := { plain "java/lang/Integer" (some 5) with
  accessFlags := 49
  interfaces := #[2, 6, 7]
  cf := some (fileOf pool9 1 #[.nestMembers #[189]] #[{ accessFlags := 9, nameIndex := 261, descriptorIndex := 60, attributes := #[] }] 49 203 #[304, 306, 308] #[{ accessFlags := 25, nameIndex := 310, descriptorIndex := 194, attributes := #[] }, { accessFlags := 25, nameIndex := 312, descriptorIndex := 194, attributes := #[] }, { accessFlags := 25, nameIndex := 302, descriptorIndex := 303, attributes := #[] }, { accessFlags := 24, nameIndex := 19, descriptorIndex := 20, attributes := #[] }, { accessFlags := 24, nameIndex := 89, descriptorIndex := 86, attributes := #[] }, { accessFlags := 24, nameIndex := 85, descriptorIndex := 86, attributes := #[] }, { accessFlags := 18, nameIndex := 207, descriptorIndex := 194, attributes := #[] }, { accessFlags := 25, nameIndex := 316, descriptorIndex := 194, attributes := #[] }, { accessFlags := 25, nameIndex := 318, descriptorIndex := 194, attributes := #[] }, { accessFlags := 26, nameIndex := 320, descriptorIndex := 321, attributes := #[] }])
  fields := #[{ name := "MIN_VALUE", type := .int, accessFlags := 25, slot := 0, constantValue := 0 }, { name := "MAX_VALUE", type := .int, accessFlags := 25, slot := 1, constantValue := 0 }, { name := "TYPE", type := (.object "java/lang/Class"), accessFlags := 25, slot := 2, constantValue := 0 }, { name := "digits", type := (.array .char), accessFlags := 24, slot := 3, constantValue := 0 }, { name := "DigitTens", type := (.array .byte), accessFlags := 24, slot := 4, constantValue := 0 }, { name := "DigitOnes", type := (.array .byte), accessFlags := 24, slot := 5, constantValue := 0 }, { name := "value", type := .int, accessFlags := 18, slot := 0, constantValue := 0 }, { name := "SIZE", type := .int, accessFlags := 25, slot := 6, constantValue := 0 }, { name := "BYTES", type := .int, accessFlags := 25, slot := 7, constantValue := 0 }, { name := "serialVersionUID", type := .long, accessFlags := 26, slot := 8, constantValue := 0 }]
  methods := #[k9m0]
  instanceTypes := #[.int]
  staticTypes := #[.int, .int, (.object "java/lang/Class"), (.array .char), (.array .byte), (.array .byte), .int, .int, .long]
  resolved := Array.replicate 453 none
  statics := none }

def pool10 : Array CpInfo := pool [(1, u "java/lang/Cloneable"), (0, .class_ 1), (0, u "java/lang/Object"), (0, .class_ 3)] 3

/-- java/lang/Cloneable -/
def k10 : Class := { plain "java/lang/Cloneable" (some 0) with
  accessFlags := 1537
  interfaces := #[]
  cf := some (fileOf pool10 2 #[] #[] 1537 4 #[] #[])
  fields := #[]
  methods := #[]
  instanceTypes := #[]
  staticTypes := #[]
  resolved := Array.replicate 8 none
  statics := none }

/-- the primitive byte -/
def k11 : Class := { plain "byte" none with kind := .primitive 'B', accessFlags := 0x411 }
/-- [B -/
def k12 : Class := { plain "[B" (some 0) with kind := .array 11 .byte, interfaces := #[10, 4], accessFlags := 1041 }

/-- the primitive int -/
def k13 : Class := { plain "int" none with kind := .primitive 'I', accessFlags := 0x411 }
/-- [I -/
def k14 : Class := { plain "[I" (some 0) with kind := .array 13 .int, interfaces := #[10, 4], accessFlags := 1041 }

def heap : Heap := #[]
def classes : Array Class := #[k0, k1, k2, k3, k4, k5, k6, k7, k8, k9, k10, k11, k12, k13, k14]
def interned : List (Array UInt16 × Addr) := []
def slotsUsed : Nat := 0
def theMethod : MethodId := ⟨1, 3⟩
def args0 : Array Value := #[.long 5, .long 5, .int 5, .int 5, .int 5]
def aboutOver (below : List Frame) : State where
  vm := { classes := classes, interned := interned.toArray }
  heap := heap
  slotsUsed := slotsUsed
  threads := #[{ frames := .invoking theMethod args0 :: below }]
def below0 : List Frame := [.native { method := ⟨0, 0⟩, args := #[] }]
def about1 : State := aboutOver below0
def p0 : Program := .bare "" "" ""
def e0 : Env := launch0.env 0 0 0
theorem w_frames : about1.frames = Frame.invoking theMethod args0 :: below0 := rfl
set_option maxRecDepth 65536 in
theorem w_args : argsFit about1.vm theMethod args0 = true := by decide +kernel
set_option maxRecDepth 65536 in
theorem w_heap : heapFits about1 = true := by decide +kernel
set_option maxRecDepth 65536 in
theorem w_runnable : about1.curStatus? = some .runnable := by decide +kernel
set_option maxRecDepth 65536 in
theorem w_alone : about1.alone = true := by decide +kernel
set_option maxRecDepth 65536 in
theorem w_named : about1.methodNamed? x = some theMethod := by decide +kernel
set_option maxRecDepth 65536 in
theorem w_hears : about1.hears theMethod below0 = true := by decide +kernel
set_option maxRecDepth 65536 in
theorem w_ripe : about1.ripe theMethod args0 below0 = true := by decide +kernel
theorem w_running : about1.status = .running := rfl
set_option maxRecDepth 65536 in
theorem w_room : about1.hasRoom e0.platform room_1 = true :=
  launch0.hasRoom_least _ room_1 (by decide +kernel) (by decide +kernel) (by decide +kernel) (by decide +kernel) (by decide +kernel) (by decide +kernel)
theorem allAtoms_all (ts : List Jvm.Cond) (a : Array Jvm.Value) (st : Jvm.State) : (allAtoms ts).before a st = ts.all (fun c => c.before a st) := by
  induction ts with
  | nil => rfl
  | cons c t ih =>
    show (Jvm.Cond.and c (allAtoms t)).before a st = _
    rw [Jvm.Cond.before_and, ih, List.all_cons]
def words1 : List Jvm.Cond := Jvm.Cond.code x code maxLocals ret :: tables_1
/-- a 'code' word, met by the world's own term for the bytes: nothing is compared byte by byte -/
theorem code_word {y : MethodName} {bytes : ByteArray} {mx : Nat} {rt : Option FieldType} {a : Array Value} {s : State} {m : MethodId} {meth : Method} {c : Code} (h1 : s.methodNamed? y = some m) (h2 : s.vm.method? m = some meth) (h3 : meth.code = some c) (h4 : c.code = bytes)
    (h5 : (c.maxLocals == mx && c.exceptionTable.isEmpty && decide (c.maxStack ≤ mostOperands) && decide (meth.sig.returnType = rt) && !meth.locks && decide (parseMethodDescriptor y.desc = some meth.sig)) = true) : (Jvm.Cond.code y bytes mx rt).before a s = true := by
  simp only [Bool.and_eq_true, beq_iff_eq, Bool.not_eq_true', decide_eq_true_eq] at h5
  obtain ⟨⟨⟨⟨⟨g1, g2⟩, g3⟩, g4⟩, g5⟩, g6⟩ := h5
  simp [Cond.before, Cond.holds, Cond.value, h1, h2, h3, h4, g1, g2, g3, g4, g5, g6]
def isCode : Jvm.Cond → Bool
  | .code _ _ _ _ => true
  | _ => false
theorem all_split {L : List Jvm.Cond} {P : Jvm.Cond → Bool} (h1 : L.all (fun c => isCode c || P c) = true) (h2 : ∀ c ∈ L.filter isCode, P c = true) : L.all P = true := by
  refine List.all_eq_true.mpr fun c hc => ?_
  have h := List.all_eq_true.mp h1 c hc
  rcases Bool.eq_false_or_eq_true (isCode c) with hi | hi
  · exact h2 c (List.mem_filter.mpr ⟨hc, hi⟩)
  · simpa [hi] using h
set_option maxRecDepth 65536 in
theorem w_c0 : (Jvm.Cond.code x code maxLocals ret).before args0 about1 = true := code_word (m := ⟨1, 3⟩) (meth := k1m3) (c := k1c3) (by decide +kernel) rfl rfl rfl (by decide +kernel)
set_option maxRecDepth 65536 in
theorem w_c1 : (Jvm.Cond.code ({ cls := "com/example/inua/inua/StoredRecord$ReadingPosition", name := "<init>", desc := "(JI)V" } : Jvm.MethodName) prog_24_method_1_code (4 : Nat) (Option.none : Option Jvm.ClassFile.FieldType)).before args0 about1 = true := code_word (m := ⟨3, 0⟩) (meth := k3m0) (c := k3c0) (by decide +kernel) rfl rfl rfl (by decide +kernel)
set_option maxRecDepth 65536 in
theorem w_c2 : (Jvm.Cond.code ({ cls := "java/lang/Object", name := "<init>", desc := "()V" } : Jvm.MethodName) object_method_1_code (1 : Nat) (Option.none : Option Jvm.ClassFile.FieldType)).before args0 about1 = true := code_word (m := ⟨0, 0⟩) (meth := k0m0) (c := k0c0) (by decide +kernel) rfl rfl rfl (by decide +kernel)
set_option maxRecDepth 65536 in
theorem w_c3 : (Jvm.Cond.code ({ cls := "com/example/inua/inua/ReadingPositionCompareToPinLaw", name := "expected", desc := "(JIJI)I" } : Jvm.MethodName) method_3_code (6 : Nat) (Option.some Jvm.ClassFile.FieldType.int)).before args0 about1 = true := code_word (m := ⟨1, 2⟩) (meth := k1m2) (c := k1c2) (by decide +kernel) rfl rfl rfl (by decide +kernel)
set_option maxRecDepth 65536 in
theorem w_c4 : (Jvm.Cond.code ({ cls := "com/example/inua/inua/StoredRecord$ReadingPosition", name := "compareTo", desc := "(Lcom/example/inua/inua/StoredRecord$ReadingPosition;)I" } : Jvm.MethodName) prog_24_method_6_code (3 : Nat) (Option.some Jvm.ClassFile.FieldType.int)).before args0 about1 = true := code_word (m := ⟨3, 1⟩) (meth := k3m1) (c := k3c1) (by decide +kernel) rfl rfl rfl (by decide +kernel)
set_option maxRecDepth 65536 in
theorem w_c5 : (Jvm.Cond.code ({ cls := "java/lang/Long", name := "compare", desc := "(JJ)I" } : Jvm.MethodName) jdk_35_method_42_code (4 : Nat) (Option.some Jvm.ClassFile.FieldType.int)).before args0 about1 = true := code_word (m := ⟨8, 0⟩) (meth := k8m0) (c := k8c0) (by decide +kernel) rfl rfl rfl (by decide +kernel)
set_option maxRecDepth 65536 in
theorem w_c6 : (Jvm.Cond.code ({ cls := "com/example/inua/inua/ReadingPositionCompareToPinLaw", name := "sign", desc := "(I)I" } : Jvm.MethodName) method_2_code (1 : Nat) (Option.some Jvm.ClassFile.FieldType.int)).before args0 about1 = true := code_word (m := ⟨1, 1⟩) (meth := k1m1) (c := k1c1) (by decide +kernel) rfl rfl rfl (by decide +kernel)
set_option maxRecDepth 65536 in
theorem w_c7 : (Jvm.Cond.code ({ cls := "java/lang/Integer", name := "compare", desc := "(II)I" } : Jvm.MethodName) jdk_33_method_40_code (2 : Nat) (Option.some Jvm.ClassFile.FieldType.int)).before args0 about1 = true := code_word (m := ⟨9, 0⟩) (meth := k9m0) (c := k9c0) (by decide +kernel) rfl rfl rfl (by decide +kernel)
def codes1 : List Jvm.Cond := [Jvm.Cond.code x code maxLocals ret, Jvm.Cond.code ({ cls := "com/example/inua/inua/StoredRecord$ReadingPosition", name := "<init>", desc := "(JI)V" } : Jvm.MethodName) prog_24_method_1_code (4 : Nat) (Option.none : Option Jvm.ClassFile.FieldType), Jvm.Cond.code ({ cls := "java/lang/Object", name := "<init>", desc := "()V" } : Jvm.MethodName) object_method_1_code (1 : Nat) (Option.none : Option Jvm.ClassFile.FieldType), Jvm.Cond.code ({ cls := "com/example/inua/inua/ReadingPositionCompareToPinLaw", name := "expected", desc := "(JIJI)I" } : Jvm.MethodName) method_3_code (6 : Nat) (Option.some Jvm.ClassFile.FieldType.int), Jvm.Cond.code ({ cls := "com/example/inua/inua/StoredRecord$ReadingPosition", name := "compareTo", desc := "(Lcom/example/inua/inua/StoredRecord$ReadingPosition;)I" } : Jvm.MethodName) prog_24_method_6_code (3 : Nat) (Option.some Jvm.ClassFile.FieldType.int), Jvm.Cond.code ({ cls := "java/lang/Long", name := "compare", desc := "(JJ)I" } : Jvm.MethodName) jdk_35_method_42_code (4 : Nat) (Option.some Jvm.ClassFile.FieldType.int), Jvm.Cond.code ({ cls := "com/example/inua/inua/ReadingPositionCompareToPinLaw", name := "sign", desc := "(I)I" } : Jvm.MethodName) method_2_code (1 : Nat) (Option.some Jvm.ClassFile.FieldType.int), Jvm.Cond.code ({ cls := "java/lang/Integer", name := "compare", desc := "(II)I" } : Jvm.MethodName) jdk_33_method_40_code (2 : Nat) (Option.some Jvm.ClassFile.FieldType.int)]
set_option maxRecDepth 65536 in
theorem codes_eq : words1.filter isCode = codes1 := rfl
theorem w_codes : ∀ c ∈ words1.filter isCode, c.before args0 about1 = true := by
  rw [codes_eq]
  intro c hc
  simp only [codes1, List.mem_cons, List.not_mem_nil, or_false] at hc
  rcases hc with rfl | rfl | rfl | rfl | rfl | rfl | rfl | rfl
  · exact w_c0
  · exact w_c1
  · exact w_c2
  · exact w_c3
  · exact w_c4
  · exact w_c5
  · exact w_c6
  · exact w_c7
set_option maxRecDepth 65536 in
theorem w_t1 : (words1.take 24).all (fun c => isCode c || c.before args0 about1) = true := by decide +kernel
set_option maxRecDepth 65536 in
theorem w_t2 : (words1.drop 24).all (fun c => isCode c || c.before args0 about1) = true := by decide +kernel
theorem w_tables : (allAtoms (Jvm.Cond.code x code maxLocals ret :: tables_1)).before args0 about1 = true := by
  rw [allAtoms_all]
  show words1.all (fun c => c.before args0 about1) = true
  refine all_split ?_ w_codes
  rw [← List.take_append_drop 24 words1, List.all_append, w_t1, w_t2]
  rfl
set_option maxRecDepth 65536 in
theorem w_case : (Jvm.Cond.and given_1 narrow_1).before args0 about1 = true := by decide +kernel
theorem w_applies : (headSpec (Jvm.Cond.code x code maxLocals ret :: tables_1) room_1).applies x e0.platform about1 = true :=
  (Spec.applies_iff w_frames).mpr ⟨w_running, w_runnable, w_alone, w_named, w_hears, w_ripe, w_room, w_tables⟩
theorem atStart : AtStart classFile x code maxLocals ret World_1 tables_1 room_1 Calls_1 rest_1 Pre_1 launch0 p0 e0 about1 theMethod args0 below0 :=
  ⟨lists_1, trivial, launch0.admits_env _ _ _, launch0.least_env, fairChoices_fair.cas, fairChoices_fair.clock, w_frames, w_args, w_heap, w_applies, trivial, trivial, w_case⟩
end start1
theorem witness_1 : WitnessClaimed_1 := ⟨start1.p0, start1.e0, start1.about1, start1.theMethod, start1.args0, start1.below0, start1.atStart⟩
end Jvm.Pilot.@@N@@
