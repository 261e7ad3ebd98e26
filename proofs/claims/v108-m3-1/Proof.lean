import JvmDerived
import JvmDerived.Pilot.@@N@@Statement
import JvmDerived.Pilot.@@N@@Code
set_option linter.unusedVariables false
set_option linter.unusedSimpArgs false
namespace Jvm.RoadKit
open Sem ClassFile Op Lib Jvm.Stand Jvm.Free Jvm.LawKit
section New
variable {p : Program} {l : Launch} {e : Env} {R : Room} {s : State} {m : MethodId} {args : Array Value} {below : List Frame} {meth : Method} {c : Code} {T : State} {locs : List Loc} {cells slots : Nat}
theorem retI (X : Stand p l e R s m args below meth c T locs cells slots) (hx : p.tables.exec = Jvm.exec) {pc : Nat} {Ls : Array Slot} {z : Int32} {rest : List Value} (hret : meth.sig.returnType = some .int) (hd : decode c.code pc = .ok (.ireturn, 1)) {fs : List Frame}
    (hl : ∀ (f : JFrame) (acts : List Action), f.method = m → f.locked = none → f.entered = [] → (doReturn e (T.setTop f) acts (some (.int z))).1 = T.setFrames fs) : Steps p.tables e below (T.setTop (mkF m pc Ls (.int z :: rest))) (T.setFrames fs) := by
  have hm' : T.vm.method? m = some meth := X.method'
  have hn : narrow .int (.int z) = .int z := rfl
  show Steps p.tables e below (T.setTop { method := m, pc := pc, locals := Ls, stack := _ :: rest, locked := none }) _
  jvm_step X.here [X.here.top, hx, hd, hm', hret, hn]
  first | (intro acts; rw [hl _ acts rfl rfl rfl]) | rw [hl _ _ rfl rfl rfl]
  exact Steps.refl _
/-- the run from A comes to its end, and there Q holds -/
def own_G (tb : Tables) (e : Env) (below : List Frame) (s : State) (Q : Option Value → Heap → List Loc → Prop) (C S : Nat) (A : State) : Prop :=
  ∃ s₂ o, Steps tb e below A s₂ ∧ s₂.status = .running ∧ Ended s₂ below o ∧ ∃ v L, o = .returned v ∧ Q v s₂.heap L ∧ FrameEnd s o s₂ L C S
theorem own_by {tb : Tables} {Q : Option Value → Heap → List Loc → Prop} {C S : Nat} {A B : State} (st : ∀ t, Steps tb e below B t → Steps tb e below A t) (k : own_G tb e below s Q C S B) : own_G tb e below s Q C S A := by
  obtain ⟨s₂, o, h, r⟩ := k
  exact ⟨s₂, o, st _ h, r⟩
theorem own_end (X : Stand p l e R s m args below meth c T locs cells slots) {v : Option Value} (hv : meth.sig.returnType = none → v = none) (hlk : meth.locks = false) {Q : Option Value → Heap → List Loc → Prop} {C S : Nat} {A : State}
    (st : ∀ fs, (∀ (f : JFrame) (acts : List Action), f.method = m → f.locked = none → f.entered = [] → (doReturn e (T.setTop f) acts v).1 = T.setFrames fs) → Steps p.tables e below A (T.setFrames fs))
    (hQ : Q v T.heap locs) (hc : cells ≤ C) (hs : slots ≤ S) : own_G p.tables e below s Q C S A := by
  obtain ⟨fs, hr, hrun, hended, hW, hsame⟩ := X.leave hv hlk
  exact ⟨_, _, st fs hr, hrun, hended, _, _, rfl, hQ, ⟨_, rfl⟩, hW, hsame.mono hc hs⟩
theorem own_lremM {tb : Tables} [Ours tb] {target : State} {g : JFrame} (h : At T m c below) (hx : tb.exec = Jvm.exec) (hg : g.method = m) {x y : Int64} {rest : List Value} (hd : decode c.code g.pc = .ok (.lrem, 1)) (hs : g.stack = .long y :: .long x :: rest) (hy : y ≠ 0)
    (hr : Steps tb e below (T.setTop { g with pc := g.pc + 1, stack := .long (x % y) :: rest }) target) : Steps tb e below (T.setTop g) target := by
  have q : x - x / y * y = x % y := lrem_mod x y
  exact XT.lrem h hx hg hd hs hy (by rw [q]; exact hr)
end New
end Jvm.RoadKit
namespace Jvm.Pilot.@@N@@
open Jvm Jvm.ClassFile Sem Op Lib Jvm.Free Jvm.Stand Jvm.LawKit Jvm.RoadKit Bundle Jvm.Pilot.@@N@@.Jvm.D
def own_max (a b : Int64) : Int64 := if a < b then b else a
def own_min (a b : Int64) : Int64 := if b < a then b else a
def own_row (o w t : Int64) : Int64 := own_min ((t - o) / w) (9223372036854775806 : Int64)
theorem own_J1 : (1 : Int64).toInt = 1 := by decide
theorem own_J0 : (0 : Int64).toInt = 0 := by decide
theorem own_JM : (9223372036854775807 : Int64).toInt = 9223372036854775807 := by decide
theorem own_JN : (9223372036854775806 : Int64).toInt = 9223372036854775806 := by decide
theorem own_msk (x : Int64) : 0 ≤ (x &&& (9223372036854775807 : Int64)).toInt := by
  have h := c_maskL x (9223372036854775807 : Int64) 63 (by decide) (by decide)
  omega
theorem own_width (w : Int64) : 1 ≤ (own_max (1 : Int64) (w &&& (9223372036854775807 : Int64))).toInt := by
  have := own_J1
  unfold own_max
  by_cases a : (1 : Int64) < (w &&& (9223372036854775807 : Int64))
  · rw [if_pos a]; rw [Int64.lt_iff_toInt_lt] at a; omega
  · rw [if_neg a]; omega
theorem own_ne0 {x : Int64} (h : 1 ≤ x.toInt) : x ≠ 0 := fun e => by rw [e] at h; have := own_J0; omega
theorem own_nem1 {x : Int64} (h : 1 ≤ x.toInt) : x ≠ -1 := fun e => by rw [e] at h; have : (-1 : Int64).toInt = -1 := by decide
                                                                       omega
theorem own_divv {x w : Int64} (h : 1 ≤ w.toInt) (hx : 0 ≤ x.toInt) : (x / w).toInt = x.toInt / w.toInt := (c_ldiv x w w.toInt rfl (own_nem1 h)).1 hx
theorem own_modv {x w : Int64} (hx : 0 ≤ x.toInt) : (x % w).toInt = x.toInt % w.toInt := by rw [Int64.toInt_mod]; exact (tr _ _).1 hx
theorem own_rows {w : Int64} (h : 1 ≤ w.toInt) : 1 ≤ ((9223372036854775807 : Int64) / w).toInt := by
  have r := rng64 w
  rw [own_divv h (by rw [own_JM]; omega), own_JM]
  exact Int.le_ediv_of_mul_le (by omega) (by omega)
theorem own_start0 (o w : Int64) : o + (0 : Int64) * w = o := by simp
theorem own_next (o w r : Int64) : (o + (r + (1 : Int64)) * w) - (o + r * w) = w := by
  grind
theorem own_back (o w rr kk : Int64) (h : 1 ≤ w.toInt) : own_row o w ((o + ((rr &&& (9223372036854775807 : Int64)) % ((9223372036854775807 : Int64) / w)) * w) + ((kk &&& (9223372036854775807 : Int64)) % w)) = (rr &&& (9223372036854775807 : Int64)) % ((9223372036854775807 : Int64) / w) := by
  have hr := own_rows h
  have m1 := own_msk rr
  have m2 := own_msk kk
  have e1 := own_modv (w := (9223372036854775807 : Int64) / w) m1
  have e2 := own_modv (w := w) m2
  have e3 : ((9223372036854775807 : Int64) / w).toInt = 9223372036854775807 / w.toInt := by rw [own_divv h (by rw [own_JM]; omega), own_JM]
  have b1 := Int.emod_nonneg (rr &&& (9223372036854775807 : Int64)).toInt (show ((9223372036854775807 : Int64) / w).toInt ≠ 0 by omega)
  have b2 := Int.emod_lt_of_pos (rr &&& (9223372036854775807 : Int64)).toInt (show 0 < ((9223372036854775807 : Int64) / w).toInt by omega)
  have b3 := Int.emod_nonneg (kk &&& (9223372036854775807 : Int64)).toInt (show w.toInt ≠ 0 by omega)
  have b4 := Int.emod_lt_of_pos (kk &&& (9223372036854775807 : Int64)).toInt (show 0 < w.toInt by omega)
  rw [← e1] at b1 b2
  rw [← e2] at b3 b4
  generalize (rr &&& (9223372036854775807 : Int64)) % ((9223372036854775807 : Int64) / w) = r at b1 b2 ⊢
  generalize (kk &&& (9223372036854775807 : Int64)) % w = k at b3 b4 ⊢
  rw [e3] at b2
  have d1 : ((o + r * w) + k) - o = r * w + k := by
    grind
  have q1 : (r.toInt + 1) * w.toInt ≤ 9223372036854775807 := by
    have t1 : (r.toInt + 1) * w.toInt ≤ (9223372036854775807 / w.toInt) * w.toInt := Int.mul_le_mul_of_nonneg_right (by omega) (by omega)
    have t2 := Int.ediv_mul_le 9223372036854775807 (show w.toInt ≠ 0 by omega)
    omega
  have q2 : 0 ≤ r.toInt * w.toInt := Int.mul_nonneg b1 (by omega)
  rw [Int.add_mul, Int.one_mul] at q1
  have q3 : (r * w).toInt = r.toInt * w.toInt := XT.mul64 ⟨by omega, by omega⟩
  have q4 : (r * w + k).toInt = r.toInt * w.toInt + k.toInt := by rw [XT.add64 ⟨by rw [q3]; omega, by rw [q3]; omega⟩, q3]
  have q5 : (r * w + k) / w = r := by
    rw [← Int64.toInt_inj, own_divv h (by rw [q4]; omega), q4, Int.add_comm, Int.add_mul_ediv_right _ _ (show w.toInt ≠ 0 by omega), Int.ediv_eq_zero_of_lt b3 b4]
    omega
  have q6 : r.toInt ≤ 9223372036854775806 := by
    have t : r.toInt * 1 ≤ r.toInt * w.toInt := Int.mul_le_mul_of_nonneg_left (by omega) b1
    omega
  unfold own_row own_min
  rw [d1, q5, if_neg]
  rw [Int64.lt_iff_toInt_lt, own_JN]; omega
theorem own_d1_0 : decode jdk_29_method_66_code 0 = .ok (.lload_n 0, 1) := by decide +kernel
theorem own_d1_1 : decode jdk_29_method_66_code 1 = .ok (.lload_n 2, 1) := by decide +kernel
theorem own_d1_2 : decode jdk_29_method_66_code 2 = .ok (.lcmp, 1) := by decide +kernel
theorem own_d1_3 : decode jdk_29_method_66_code 3 = .ok (.ifCond .lt 7, 3) := by decide +kernel
theorem own_d1_10 : decode jdk_29_method_66_code 10 = .ok (.lload_n 2, 1) := by decide +kernel
theorem own_d1_11 : decode jdk_29_method_66_code 11 = .ok (.lreturn, 1) := by decide +kernel
theorem own_d1_6 : decode jdk_29_method_66_code 6 = .ok (.lload_n 0, 1) := by decide +kernel
theorem own_d1_7 : decode jdk_29_method_66_code 7 = .ok (.goto 4, 3) := by decide +kernel
theorem own_ef1 (m : MethodId) (x0 : Int64) (x1 : Int64) : entryFrame m #[(.long x0), (.long x1)] 4 = mkF m 0 #[.val (.long x0), .second, .val (.long x1), .second] [] := by first | (simp [entryFrame, mkF, argsToLocals, Value.category]; done) | rfl
def own_Q1 (Z : State) (q0 : Int64) (q1 : Int64) (h0 : Heap) (n0 : Nat) (v : Option Value) (h : Heap) (L : List Loc) : Prop := v = some (.long (own_max q0 q1)) ∧ Fr n0 L ∧ h = h0
set_option maxRecDepth 65536 in
set_option maxHeartbeats 40000000 in
theorem rm1 (l : Launch) (Z : State) (aw : Array Value) (hw : ∀ d ∈ tables_1, d.before aw Z = true) (ws : List Jvm.Cond) (q0 : Int64) (q1 : Int64) (h0 : Heap) (n0 : Nat) (Z0 : n0 ≤ h0.size) :
    MetFree l (⟨"java/lang/Math", "max", "(JJ)J"⟩ : MethodName) (head1 (Jvm.Cond.code (⟨"java/lang/Math", "max", "(JJ)J"⟩ : MethodName) jdk_29_method_66_code 4 (some .long) :: ws) ({ frames := 0, cells := 0, slots := 0, locals := 0 } : Room)) (fun a U => a = #[(.long q0), (.long q1)] ∧ Z.Warmed39 U.vm ∧ U.heap = h0) (fun _ _ _ _ _ => True) (fun _ U o U' => ∃ v L, o = .returned v ∧ own_Q1 Z q0 q1 h0 n0 v U'.heap L ∧ FrameEnd U o U' L ({ frames := 0, cells := 0, slots := 0, locals := 0 } : Room).cells ({ frames := 0, cells := 0, slots := 0, locals := 0 } : Room).slots) := by
  refine MetFree.of_bodySF (Jvm.Free.JP.mathPlain rfl (by decide +kernel)) hisR ?_
  intro p e s m args below meth c s₁ Bd hml0 hP hK
  obtain ⟨rfl, hZ, hh⟩ := hP
  have hx := Bd.exec
  have hby := Bd.bytes
  have hml : c.maxLocals = 4 := hml0
  have hown : s.vm.findClass "java/lang/Math" = some m.cls := findClass_of_methodNamed Bd.named
  have hnm := (name_of_methodNamed Bd.named Bd.method).1
  have X0 : Stand p l e ({ frames := 0, cells := 0, slots := 0, locals := 0 } : Room) s m #[(.long q0), (.long q1)] below meth c s₁ [] 0 0 := Stand.of_body Bd
  have e0 : s₁.heap = h0 := by rw [← hh, Bd.state]; rfl
  have N0 := Fr.nil n0
  show own_G p.tables e below s (own_Q1 Z q0 q1 h0 n0) ({ frames := 0, cells := 0, slots := 0, locals := 0 } : Room).cells ({ frames := 0, cells := 0, slots := 0, locals := 0 } : Room).slots (s₁.setTop (entryFrame m #[(.long q0), (.long q1)] 4))
  refine own_by (fun _ k => castTop (own_ef1 m q0 q1) k) ?_
  show own_G _ _ _ _ _ _ _ (s₁.setTop (mkF m 0 #[.val (.long q0), .second, .val (.long q1), .second] []))
  refine own_by (fun _ k => XT.lloadN X0.here hx rfl (hb hby own_d1_0) rfl  k) ?_
  show own_G _ _ _ _ _ _ _ (s₁.setTop (mkF m 1 #[.val (.long q0), .second, .val (.long q1), .second] [(.long q0)]))
  refine own_by (fun _ k => XT.lloadN X0.here hx rfl (hb hby own_d1_1) rfl  k) ?_
  show own_G _ _ _ _ _ _ _ (s₁.setTop (mkF m 2 #[.val (.long q0), .second, .val (.long q1), .second] [(.long q1), (.long q0)]))
  refine own_by (fun _ k => XT.lcmp X0.here hx rfl (hb hby own_d1_2) rfl k) ?_
  show own_G _ _ _ _ _ _ _ (s₁.setTop (mkF m 3 #[.val (.long q0), .second, .val (.long q1), .second] [(.int (XT.cmpL q0 q1))]))
  by_cases hc3 : q0 < q1
  · refine own_by (fun _ k => XS.ifYes X0.here hx rfl (pc0 := 3) (pc' := 10) rfl (hb hby own_d1_3) rfl (XT.ll_lt_t hc3) (by decide) (by decide) k) ?_
    show own_G _ _ _ _ _ _ _ (s₁.setTop (mkF m 10 #[.val (.long q0), .second, .val (.long q1), .second] []))
    refine own_by (fun _ k => XT.lloadN X0.here hx rfl (hb hby own_d1_10) rfl  k) ?_
    show own_G _ _ _ _ _ _ _ (s₁.setTop (mkF m 11 #[.val (.long q0), .second, .val (.long q1), .second] [(.long q1)]))
    exact own_end X0 (v := some (.long q1)) (fun h => by rw [Bd.returns] at h; cases h) (BodyLoose.notSynchronized Bd) (fun fs hr => X0.lreturnOut hx Bd.returns (hb hby own_d1_11) hr) (by rw [e0]; exact ⟨(by simp only [own_max, hc3, if_true, if_false, ↓reduceIte]; first | done | rfl), N0, rfl⟩) (by decide) (by decide)
  · refine own_by (fun _ k => XS.ifNo X0.here hx rfl (hb hby own_d1_3) rfl (XT.ll_lt_f hc3) k) ?_
    show own_G _ _ _ _ _ _ _ (s₁.setTop (mkF m 6 #[.val (.long q0), .second, .val (.long q1), .second] []))
    refine own_by (fun _ k => XT.lloadN X0.here hx rfl (hb hby own_d1_6) rfl  k) ?_
    show own_G _ _ _ _ _ _ _ (s₁.setTop (mkF m 7 #[.val (.long q0), .second, .val (.long q1), .second] [(.long q0)]))
    refine own_by (fun _ k => XS.goto X0.here hx rfl (pc0 := 7) (pc' := 11) rfl (hb hby own_d1_7) (by decide) (by decide) k) ?_
    show own_G _ _ _ _ _ _ _ (s₁.setTop (mkF m 11 #[.val (.long q0), .second, .val (.long q1), .second] [(.long q0)]))
    exact own_end X0 (v := some (.long q0)) (fun h => by rw [Bd.returns] at h; cases h) (BodyLoose.notSynchronized Bd) (fun fs hr => X0.lreturnOut hx Bd.returns (hb hby own_d1_11) hr) (by rw [e0]; exact ⟨(by simp only [own_max, hc3, if_true, if_false, ↓reduceIte]; first | done | rfl), N0, rfl⟩) (by decide) (by decide)
theorem own_d8_0 : decode jdk_29_method_70_code 0 = .ok (.lload_n 0, 1) := by decide +kernel
theorem own_d8_1 : decode jdk_29_method_70_code 1 = .ok (.lload_n 2, 1) := by decide +kernel
theorem own_d8_2 : decode jdk_29_method_70_code 2 = .ok (.lcmp, 1) := by decide +kernel
theorem own_d8_3 : decode jdk_29_method_70_code 3 = .ok (.ifCond .gt 7, 3) := by decide +kernel
theorem own_d8_10 : decode jdk_29_method_70_code 10 = .ok (.lload_n 2, 1) := by decide +kernel
theorem own_d8_11 : decode jdk_29_method_70_code 11 = .ok (.lreturn, 1) := by decide +kernel
theorem own_d8_6 : decode jdk_29_method_70_code 6 = .ok (.lload_n 0, 1) := by decide +kernel
theorem own_d8_7 : decode jdk_29_method_70_code 7 = .ok (.goto 4, 3) := by decide +kernel
theorem own_ef2 (m : MethodId) (x0 : Int64) (x1 : Int64) : entryFrame m #[(.long x0), (.long x1)] 4 = mkF m 0 #[.val (.long x0), .second, .val (.long x1), .second] [] := by first | (simp [entryFrame, mkF, argsToLocals, Value.category]; done) | rfl
def own_Q2 (Z : State) (q0 : Int64) (q1 : Int64) (h0 : Heap) (n0 : Nat) (v : Option Value) (h : Heap) (L : List Loc) : Prop := v = some (.long (own_min q0 q1)) ∧ Fr n0 L ∧ h = h0
set_option maxRecDepth 65536 in
set_option maxHeartbeats 40000000 in
theorem rm2 (l : Launch) (Z : State) (aw : Array Value) (hw : ∀ d ∈ tables_1, d.before aw Z = true) (ws : List Jvm.Cond) (q0 : Int64) (q1 : Int64) (h0 : Heap) (n0 : Nat) (Z0 : n0 ≤ h0.size) :
    MetFree l (⟨"java/lang/Math", "min", "(JJ)J"⟩ : MethodName) (head1 (Jvm.Cond.code (⟨"java/lang/Math", "min", "(JJ)J"⟩ : MethodName) jdk_29_method_70_code 4 (some .long) :: ws) ({ frames := 0, cells := 0, slots := 0, locals := 0 } : Room)) (fun a U => a = #[(.long q0), (.long q1)] ∧ Z.Warmed39 U.vm ∧ U.heap = h0) (fun _ _ _ _ _ => True) (fun _ U o U' => ∃ v L, o = .returned v ∧ own_Q2 Z q0 q1 h0 n0 v U'.heap L ∧ FrameEnd U o U' L ({ frames := 0, cells := 0, slots := 0, locals := 0 } : Room).cells ({ frames := 0, cells := 0, slots := 0, locals := 0 } : Room).slots) := by
  refine MetFree.of_bodySF (Jvm.Free.JP.mathPlain rfl (by decide +kernel)) hisR ?_
  intro p e s m args below meth c s₁ Bd hml0 hP hK
  obtain ⟨rfl, hZ, hh⟩ := hP
  have hx := Bd.exec
  have hby := Bd.bytes
  have hml : c.maxLocals = 4 := hml0
  have hown : s.vm.findClass "java/lang/Math" = some m.cls := findClass_of_methodNamed Bd.named
  have hnm := (name_of_methodNamed Bd.named Bd.method).1
  have X0 : Stand p l e ({ frames := 0, cells := 0, slots := 0, locals := 0 } : Room) s m #[(.long q0), (.long q1)] below meth c s₁ [] 0 0 := Stand.of_body Bd
  have e0 : s₁.heap = h0 := by rw [← hh, Bd.state]; rfl
  have N0 := Fr.nil n0
  show own_G p.tables e below s (own_Q2 Z q0 q1 h0 n0) ({ frames := 0, cells := 0, slots := 0, locals := 0 } : Room).cells ({ frames := 0, cells := 0, slots := 0, locals := 0 } : Room).slots (s₁.setTop (entryFrame m #[(.long q0), (.long q1)] 4))
  refine own_by (fun _ k => castTop (own_ef2 m q0 q1) k) ?_
  show own_G _ _ _ _ _ _ _ (s₁.setTop (mkF m 0 #[.val (.long q0), .second, .val (.long q1), .second] []))
  refine own_by (fun _ k => XT.lloadN X0.here hx rfl (hb hby own_d8_0) rfl  k) ?_
  show own_G _ _ _ _ _ _ _ (s₁.setTop (mkF m 1 #[.val (.long q0), .second, .val (.long q1), .second] [(.long q0)]))
  refine own_by (fun _ k => XT.lloadN X0.here hx rfl (hb hby own_d8_1) rfl  k) ?_
  show own_G _ _ _ _ _ _ _ (s₁.setTop (mkF m 2 #[.val (.long q0), .second, .val (.long q1), .second] [(.long q1), (.long q0)]))
  refine own_by (fun _ k => XT.lcmp X0.here hx rfl (hb hby own_d8_2) rfl k) ?_
  show own_G _ _ _ _ _ _ _ (s₁.setTop (mkF m 3 #[.val (.long q0), .second, .val (.long q1), .second] [(.int (XT.cmpL q0 q1))]))
  by_cases hc3 : q1 < q0
  · refine own_by (fun _ k => XS.ifYes X0.here hx rfl (pc0 := 3) (pc' := 10) rfl (hb hby own_d8_3) rfl (XT.ll_gt_t hc3) (by decide) (by decide) k) ?_
    show own_G _ _ _ _ _ _ _ (s₁.setTop (mkF m 10 #[.val (.long q0), .second, .val (.long q1), .second] []))
    refine own_by (fun _ k => XT.lloadN X0.here hx rfl (hb hby own_d8_10) rfl  k) ?_
    show own_G _ _ _ _ _ _ _ (s₁.setTop (mkF m 11 #[.val (.long q0), .second, .val (.long q1), .second] [(.long q1)]))
    exact own_end X0 (v := some (.long q1)) (fun h => by rw [Bd.returns] at h; cases h) (BodyLoose.notSynchronized Bd) (fun fs hr => X0.lreturnOut hx Bd.returns (hb hby own_d8_11) hr) (by rw [e0]; exact ⟨(by simp only [own_min, hc3, if_true, if_false, ↓reduceIte]; first | done | rfl), N0, rfl⟩) (by decide) (by decide)
  · refine own_by (fun _ k => XS.ifNo X0.here hx rfl (hb hby own_d8_3) rfl (XT.ll_gt_f hc3) k) ?_
    show own_G _ _ _ _ _ _ _ (s₁.setTop (mkF m 6 #[.val (.long q0), .second, .val (.long q1), .second] []))
    refine own_by (fun _ k => XT.lloadN X0.here hx rfl (hb hby own_d8_6) rfl  k) ?_
    show own_G _ _ _ _ _ _ _ (s₁.setTop (mkF m 7 #[.val (.long q0), .second, .val (.long q1), .second] [(.long q0)]))
    refine own_by (fun _ k => XS.goto X0.here hx rfl (pc0 := 7) (pc' := 11) rfl (hb hby own_d8_7) (by decide) (by decide) k) ?_
    show own_G _ _ _ _ _ _ _ (s₁.setTop (mkF m 11 #[.val (.long q0), .second, .val (.long q1), .second] [(.long q0)]))
    exact own_end X0 (v := some (.long q0)) (fun h => by rw [Bd.returns] at h; cases h) (BodyLoose.notSynchronized Bd) (fun fs hr => X0.lreturnOut hx Bd.returns (hb hby own_d8_11) hr) (by rw [e0]; exact ⟨(by simp only [own_min, hc3, if_true, if_false, ↓reduceIte]; first | done | rfl), N0, rfl⟩) (by decide) (by decide)
theorem own_d3_0 : decode jdk_30_method_1_code 0 = .ok (.aload_n 0, 1) := by decide +kernel
theorem own_d3_1 : decode jdk_30_method_1_code 1 = .ok (.invokespecial 1, 3) := by decide +kernel
theorem own_d3_4 : decode jdk_30_method_1_code 4 = .ok (.return_, 1) := by decide +kernel
theorem own_pn0 : plainName "java/lang/Record" = true := by first | (simp [plainName, overriddenIn]; done) | decide +kernel
theorem own_ef3 (m : MethodId) (x0 : Addr) : entryFrame m #[(.ref x0)] 1 = mkF m 0 #[.val (.ref x0)] [] := by first | (simp [entryFrame, mkF, argsToLocals, Value.category]; done) | rfl
def own_Q3 (Z : State) (a0 : Addr) (h0 : Heap) (n0 : Nat) (v : Option Value) (h : Heap) (L : List Loc) : Prop := v = none ∧ Fr n0 L ∧ h = h0
set_option maxRecDepth 65536 in
set_option maxHeartbeats 40000000 in
theorem rm3 (l : Launch) (Z : State) (aw : Array Value) (hw : ∀ d ∈ tables_1, d.before aw Z = true) (ws : List Jvm.Cond) (a0 : Addr) (h0 : Heap) (n0 : Nat) (Z0 : n0 ≤ h0.size) :
    MetFree l (⟨"java/lang/Record", "<init>", "()V"⟩ : MethodName) (head1 (Jvm.Cond.code (⟨"java/lang/Record", "<init>", "()V"⟩ : MethodName) jdk_30_method_1_code 1 none :: ws) ({ frames := 1, cells := 0, slots := 0, locals := 12 } : Room)) (fun a U => a = #[(.ref a0)] ∧ Z.Warmed39 U.vm ∧ U.heap = h0) (fun _ _ _ _ _ => True) (fun _ U o U' => ∃ v L, o = .returned v ∧ own_Q3 Z a0 h0 n0 v U'.heap L ∧ FrameEnd U o U' L ({ frames := 1, cells := 0, slots := 0, locals := 12 } : Room).cells ({ frames := 1, cells := 0, slots := 0, locals := 12 } : Room).slots) := by
  refine MetFree.of_bodySF (plainFor_of_name own_pn0) hisR ?_
  intro p e s m args below meth c s₁ Bd hml0 hP hK
  obtain ⟨rfl, hZ, hh⟩ := hP
  have hx := Bd.exec
  have hby := Bd.bytes
  have hml : c.maxLocals = 1 := hml0
  have hown : s.vm.findClass "java/lang/Record" = some m.cls := findClass_of_methodNamed Bd.named
  have hnm := (name_of_methodNamed Bd.named Bd.method).1
  have X0 : Stand p l e ({ frames := 1, cells := 0, slots := 0, locals := 12 } : Room) s m #[(.ref a0)] below meth c s₁ [] 0 0 := Stand.of_body Bd
  have e0 : s₁.heap = h0 := by rw [← hh, Bd.state]; rfl
  have N0 := Fr.nil n0
  show own_G p.tables e below s (own_Q3 Z a0 h0 n0) ({ frames := 1, cells := 0, slots := 0, locals := 12 } : Room).cells ({ frames := 1, cells := 0, slots := 0, locals := 12 } : Room).slots (s₁.setTop (entryFrame m #[(.ref a0)] 1))
  refine own_by (fun _ k => castTop (own_ef3 m a0) k) ?_
  show own_G _ _ _ _ _ _ _ (s₁.setTop (mkF m 0 #[.val (.ref a0)] []))
  refine own_by (fun _ k => XS.aloadN X0.here hx rfl (hb hby own_d3_0) rfl rfl k) ?_
  show own_G _ _ _ _ _ _ _ (s₁.setTop (mkF m 1 #[.val (.ref a0)] [(.ref a0)]))
  obtain ⟨T1, X1, e1, st1⟩ := initO X0 hx hZ hown (hw _ (List.mem_of_getElem? (i := 16) rfl)) (hw _ (List.mem_of_getElem? (i := 17) rfl)) (hw _ (List.mem_of_getElem? (i := 18) rfl)) e0 (g := (mkF m 1 #[.val (.ref a0)] [(.ref a0)])) rfl (by rw [hml]; rfl) rfl (hb hby own_d3_1) (by decide) (W := 0) (by show 2 * 0 + _ ≤ _; exact Nat.le_of_eq rfl) (by decide)
  refine own_by st1 ?_
  show own_G _ _ _ _ _ _ _ (T1.setTop (mkF m 4 #[.val (.ref a0)] []))
  exact own_end X1 (v := none) (fun _ => rfl) (BodyLoose.notSynchronized Bd) (fun fs hr => X1.returnOut hx Bd.returns (hb hby own_d3_4) hr) (by rw [e1]; exact ⟨rfl, N0, rfl⟩) (by decide) (by decide)
theorem own_d2_0 : decode prog_177_method_1_code 0 = .ok (.aload_n 0, 1) := by decide +kernel
theorem own_d2_1 : decode prog_177_method_1_code 1 = .ok (.invokespecial 1, 3) := by decide +kernel
theorem own_pd0 : parseMethodDescriptor "()V" = some ⟨[], none⟩ := by decide +kernel
theorem own_d2_4 : decode prog_177_method_1_code 4 = .ok (.aload_n 0, 1) := by decide +kernel
theorem own_d2_5 : decode prog_177_method_1_code 5 = .ok (.lload_n 1, 1) := by decide +kernel
theorem own_d2_6 : decode prog_177_method_1_code 6 = .ok (.putfield 7, 3) := by decide +kernel
theorem own_d2_9 : decode prog_177_method_1_code 9 = .ok (.aload_n 0, 1) := by decide +kernel
theorem own_d2_10 : decode prog_177_method_1_code 10 = .ok (.lload_n 3, 1) := by decide +kernel
theorem own_d2_11 : decode prog_177_method_1_code 11 = .ok (.putfield 13, 3) := by decide +kernel
theorem own_d2_14 : decode prog_177_method_1_code 14 = .ok (.aload_n 0, 1) := by decide +kernel
theorem own_d2_15 : decode prog_177_method_1_code 15 = .ok (.lload 5, 2) := by decide +kernel
theorem own_d2_17 : decode prog_177_method_1_code 17 = .ok (.putfield 16, 3) := by decide +kernel
theorem own_d2_20 : decode prog_177_method_1_code 20 = .ok (.aload_n 0, 1) := by decide +kernel
theorem own_d2_21 : decode prog_177_method_1_code 21 = .ok (.lload 7, 2) := by decide +kernel
theorem own_d2_23 : decode prog_177_method_1_code 23 = .ok (.putfield 19, 3) := by decide +kernel
theorem own_d2_26 : decode prog_177_method_1_code 26 = .ok (.return_, 1) := by decide +kernel
theorem own_pn1 : plainName "com/example/countersight/countersight/cli/Timelines$Intervals" = true := by first | (simp [plainName, overriddenIn]; done) | decide +kernel
theorem own_ef4 (m : MethodId) (x0 : Addr) (x1 : Int64) (x2 : Int64) (x3 : Int64) (x4 : Int64) : entryFrame m #[(.ref x0), (.long x1), (.long x2), (.long x3), (.long x4)] 9 = mkF m 0 #[.val (.ref x0), .val (.long x1), .second, .val (.long x2), .second, .val (.long x3), .second, .val (.long x4), .second] [] := by first | (simp [entryFrame, mkF, argsToLocals, Value.category]; done) | rfl
def own_Q4 (Z : State) (a0 : Addr) (q1 : Int64) (q2 : Int64) (q3 : Int64) (q4 : Int64) (h0 : Heap) (n0 : Nat) (v : Option Value) (h : Heap) (L : List Loc) : Prop := v = none ∧ Fr n0 L ∧ Keep h0 h [a0] ∧ Exa Z h a0 "com/example/countersight/countersight/cli/Timelines$Intervals" ∧ Fld Z h a0 "com/example/countersight/countersight/cli/Timelines$Intervals" "originNs" "J" (.long q1) ∧ Fld Z h a0 "com/example/countersight/countersight/cli/Timelines$Intervals" "widthNs" "J" (.long q2) ∧ Fld Z h a0 "com/example/countersight/countersight/cli/Timelines$Intervals" "first" "J" (.long q3) ∧ Fld Z h a0 "com/example/countersight/countersight/cli/Timelines$Intervals" "count" "J" (.long q4)
set_option maxRecDepth 65536 in
set_option maxHeartbeats 40000000 in
theorem rm4 (l : Launch) (Z : State) (aw : Array Value) (hw : ∀ d ∈ tables_1, d.before aw Z = true) (ws : List Jvm.Cond) (a0 : Addr) (q1 : Int64) (q2 : Int64) (q3 : Int64) (q4 : Int64) (h0 : Heap) (n0 : Nat) (Z0 : n0 ≤ h0.size) (E_a : Exa Z h0 a0 "com/example/countersight/countersight/cli/Timelines$Intervals") (F_originNs : Fld Z h0 a0 "com/example/countersight/countersight/cli/Timelines$Intervals" "originNs" "J" (.long (0 : Int64))) (F_widthNs : Fld Z h0 a0 "com/example/countersight/countersight/cli/Timelines$Intervals" "widthNs" "J" (.long (0 : Int64))) (F_first : Fld Z h0 a0 "com/example/countersight/countersight/cli/Timelines$Intervals" "first" "J" (.long (0 : Int64))) (F_count : Fld Z h0 a0 "com/example/countersight/countersight/cli/Timelines$Intervals" "count" "J" (.long (0 : Int64))) (g_a : n0 ≤ a0) :
    MetFree l (⟨"com/example/countersight/countersight/cli/Timelines$Intervals", "<init>", "(JJJJ)V"⟩ : MethodName) (head1 (Jvm.Cond.code (⟨"com/example/countersight/countersight/cli/Timelines$Intervals", "<init>", "(JJJJ)V"⟩ : MethodName) prog_177_method_1_code 9 none :: ws) ({ frames := 2, cells := 0, slots := 0, locals := 24 } : Room)) (fun a U => a = #[(.ref a0), (.long q1), (.long q2), (.long q3), (.long q4)] ∧ Z.Warmed39 U.vm ∧ U.heap = h0) (fun _ _ _ _ _ => True) (fun _ U o U' => ∃ v L, o = .returned v ∧ own_Q4 Z a0 q1 q2 q3 q4 h0 n0 v U'.heap L ∧ FrameEnd U o U' L ({ frames := 2, cells := 0, slots := 0, locals := 24 } : Room).cells ({ frames := 2, cells := 0, slots := 0, locals := 24 } : Room).slots) := by
  refine MetFree.of_bodySF (plainFor_of_name own_pn1) hisR ?_
  intro p e s m args below meth c s₁ Bd hml0 hP hK
  obtain ⟨rfl, hZ, hh⟩ := hP
  have hx := Bd.exec
  have hby := Bd.bytes
  have hml : c.maxLocals = 9 := hml0
  have hown : s.vm.findClass "com/example/countersight/countersight/cli/Timelines$Intervals" = some m.cls := findClass_of_methodNamed Bd.named
  have hnm := (name_of_methodNamed Bd.named Bd.method).1
  have X0 : Stand p l e ({ frames := 2, cells := 0, slots := 0, locals := 24 } : Room) s m #[(.ref a0), (.long q1), (.long q2), (.long q3), (.long q4)] below meth c s₁ [] 0 0 := Stand.of_body Bd
  have e0 : s₁.heap = h0 := by rw [← hh, Bd.state]; rfl
  have N0 := Fr.nil n0
  show own_G p.tables e below s (own_Q4 Z a0 q1 q2 q3 q4 h0 n0) ({ frames := 2, cells := 0, slots := 0, locals := 24 } : Room).cells ({ frames := 2, cells := 0, slots := 0, locals := 24 } : Room).slots (s₁.setTop (entryFrame m #[(.ref a0), (.long q1), (.long q2), (.long q3), (.long q4)] 9))
  refine own_by (fun _ k => castTop (own_ef4 m a0 q1 q2 q3 q4) k) ?_
  show own_G _ _ _ _ _ _ _ (s₁.setTop (mkF m 0 #[.val (.ref a0), .val (.long q1), .second, .val (.long q2), .second, .val (.long q3), .second, .val (.long q4), .second] []))
  refine own_by (fun _ k => XS.aloadN X0.here hx rfl (hb hby own_d2_0) rfl rfl k) ?_
  show own_G _ _ _ _ _ _ _ (s₁.setTop (mkF m 1 #[.val (.ref a0), .val (.long q1), .second, .val (.long q2), .second, .val (.long q3), .second, .val (.long q4), .second] [(.ref a0)]))
  obtain ⟨_, _, ⟨T2, L2, k2, n2⟩, -, X2, ⟨Lc2, hQ2, l2, y2, z2⟩, st2⟩ := X0.specialBack hx (y := (⟨"java/lang/Record", "<init>", "()V"⟩ : MethodName)) rfl hown (mvT hZ (hw _ (List.mem_of_getElem? (i := 11) rfl))) (mvT hZ (hw _ (List.mem_of_getElem? (i := 12) rfl))) (mvT hZ (hw _ (List.mem_of_getElem? (i := 15) rfl))) (by decide) (backOf (W := 0) (rm3 l Z aw hw [] a0 h0 n0 Z0 ) hZ (hw _ (List.mem_of_getElem? (i := 15) rfl)) (hw _ (List.mem_of_getElem? (i := 14) rfl)) (by decide) (by decide)) (g := (mkF m 1 #[.val (.ref a0), .val (.long q1), .second, .val (.long q2), .second, .val (.long q3), .second, .val (.long q4), .second] [(.ref a0)])) rfl (by rw [hml]; rfl) (Steps.refl _) (a := a0) (argsL := []) (rest := []) (lenOf own_pd0 rfl) rfl (by show 2 * 0 + _ ≤ _; exact Nat.le_of_eq rfl) (hb hby own_d2_1) (fun _ _ => ⟨rfl, e0, (by decide : 0 + 0 ≤ _), (by decide : 0 + 0 ≤ _)⟩)
  dsimp only [Pt.U, Pt.locs, Pt.cells, Pt.slots] at X2 l2 y2 z2 st2 hQ2
  subst l2 y2 z2
  obtain ⟨rfl, Nq2, e2⟩ := hQ2
  have N2 := Fr.app N0 Nq2
  refine own_by (fun _ k => st2.trans k) ?_
  show own_G _ _ _ _ _ _ _ (T2.setTop (mkF m 4 #[.val (.ref a0), .val (.long q1), .second, .val (.long q2), .second, .val (.long q3), .second, .val (.long q4), .second] []))
  refine own_by (fun _ k => XS.aloadN X2.here hx rfl (hb hby own_d2_4) rfl rfl k) ?_
  show own_G _ _ _ _ _ _ _ (T2.setTop (mkF m 5 #[.val (.ref a0), .val (.long q1), .second, .val (.long q2), .second, .val (.long q3), .second, .val (.long q4), .second] [(.ref a0)]))
  refine own_by (fun _ k => XT.lloadN X2.here hx rfl (hb hby own_d2_5) rfl  k) ?_
  show own_G _ _ _ _ _ _ _ (T2.setTop (mkF m 6 #[.val (.ref a0), .val (.long q1), .second, .val (.long q2), .second, .val (.long q3), .second, .val (.long q4), .second] [(.long q1), (.ref a0)]))
  obtain ⟨T3, h3, X3, e3, W3, st3⟩ := putF X2 hx hZ hown (host := "") (Or.inl (hw _ (List.mem_of_getElem? (i := 19) rfl))) Via.refl e2 F_originNs E_a (Or.inr ⟨(hw _ (List.mem_of_getElem? (i := 20) rfl)), rfl, hnm⟩) (hw _ (List.mem_of_getElem? (i := 6) rfl)) (ty := .long) (by decide) rfl rfl (g := (mkF m 6 #[.val (.ref a0), .val (.long q1), .second, .val (.long q2), .second, .val (.long q3), .second, .val (.long q4), .second] [(.long q1), (.ref a0)])) rfl rfl (hb hby own_d2_6)
  refine own_by st3 ?_
  have F4_0 := E_a.wr W3
  have F4_1 := F_originNs.same W3
  have F4_2 := F_widthNs.other W3 (Or.inr (slot_ne (Or.inr (hw _ (List.mem_of_getElem? (i := 22) rfl))) (Or.inr (hw _ (List.mem_of_getElem? (i := 20) rfl))) (by decide) (t := .long) (t' := .long) (by decide) (by decide)))
  have F4_3 := F_first.other W3 (Or.inr (slot_ne (Or.inr (hw _ (List.mem_of_getElem? (i := 24) rfl))) (Or.inr (hw _ (List.mem_of_getElem? (i := 20) rfl))) (by decide) (t := .long) (t' := .long) (by decide) (by decide)))
  have F4_4 := F_count.other W3 (Or.inr (slot_ne (Or.inr (hw _ (List.mem_of_getElem? (i := 26) rfl))) (Or.inr (hw _ (List.mem_of_getElem? (i := 20) rfl))) (by decide) (t := .long) (t' := .long) (by decide) (by decide)))
  have N3 := Fr.snoc X3 N2 g_a
  have Z5 : n0 ≤ h3.size := Nat.le_trans Z0 (Nat.le_of_eq W3.size.symm)
  have K3 := (Keep.refl h0 [a0]).wr W3 (Or.inl (List.mem_of_getElem? (i := 0) rfl))
  show own_G _ _ _ _ _ _ _ (T3.setTop (mkF m 9 #[.val (.ref a0), .val (.long q1), .second, .val (.long q2), .second, .val (.long q3), .second, .val (.long q4), .second] []))
  refine own_by (fun _ k => XS.aloadN X3.here hx rfl (hb hby own_d2_9) rfl rfl k) ?_
  show own_G _ _ _ _ _ _ _ (T3.setTop (mkF m 10 #[.val (.ref a0), .val (.long q1), .second, .val (.long q2), .second, .val (.long q3), .second, .val (.long q4), .second] [(.ref a0)]))
  refine own_by (fun _ k => XT.lloadN X3.here hx rfl (hb hby own_d2_10) rfl  k) ?_
  show own_G _ _ _ _ _ _ _ (T3.setTop (mkF m 11 #[.val (.ref a0), .val (.long q1), .second, .val (.long q2), .second, .val (.long q3), .second, .val (.long q4), .second] [(.long q2), (.ref a0)]))
  obtain ⟨T6, h6, X6, e6, W6, st6⟩ := putF X3 hx hZ hown (host := "") (Or.inl (hw _ (List.mem_of_getElem? (i := 21) rfl))) Via.refl e3 F4_2 F4_0 (Or.inr ⟨(hw _ (List.mem_of_getElem? (i := 22) rfl)), rfl, hnm⟩) (hw _ (List.mem_of_getElem? (i := 6) rfl)) (ty := .long) (by decide) rfl rfl (g := (mkF m 11 #[.val (.ref a0), .val (.long q1), .second, .val (.long q2), .second, .val (.long q3), .second, .val (.long q4), .second] [(.long q2), (.ref a0)])) rfl rfl (hb hby own_d2_11)
  refine own_by st6 ?_
  have F7_0 := F4_0.wr W6
  have F7_1 := F4_1.other W6 (Or.inr (slot_ne (Or.inr (hw _ (List.mem_of_getElem? (i := 20) rfl))) (Or.inr (hw _ (List.mem_of_getElem? (i := 22) rfl))) (by decide) (t := .long) (t' := .long) (by decide) (by decide)))
  have F7_2 := F4_2.same W6
  have F7_3 := F4_3.other W6 (Or.inr (slot_ne (Or.inr (hw _ (List.mem_of_getElem? (i := 24) rfl))) (Or.inr (hw _ (List.mem_of_getElem? (i := 22) rfl))) (by decide) (t := .long) (t' := .long) (by decide) (by decide)))
  have F7_4 := F4_4.other W6 (Or.inr (slot_ne (Or.inr (hw _ (List.mem_of_getElem? (i := 26) rfl))) (Or.inr (hw _ (List.mem_of_getElem? (i := 22) rfl))) (by decide) (t := .long) (t' := .long) (by decide) (by decide)))
  have N6 := Fr.snoc X6 N3 g_a
  have Z8 : n0 ≤ h6.size := Nat.le_trans Z5 (Nat.le_of_eq W6.size.symm)
  have K6 := K3.wr W6 (Or.inl (List.mem_of_getElem? (i := 0) rfl))
  show own_G _ _ _ _ _ _ _ (T6.setTop (mkF m 14 #[.val (.ref a0), .val (.long q1), .second, .val (.long q2), .second, .val (.long q3), .second, .val (.long q4), .second] []))
  refine own_by (fun _ k => XS.aloadN X6.here hx rfl (hb hby own_d2_14) rfl rfl k) ?_
  show own_G _ _ _ _ _ _ _ (T6.setTop (mkF m 15 #[.val (.ref a0), .val (.long q1), .second, .val (.long q2), .second, .val (.long q3), .second, .val (.long q4), .second] [(.ref a0)]))
  refine own_by (fun _ k => XT.lload X6.here hx rfl (hb hby own_d2_15) rfl  k) ?_
  show own_G _ _ _ _ _ _ _ (T6.setTop (mkF m 17 #[.val (.ref a0), .val (.long q1), .second, .val (.long q2), .second, .val (.long q3), .second, .val (.long q4), .second] [(.long q3), (.ref a0)]))
  obtain ⟨T9, h9, X9, e9, W9, st9⟩ := putF X6 hx hZ hown (host := "") (Or.inl (hw _ (List.mem_of_getElem? (i := 23) rfl))) Via.refl e6 F7_3 F7_0 (Or.inr ⟨(hw _ (List.mem_of_getElem? (i := 24) rfl)), rfl, hnm⟩) (hw _ (List.mem_of_getElem? (i := 6) rfl)) (ty := .long) (by decide) rfl rfl (g := (mkF m 17 #[.val (.ref a0), .val (.long q1), .second, .val (.long q2), .second, .val (.long q3), .second, .val (.long q4), .second] [(.long q3), (.ref a0)])) rfl rfl (hb hby own_d2_17)
  refine own_by st9 ?_
  have F10_0 := F7_0.wr W9
  have F10_1 := F7_1.other W9 (Or.inr (slot_ne (Or.inr (hw _ (List.mem_of_getElem? (i := 20) rfl))) (Or.inr (hw _ (List.mem_of_getElem? (i := 24) rfl))) (by decide) (t := .long) (t' := .long) (by decide) (by decide)))
  have F10_2 := F7_2.other W9 (Or.inr (slot_ne (Or.inr (hw _ (List.mem_of_getElem? (i := 22) rfl))) (Or.inr (hw _ (List.mem_of_getElem? (i := 24) rfl))) (by decide) (t := .long) (t' := .long) (by decide) (by decide)))
  have F10_3 := F7_3.same W9
  have F10_4 := F7_4.other W9 (Or.inr (slot_ne (Or.inr (hw _ (List.mem_of_getElem? (i := 26) rfl))) (Or.inr (hw _ (List.mem_of_getElem? (i := 24) rfl))) (by decide) (t := .long) (t' := .long) (by decide) (by decide)))
  have N9 := Fr.snoc X9 N6 g_a
  have Z11 : n0 ≤ h9.size := Nat.le_trans Z8 (Nat.le_of_eq W9.size.symm)
  have K9 := K6.wr W9 (Or.inl (List.mem_of_getElem? (i := 0) rfl))
  show own_G _ _ _ _ _ _ _ (T9.setTop (mkF m 20 #[.val (.ref a0), .val (.long q1), .second, .val (.long q2), .second, .val (.long q3), .second, .val (.long q4), .second] []))
  refine own_by (fun _ k => XS.aloadN X9.here hx rfl (hb hby own_d2_20) rfl rfl k) ?_
  show own_G _ _ _ _ _ _ _ (T9.setTop (mkF m 21 #[.val (.ref a0), .val (.long q1), .second, .val (.long q2), .second, .val (.long q3), .second, .val (.long q4), .second] [(.ref a0)]))
  refine own_by (fun _ k => XT.lload X9.here hx rfl (hb hby own_d2_21) rfl  k) ?_
  show own_G _ _ _ _ _ _ _ (T9.setTop (mkF m 23 #[.val (.ref a0), .val (.long q1), .second, .val (.long q2), .second, .val (.long q3), .second, .val (.long q4), .second] [(.long q4), (.ref a0)]))
  obtain ⟨T12, h12, X12, e12, W12, st12⟩ := putF X9 hx hZ hown (host := "") (Or.inl (hw _ (List.mem_of_getElem? (i := 25) rfl))) Via.refl e9 F10_4 F10_0 (Or.inr ⟨(hw _ (List.mem_of_getElem? (i := 26) rfl)), rfl, hnm⟩) (hw _ (List.mem_of_getElem? (i := 6) rfl)) (ty := .long) (by decide) rfl rfl (g := (mkF m 23 #[.val (.ref a0), .val (.long q1), .second, .val (.long q2), .second, .val (.long q3), .second, .val (.long q4), .second] [(.long q4), (.ref a0)])) rfl rfl (hb hby own_d2_23)
  refine own_by st12 ?_
  have F13_0 := F10_0.wr W12
  have F13_1 := F10_1.other W12 (Or.inr (slot_ne (Or.inr (hw _ (List.mem_of_getElem? (i := 20) rfl))) (Or.inr (hw _ (List.mem_of_getElem? (i := 26) rfl))) (by decide) (t := .long) (t' := .long) (by decide) (by decide)))
  have F13_2 := F10_2.other W12 (Or.inr (slot_ne (Or.inr (hw _ (List.mem_of_getElem? (i := 22) rfl))) (Or.inr (hw _ (List.mem_of_getElem? (i := 26) rfl))) (by decide) (t := .long) (t' := .long) (by decide) (by decide)))
  have F13_3 := F10_3.other W12 (Or.inr (slot_ne (Or.inr (hw _ (List.mem_of_getElem? (i := 24) rfl))) (Or.inr (hw _ (List.mem_of_getElem? (i := 26) rfl))) (by decide) (t := .long) (t' := .long) (by decide) (by decide)))
  have F13_4 := F10_4.same W12
  have N12 := Fr.snoc X12 N9 g_a
  have Z14 : n0 ≤ h12.size := Nat.le_trans Z11 (Nat.le_of_eq W12.size.symm)
  have K12 := K9.wr W12 (Or.inl (List.mem_of_getElem? (i := 0) rfl))
  show own_G _ _ _ _ _ _ _ (T12.setTop (mkF m 26 #[.val (.ref a0), .val (.long q1), .second, .val (.long q2), .second, .val (.long q3), .second, .val (.long q4), .second] []))
  exact own_end X12 (v := none) (fun _ => rfl) (BodyLoose.notSynchronized Bd) (fun fs hr => X12.returnOut hx Bd.returns (hb hby own_d2_26) hr) (by rw [e12]; exact ⟨rfl, N12, K12, F13_0, F13_1, F13_2, F13_3, F13_4⟩) (by decide) (by decide)
theorem own_d5_0 : decode prog_177_method_7_code 0 = .ok (.aload_n 0, 1) := by decide +kernel
theorem own_d5_1 : decode prog_177_method_7_code 1 = .ok (.getfield 7, 3) := by decide +kernel
theorem own_d5_4 : decode prog_177_method_7_code 4 = .ok (.lload_n 1, 1) := by decide +kernel
theorem own_d5_5 : decode prog_177_method_7_code 5 = .ok (.aload_n 0, 1) := by decide +kernel
theorem own_d5_6 : decode prog_177_method_7_code 6 = .ok (.getfield 13, 3) := by decide +kernel
theorem own_d5_9 : decode prog_177_method_7_code 9 = .ok (.lmul, 1) := by decide +kernel
theorem own_d5_10 : decode prog_177_method_7_code 10 = .ok (.ladd, 1) := by decide +kernel
theorem own_d5_11 : decode prog_177_method_7_code 11 = .ok (.lreturn, 1) := by decide +kernel
theorem own_ef5 (m : MethodId) (x0 : Addr) (x1 : Int64) : entryFrame m #[(.ref x0), (.long x1)] 3 = mkF m 0 #[.val (.ref x0), .val (.long x1), .second] [] := by first | (simp [entryFrame, mkF, argsToLocals, Value.category]; done) | rfl
def own_Q5 (Z : State) (a0 : Addr) (q1 : Int64) (x0 : Int64) (x1 : Int64) (h0 : Heap) (n0 : Nat) (v : Option Value) (h : Heap) (L : List Loc) : Prop := v = some (.long (x0 + q1 * x1)) ∧ Fr n0 L ∧ h = h0
set_option maxRecDepth 65536 in
set_option maxHeartbeats 40000000 in
theorem rm5 (l : Launch) (Z : State) (aw : Array Value) (hw : ∀ d ∈ tables_1, d.before aw Z = true) (ws : List Jvm.Cond) (a0 : Addr) (q1 : Int64) (x0 : Int64) (x1 : Int64) (h0 : Heap) (n0 : Nat) (Z0 : n0 ≤ h0.size) (F_a0_originNs : Fld Z h0 a0 "com/example/countersight/countersight/cli/Timelines$Intervals" "originNs" "J" (.long x0)) (F_a0_widthNs : Fld Z h0 a0 "com/example/countersight/countersight/cli/Timelines$Intervals" "widthNs" "J" (.long x1)) :
    MetFree l (⟨"com/example/countersight/countersight/cli/Timelines$Intervals", "start", "(J)J"⟩ : MethodName) (head1 (Jvm.Cond.code (⟨"com/example/countersight/countersight/cli/Timelines$Intervals", "start", "(J)J"⟩ : MethodName) prog_177_method_7_code 3 (some .long) :: ws) ({ frames := 0, cells := 0, slots := 0, locals := 0 } : Room)) (fun a U => a = #[(.ref a0), (.long q1)] ∧ Z.Warmed39 U.vm ∧ U.heap = h0) (fun _ _ _ _ _ => True) (fun _ U o U' => ∃ v L, o = .returned v ∧ own_Q5 Z a0 q1 x0 x1 h0 n0 v U'.heap L ∧ FrameEnd U o U' L ({ frames := 0, cells := 0, slots := 0, locals := 0 } : Room).cells ({ frames := 0, cells := 0, slots := 0, locals := 0 } : Room).slots) := by
  refine MetFree.of_bodySF (plainFor_of_name own_pn1) hisR ?_
  intro p e s m args below meth c s₁ Bd hml0 hP hK
  obtain ⟨rfl, hZ, hh⟩ := hP
  have hx := Bd.exec
  have hby := Bd.bytes
  have hml : c.maxLocals = 3 := hml0
  have hown : s.vm.findClass "com/example/countersight/countersight/cli/Timelines$Intervals" = some m.cls := findClass_of_methodNamed Bd.named
  have hnm := (name_of_methodNamed Bd.named Bd.method).1
  have X0 : Stand p l e ({ frames := 0, cells := 0, slots := 0, locals := 0 } : Room) s m #[(.ref a0), (.long q1)] below meth c s₁ [] 0 0 := Stand.of_body Bd
  have e0 : s₁.heap = h0 := by rw [← hh, Bd.state]; rfl
  have N0 := Fr.nil n0
  show own_G p.tables e below s (own_Q5 Z a0 q1 x0 x1 h0 n0) ({ frames := 0, cells := 0, slots := 0, locals := 0 } : Room).cells ({ frames := 0, cells := 0, slots := 0, locals := 0 } : Room).slots (s₁.setTop (entryFrame m #[(.ref a0), (.long q1)] 3))
  refine own_by (fun _ k => castTop (own_ef5 m a0 q1) k) ?_
  show own_G _ _ _ _ _ _ _ (s₁.setTop (mkF m 0 #[.val (.ref a0), .val (.long q1), .second] []))
  refine own_by (fun _ k => XS.aloadN X0.here hx rfl (hb hby own_d5_0) rfl rfl k) ?_
  show own_G _ _ _ _ _ _ _ (s₁.setTop (mkF m 1 #[.val (.ref a0), .val (.long q1), .second] [(.ref a0)]))
  obtain ⟨T15, X15, e15, st15⟩ := getF X0 hx hZ hown (host := "") (Or.inl (hw _ (List.mem_of_getElem? (i := 19) rfl))) Via.refl e0 F_a0_originNs (g := (mkF m 1 #[.val (.ref a0), .val (.long q1), .second] [(.ref a0)])) rfl rfl (hb hby own_d5_1)
  refine own_by st15 ?_
  show own_G _ _ _ _ _ _ _ (T15.setTop (mkF m 4 #[.val (.ref a0), .val (.long q1), .second] [(.long x0)]))
  refine own_by (fun _ k => XT.lloadN X15.here hx rfl (hb hby own_d5_4) rfl  k) ?_
  show own_G _ _ _ _ _ _ _ (T15.setTop (mkF m 5 #[.val (.ref a0), .val (.long q1), .second] [(.long q1), (.long x0)]))
  refine own_by (fun _ k => XS.aloadN X15.here hx rfl (hb hby own_d5_5) rfl rfl k) ?_
  show own_G _ _ _ _ _ _ _ (T15.setTop (mkF m 6 #[.val (.ref a0), .val (.long q1), .second] [(.ref a0), (.long q1), (.long x0)]))
  obtain ⟨T16, X16, e16, st16⟩ := getF X15 hx hZ hown (host := "") (Or.inl (hw _ (List.mem_of_getElem? (i := 21) rfl))) Via.refl e15 F_a0_widthNs (g := (mkF m 6 #[.val (.ref a0), .val (.long q1), .second] [(.ref a0), (.long q1), (.long x0)])) rfl rfl (hb hby own_d5_6)
  refine own_by st16 ?_
  show own_G _ _ _ _ _ _ _ (T16.setTop (mkF m 9 #[.val (.ref a0), .val (.long q1), .second] [(.long x1), (.long q1), (.long x0)]))
  refine own_by (fun _ k => XT.lmul X16.here hx rfl (hb hby own_d5_9) rfl k) ?_
  show own_G _ _ _ _ _ _ _ (T16.setTop (mkF m 10 #[.val (.ref a0), .val (.long q1), .second] [(.long (q1 * x1)), (.long x0)]))
  refine own_by (fun _ k => XT.ladd X16.here hx rfl (hb hby own_d5_10) rfl k) ?_
  show own_G _ _ _ _ _ _ _ (T16.setTop (mkF m 11 #[.val (.ref a0), .val (.long q1), .second] [(.long (x0 + (q1 * x1)))]))
  exact own_end X16 (v := some (.long (x0 + (q1 * x1)))) (fun h => by rw [Bd.returns] at h; cases h) (BodyLoose.notSynchronized Bd) (fun fs hr => X16.lreturnOut hx Bd.returns (hb hby own_d5_11) hr) (by rw [e16]; exact ⟨rfl, N0, rfl⟩) (by decide) (by decide)
theorem own_d7_0 : decode prog_177_method_6_code 0 = .ok (.lload 4, 2) := by decide +kernel
theorem own_d7_2 : decode prog_177_method_6_code 2 = .ok (.lload_n 0, 1) := by decide +kernel
theorem own_d7_3 : decode prog_177_method_6_code 3 = .ok (.lsub, 1) := by decide +kernel
theorem own_d7_4 : decode prog_177_method_6_code 4 = .ok (.lload_n 2, 1) := by decide +kernel
theorem own_d7_5 : decode prog_177_method_6_code 5 = .ok (.ldiv, 1) := by decide +kernel
theorem own_d7_6 : decode prog_177_method_6_code 6 = .ok (.ldc2_w 119, 3) := by decide +kernel
theorem own_d7_9 : decode prog_177_method_6_code 9 = .ok (.invokestatic 73, 3) := by decide +kernel
theorem own_pd1 : parseMethodDescriptor "(JJ)J" = some ⟨[.long, .long], some .long⟩ := by decide +kernel
theorem own_d7_12 : decode prog_177_method_6_code 12 = .ok (.lreturn, 1) := by decide +kernel
theorem own_ef6 (m : MethodId) (x0 : Int64) (x1 : Int64) (x2 : Int64) : entryFrame m #[(.long x0), (.long x1), (.long x2)] 6 = mkF m 0 #[.val (.long x0), .second, .val (.long x1), .second, .val (.long x2), .second] [] := by first | (simp [entryFrame, mkF, argsToLocals, Value.category]; done) | rfl
def own_Q6 (Z : State) (q0 : Int64) (q1 : Int64) (q2 : Int64) (h0 : Heap) (n0 : Nat) (v : Option Value) (h : Heap) (L : List Loc) : Prop := v = some (.long (own_row q0 q1 q2)) ∧ Fr n0 L ∧ h = h0
set_option maxRecDepth 65536 in
set_option maxHeartbeats 40000000 in
theorem rm6 (l : Launch) (Z : State) (aw : Array Value) (hw : ∀ d ∈ tables_1, d.before aw Z = true) (ws : List Jvm.Cond) (q0 : Int64) (q1 : Int64) (q2 : Int64) (h0 : Heap) (n0 : Nat) (Z0 : n0 ≤ h0.size) (hp : q1 ≠ (0 : Int64)) :
    MetFree l (⟨"com/example/countersight/countersight/cli/Timelines$Intervals", "row", "(JJJ)J"⟩ : MethodName) (head1 (Jvm.Cond.code (⟨"com/example/countersight/countersight/cli/Timelines$Intervals", "row", "(JJJ)J"⟩ : MethodName) prog_177_method_6_code 6 (some .long) :: ws) ({ frames := 1, cells := 0, slots := 0, locals := 15 } : Room)) (fun a U => a = #[(.long q0), (.long q1), (.long q2)] ∧ Z.Warmed39 U.vm ∧ U.heap = h0) (fun _ _ _ _ _ => True) (fun _ U o U' => ∃ v L, o = .returned v ∧ own_Q6 Z q0 q1 q2 h0 n0 v U'.heap L ∧ FrameEnd U o U' L ({ frames := 1, cells := 0, slots := 0, locals := 15 } : Room).cells ({ frames := 1, cells := 0, slots := 0, locals := 15 } : Room).slots) := by
  refine MetFree.of_bodySF (plainFor_of_name own_pn1) hisR ?_
  intro p e s m args below meth c s₁ Bd hml0 hP hK
  obtain ⟨rfl, hZ, hh⟩ := hP
  have hx := Bd.exec
  have hby := Bd.bytes
  have hml : c.maxLocals = 6 := hml0
  have hown : s.vm.findClass "com/example/countersight/countersight/cli/Timelines$Intervals" = some m.cls := findClass_of_methodNamed Bd.named
  have hnm := (name_of_methodNamed Bd.named Bd.method).1
  have X0 : Stand p l e ({ frames := 1, cells := 0, slots := 0, locals := 15 } : Room) s m #[(.long q0), (.long q1), (.long q2)] below meth c s₁ [] 0 0 := Stand.of_body Bd
  have e0 : s₁.heap = h0 := by rw [← hh, Bd.state]; rfl
  have N0 := Fr.nil n0
  show own_G p.tables e below s (own_Q6 Z q0 q1 q2 h0 n0) ({ frames := 1, cells := 0, slots := 0, locals := 15 } : Room).cells ({ frames := 1, cells := 0, slots := 0, locals := 15 } : Room).slots (s₁.setTop (entryFrame m #[(.long q0), (.long q1), (.long q2)] 6))
  refine own_by (fun _ k => castTop (own_ef6 m q0 q1 q2) k) ?_
  show own_G _ _ _ _ _ _ _ (s₁.setTop (mkF m 0 #[.val (.long q0), .second, .val (.long q1), .second, .val (.long q2), .second] []))
  refine own_by (fun _ k => XT.lload X0.here hx rfl (hb hby own_d7_0) rfl  k) ?_
  show own_G _ _ _ _ _ _ _ (s₁.setTop (mkF m 2 #[.val (.long q0), .second, .val (.long q1), .second, .val (.long q2), .second] [(.long q2)]))
  refine own_by (fun _ k => XT.lloadN X0.here hx rfl (hb hby own_d7_2) rfl  k) ?_
  show own_G _ _ _ _ _ _ _ (s₁.setTop (mkF m 3 #[.val (.long q0), .second, .val (.long q1), .second, .val (.long q2), .second] [(.long q0), (.long q2)]))
  refine own_by (fun _ k => XT.lsub X0.here hx rfl (hb hby own_d7_3) rfl k) ?_
  show own_G _ _ _ _ _ _ _ (s₁.setTop (mkF m 4 #[.val (.long q0), .second, .val (.long q1), .second, .val (.long q2), .second] [(.long (q2 - q0))]))
  refine own_by (fun _ k => XT.lloadN X0.here hx rfl (hb hby own_d7_4) rfl  k) ?_
  show own_G _ _ _ _ _ _ _ (s₁.setTop (mkF m 5 #[.val (.long q0), .second, .val (.long q1), .second, .val (.long q2), .second] [(.long q1), (.long (q2 - q0))]))
  refine own_by (fun _ k => XT.ldiv X0.here hx rfl (hb hby own_d7_5) rfl hp k) ?_
  show own_G _ _ _ _ _ _ _ (s₁.setTop (mkF m 6 #[.val (.long q0), .second, .val (.long q1), .second, .val (.long q2), .second] [(.long ((q2 - q0) / q1))]))
  refine own_by (X0.ldc2Long hx hown (mvT hZ (hw _ (List.mem_of_getElem? (i := 40) rfl))) (g := (mkF m 6 #[.val (.long q0), .second, .val (.long q1), .second, .val (.long q2), .second] [(.long ((q2 - q0) / q1))])) rfl (hb hby own_d7_6)) ?_
  show own_G _ _ _ _ _ _ _ (s₁.setTop (mkF m 9 #[.val (.long q0), .second, .val (.long q1), .second, .val (.long q2), .second] [(.long (9223372036854775806 : Int64)), (.long ((q2 - q0) / q1))]))
  obtain ⟨_, _, ⟨T17, L17, k17, n17⟩, -, X17, ⟨Lc17, hQ17, l17, y17, z17⟩, st17⟩ := Jvm.LawKit.callS X0 hx (y := (⟨"java/lang/Math", "min", "(JJ)J"⟩ : MethodName)) hown (mvT hZ (hw _ (List.mem_of_getElem? (i := 41) rfl))) (mvT hZ (hw _ (List.mem_of_getElem? (i := 42) rfl))) (mvT hZ (hw _ (List.mem_of_getElem? (i := 3) rfl))) (mvT hZ (hw _ (List.mem_of_getElem? (i := 43) rfl))) (by decide) (backOf (W := 0) (rm2 l Z aw hw [] ((q2 - q0) / q1) (9223372036854775806 : Int64) h0 n0 Z0 ) hZ (hw _ (List.mem_of_getElem? (i := 43) rfl)) (hw _ (List.mem_of_getElem? (i := 3) rfl)) (by decide) (by decide)) (g := (mkF m 9 #[.val (.long q0), .second, .val (.long q1), .second, .val (.long q2), .second] [(.long (9223372036854775806 : Int64)), (.long ((q2 - q0) / q1))])) rfl (by rw [hml]; rfl) (argsL := [(.long ((q2 - q0) / q1)), (.long (9223372036854775806 : Int64))]) (rest := []) (lenOf own_pd1 rfl) rfl (by show 2 * 0 + _ ≤ _; exact Nat.le_of_eq rfl) (hb hby own_d7_9) (fun _ _ => ⟨rfl, e0, (by decide : 0 + 0 ≤ _), (by decide : 0 + 0 ≤ _)⟩)
  dsimp only [Pt.U, Pt.locs, Pt.cells, Pt.slots] at X17 l17 y17 z17 st17 hQ17
  subst l17 y17 z17
  obtain ⟨rfl, Nq17, e17⟩ := hQ17
  have N17 := Fr.app N0 Nq17
  refine own_by (fun _ k => st17 _ k) ?_
  show own_G _ _ _ _ _ _ _ (T17.setTop (mkF m 12 #[.val (.long q0), .second, .val (.long q1), .second, .val (.long q2), .second] [(.long (own_min ((q2 - q0) / q1) (9223372036854775806 : Int64)))]))
  exact own_end X17 (v := some (.long (own_min ((q2 - q0) / q1) (9223372036854775806 : Int64)))) (fun h => by rw [Bd.returns] at h; cases h) (BodyLoose.notSynchronized Bd) (fun fs hr => X17.lreturnOut hx Bd.returns (hb hby own_d7_12) hr) (by rw [e17]; exact ⟨rfl, N17, rfl⟩) (by decide) (by decide)
theorem own_d6_0 : decode prog_177_method_5_code 0 = .ok (.aload_n 0, 1) := by decide +kernel
theorem own_d6_1 : decode prog_177_method_5_code 1 = .ok (.getfield 7, 3) := by decide +kernel
theorem own_d6_4 : decode prog_177_method_5_code 4 = .ok (.aload_n 0, 1) := by decide +kernel
theorem own_d6_5 : decode prog_177_method_5_code 5 = .ok (.getfield 13, 3) := by decide +kernel
theorem own_d6_8 : decode prog_177_method_5_code 8 = .ok (.lload_n 1, 1) := by decide +kernel
theorem own_d6_9 : decode prog_177_method_5_code 9 = .ok (.invokestatic 92, 3) := by decide +kernel
theorem own_pd2 : parseMethodDescriptor "(JJJ)J" = some ⟨[.long, .long, .long], some .long⟩ := by decide +kernel
theorem own_d6_12 : decode prog_177_method_5_code 12 = .ok (.lreturn, 1) := by decide +kernel
theorem own_ef7 (m : MethodId) (x0 : Addr) (x1 : Int64) : entryFrame m #[(.ref x0), (.long x1)] 3 = mkF m 0 #[.val (.ref x0), .val (.long x1), .second] [] := by first | (simp [entryFrame, mkF, argsToLocals, Value.category]; done) | rfl
def own_Q7 (Z : State) (a0 : Addr) (q1 : Int64) (x0 : Int64) (x1 : Int64) (h0 : Heap) (n0 : Nat) (v : Option Value) (h : Heap) (L : List Loc) : Prop := v = some (.long (own_row x0 x1 q1)) ∧ Fr n0 L ∧ h = h0
set_option maxRecDepth 65536 in
set_option maxHeartbeats 40000000 in
theorem rm7 (l : Launch) (Z : State) (aw : Array Value) (hw : ∀ d ∈ tables_1, d.before aw Z = true) (ws : List Jvm.Cond) (a0 : Addr) (q1 : Int64) (x0 : Int64) (x1 : Int64) (h0 : Heap) (n0 : Nat) (Z0 : n0 ≤ h0.size) (F_a0_originNs : Fld Z h0 a0 "com/example/countersight/countersight/cli/Timelines$Intervals" "originNs" "J" (.long x0)) (F_a0_widthNs : Fld Z h0 a0 "com/example/countersight/countersight/cli/Timelines$Intervals" "widthNs" "J" (.long x1)) (hp : x1 ≠ (0 : Int64)) :
    MetFree l (⟨"com/example/countersight/countersight/cli/Timelines$Intervals", "row", "(J)J"⟩ : MethodName) (head1 (Jvm.Cond.code (⟨"com/example/countersight/countersight/cli/Timelines$Intervals", "row", "(J)J"⟩ : MethodName) prog_177_method_5_code 3 (some .long) :: ws) ({ frames := 2, cells := 0, slots := 0, locals := 32 } : Room)) (fun a U => a = #[(.ref a0), (.long q1)] ∧ Z.Warmed39 U.vm ∧ U.heap = h0) (fun _ _ _ _ _ => True) (fun _ U o U' => ∃ v L, o = .returned v ∧ own_Q7 Z a0 q1 x0 x1 h0 n0 v U'.heap L ∧ FrameEnd U o U' L ({ frames := 2, cells := 0, slots := 0, locals := 32 } : Room).cells ({ frames := 2, cells := 0, slots := 0, locals := 32 } : Room).slots) := by
  refine MetFree.of_bodySF (plainFor_of_name own_pn1) hisR ?_
  intro p e s m args below meth c s₁ Bd hml0 hP hK
  obtain ⟨rfl, hZ, hh⟩ := hP
  have hx := Bd.exec
  have hby := Bd.bytes
  have hml : c.maxLocals = 3 := hml0
  have hown : s.vm.findClass "com/example/countersight/countersight/cli/Timelines$Intervals" = some m.cls := findClass_of_methodNamed Bd.named
  have hnm := (name_of_methodNamed Bd.named Bd.method).1
  have X0 : Stand p l e ({ frames := 2, cells := 0, slots := 0, locals := 32 } : Room) s m #[(.ref a0), (.long q1)] below meth c s₁ [] 0 0 := Stand.of_body Bd
  have e0 : s₁.heap = h0 := by rw [← hh, Bd.state]; rfl
  have N0 := Fr.nil n0
  show own_G p.tables e below s (own_Q7 Z a0 q1 x0 x1 h0 n0) ({ frames := 2, cells := 0, slots := 0, locals := 32 } : Room).cells ({ frames := 2, cells := 0, slots := 0, locals := 32 } : Room).slots (s₁.setTop (entryFrame m #[(.ref a0), (.long q1)] 3))
  refine own_by (fun _ k => castTop (own_ef7 m a0 q1) k) ?_
  show own_G _ _ _ _ _ _ _ (s₁.setTop (mkF m 0 #[.val (.ref a0), .val (.long q1), .second] []))
  refine own_by (fun _ k => XS.aloadN X0.here hx rfl (hb hby own_d6_0) rfl rfl k) ?_
  show own_G _ _ _ _ _ _ _ (s₁.setTop (mkF m 1 #[.val (.ref a0), .val (.long q1), .second] [(.ref a0)]))
  obtain ⟨T18, X18, e18, st18⟩ := getF X0 hx hZ hown (host := "") (Or.inl (hw _ (List.mem_of_getElem? (i := 19) rfl))) Via.refl e0 F_a0_originNs (g := (mkF m 1 #[.val (.ref a0), .val (.long q1), .second] [(.ref a0)])) rfl rfl (hb hby own_d6_1)
  refine own_by st18 ?_
  show own_G _ _ _ _ _ _ _ (T18.setTop (mkF m 4 #[.val (.ref a0), .val (.long q1), .second] [(.long x0)]))
  refine own_by (fun _ k => XS.aloadN X18.here hx rfl (hb hby own_d6_4) rfl rfl k) ?_
  show own_G _ _ _ _ _ _ _ (T18.setTop (mkF m 5 #[.val (.ref a0), .val (.long q1), .second] [(.ref a0), (.long x0)]))
  obtain ⟨T19, X19, e19, st19⟩ := getF X18 hx hZ hown (host := "") (Or.inl (hw _ (List.mem_of_getElem? (i := 21) rfl))) Via.refl e18 F_a0_widthNs (g := (mkF m 5 #[.val (.ref a0), .val (.long q1), .second] [(.ref a0), (.long x0)])) rfl rfl (hb hby own_d6_5)
  refine own_by st19 ?_
  show own_G _ _ _ _ _ _ _ (T19.setTop (mkF m 8 #[.val (.ref a0), .val (.long q1), .second] [(.long x1), (.long x0)]))
  refine own_by (fun _ k => XT.lloadN X19.here hx rfl (hb hby own_d6_8) rfl  k) ?_
  show own_G _ _ _ _ _ _ _ (T19.setTop (mkF m 9 #[.val (.ref a0), .val (.long q1), .second] [(.long q1), (.long x1), (.long x0)]))
  obtain ⟨_, _, ⟨T20, L20, k20, n20⟩, -, X20, ⟨Lc20, hQ20, l20, y20, z20⟩, st20⟩ := Jvm.LawKit.callS X19 hx (y := (⟨"com/example/countersight/countersight/cli/Timelines$Intervals", "row", "(JJJ)J"⟩ : MethodName)) hown (mvT hZ (hw _ (List.mem_of_getElem? (i := 37) rfl))) (mvT hZ (hw _ (List.mem_of_getElem? (i := 38) rfl))) (mvT hZ (hw _ (List.mem_of_getElem? (i := 7) rfl))) (mvT hZ (hw _ (List.mem_of_getElem? (i := 39) rfl))) (by decide) (backOf (W := 0) (rm6 l Z aw hw [] x0 x1 q1 h0 n0 Z0 hp) hZ (hw _ (List.mem_of_getElem? (i := 39) rfl)) (hw _ (List.mem_of_getElem? (i := 7) rfl)) (by decide) (by decide)) (g := (mkF m 9 #[.val (.ref a0), .val (.long q1), .second] [(.long q1), (.long x1), (.long x0)])) rfl (by rw [hml]; rfl) (argsL := [(.long x0), (.long x1), (.long q1)]) (rest := []) (lenOf own_pd2 rfl) rfl (by show 2 * 0 + _ ≤ _; exact Nat.le_of_eq rfl) (hb hby own_d6_9) (fun _ _ => ⟨rfl, e19, (by decide : 0 + 0 ≤ _), (by decide : 0 + 0 ≤ _)⟩)
  dsimp only [Pt.U, Pt.locs, Pt.cells, Pt.slots] at X20 l20 y20 z20 st20 hQ20
  subst l20 y20 z20
  obtain ⟨rfl, Nq20, e20⟩ := hQ20
  have N20 := Fr.app N0 Nq20
  refine own_by (fun _ k => st20 _ k) ?_
  show own_G _ _ _ _ _ _ _ (T20.setTop (mkF m 12 #[.val (.ref a0), .val (.long q1), .second] [(.long (own_row x0 x1 q1))]))
  exact own_end X20 (v := some (.long (own_row x0 x1 q1))) (fun h => by rw [Bd.returns] at h; cases h) (BodyLoose.notSynchronized Bd) (fun fs hr => X20.lreturnOut hx Bd.returns (hb hby own_d6_12) hr) (by rw [e20]; exact ⟨rfl, N20, rfl⟩) (by decide) (by decide)
theorem own_pd3 : parseMethodDescriptor "(JJJJ)V" = some ⟨[.long, .long, .long, .long], none⟩ := by decide +kernel
theorem own_pd4 : parseMethodDescriptor "(J)J" = some ⟨[.long], some .long⟩ := by decide +kernel
theorem own_pn2 : plainName "com/example/countersight/countersight/cli/IntervalsStartPinLaw" = true := by first | (simp [plainName, overriddenIn]; done) | decide +kernel
theorem own_ef0 (m : MethodId) (x0 : Int64) (x1 : Int64) (x2 : Int64) (x3 : Int64) (x4 : Int64) : entryFrame m #[(.long x0), (.long x1), (.long x2), (.long x3), (.long x4)] maxLocals = mkF m 0 #[.val (.long x0), .second, .val (.long x1), .second, .val (.long x2), .second, .val (.long x3), .second, .val (.long x4), .second, .unset, .unset, .unset, .unset, .unset, .unset, .unset, .unset, .unset, .unset, .unset, .unset, .unset, .unset, .unset, .unset, .unset] [] := by first | (simp [entryFrame, mkF, argsToLocals, Value.category, maxLocals]; done) | rfl
def own_Q0 (Z : State) (q0 : Int64) (q1 : Int64) (q2 : Int64) (q3 : Int64) (q4 : Int64) (h0 : Heap) (n0 : Nat) (v : Option Value) (h : Heap) (L : List Loc) : Prop := v = some (.int 1) ∧ Fr n0 L
set_option maxRecDepth 65536 in
set_option maxHeartbeats 40000000 in
theorem rm0 (l : Launch) (Z : State) (aw : Array Value) (hw : ∀ d ∈ tables_1, d.before aw Z = true) (ws : List Jvm.Cond) (q0 : Int64) (q1 : Int64) (q2 : Int64) (q3 : Int64) (q4 : Int64) (h0 : Heap) (n0 : Nat) (Z0 : n0 ≤ h0.size) :
    MetFree l x (head1 (Jvm.Cond.code x code maxLocals ret :: ws) room_1) (fun a U => a = #[(.long q0), (.long q1), (.long q2), (.long q3), (.long q4)] ∧ Z.Warmed39 U.vm ∧ U.heap = h0) (fun _ _ _ _ _ => True) (fun _ U o U' => ∃ v L, o = .returned v ∧ own_Q0 Z q0 q1 q2 q3 q4 h0 n0 v U'.heap L ∧ FrameEnd U o U' L room_1.cells room_1.slots) := by
  refine MetFree.of_bodySF (plainFor_of_name own_pn2) hisR ?_
  intro p e s m args below meth c s₁ Bd hml0 hP hK
  obtain ⟨rfl, hZ, hh⟩ := hP
  have hx := Bd.exec
  have hby := Bd.bytes
  have hml : c.maxLocals = 27 := hml0
  have hown : s.vm.findClass "com/example/countersight/countersight/cli/IntervalsStartPinLaw" = some m.cls := findClass_of_methodNamed Bd.named
  have hnm := (name_of_methodNamed Bd.named Bd.method).1
  have X0 : Stand p l e room_1 s m #[(.long q0), (.long q1), (.long q2), (.long q3), (.long q4)] below meth c s₁ [] 0 0 := Stand.of_body Bd
  have e0 : s₁.heap = h0 := by rw [← hh, Bd.state]; rfl
  have N0 := Fr.nil n0
  show own_G p.tables e below s (own_Q0 Z q0 q1 q2 q3 q4 h0 n0) room_1.cells room_1.slots (s₁.setTop (entryFrame m #[(.long q0), (.long q1), (.long q2), (.long q3), (.long q4)] maxLocals))
  refine own_by (fun _ k => castTop (own_ef0 m q0 q1 q2 q3 q4) k) ?_
  show own_G _ _ _ _ _ _ _ (s₁.setTop (mkF m 0 #[.val (.long q0), .second, .val (.long q1), .second, .val (.long q2), .second, .val (.long q3), .second, .val (.long q4), .second, .unset, .unset, .unset, .unset, .unset, .unset, .unset, .unset, .unset, .unset, .unset, .unset, .unset, .unset, .unset, .unset, .unset] []))
  refine own_by (fun _ k => XT.lconst X0.here hx rfl (hb hby at_0) k) ?_
  show own_G _ _ _ _ _ _ _ (s₁.setTop (mkF m 1 #[.val (.long q0), .second, .val (.long q1), .second, .val (.long q2), .second, .val (.long q3), .second, .val (.long q4), .second, .unset, .unset, .unset, .unset, .unset, .unset, .unset, .unset, .unset, .unset, .unset, .unset, .unset, .unset, .unset, .unset, .unset] [(.long (1 : Int64))]))
  refine own_by (fun _ k => XT.lloadN X0.here hx rfl (hb hby at_1) rfl  k) ?_
  show own_G _ _ _ _ _ _ _ (s₁.setTop (mkF m 2 #[.val (.long q0), .second, .val (.long q1), .second, .val (.long q2), .second, .val (.long q3), .second, .val (.long q4), .second, .unset, .unset, .unset, .unset, .unset, .unset, .unset, .unset, .unset, .unset, .unset, .unset, .unset, .unset, .unset, .unset, .unset] [(.long q1), (.long (1 : Int64))]))
  refine own_by (X0.ldc2Long hx hown (mvT hZ (hw _ (List.mem_of_getElem? (i := 0) rfl))) (g := (mkF m 2 #[.val (.long q0), .second, .val (.long q1), .second, .val (.long q2), .second, .val (.long q3), .second, .val (.long q4), .second, .unset, .unset, .unset, .unset, .unset, .unset, .unset, .unset, .unset, .unset, .unset, .unset, .unset, .unset, .unset, .unset, .unset] [(.long q1), (.long (1 : Int64))])) rfl (hb hby at_2)) ?_
  show own_G _ _ _ _ _ _ _ (s₁.setTop (mkF m 5 #[.val (.long q0), .second, .val (.long q1), .second, .val (.long q2), .second, .val (.long q3), .second, .val (.long q4), .second, .unset, .unset, .unset, .unset, .unset, .unset, .unset, .unset, .unset, .unset, .unset, .unset, .unset, .unset, .unset, .unset, .unset] [(.long (9223372036854775807 : Int64)), (.long q1), (.long (1 : Int64))]))
  refine own_by (fun _ k => XT.land X0.here hx rfl (hb hby at_5) rfl k) ?_
  show own_G _ _ _ _ _ _ _ (s₁.setTop (mkF m 6 #[.val (.long q0), .second, .val (.long q1), .second, .val (.long q2), .second, .val (.long q3), .second, .val (.long q4), .second, .unset, .unset, .unset, .unset, .unset, .unset, .unset, .unset, .unset, .unset, .unset, .unset, .unset, .unset, .unset, .unset, .unset] [(.long (q1 &&& (9223372036854775807 : Int64))), (.long (1 : Int64))]))
  obtain ⟨_, _, ⟨T21, L21, k21, n21⟩, -, X21, ⟨Lc21, hQ21, l21, y21, z21⟩, st21⟩ := Jvm.LawKit.callS X0 hx (y := (⟨"java/lang/Math", "max", "(JJ)J"⟩ : MethodName)) hown (mvT hZ (hw _ (List.mem_of_getElem? (i := 1) rfl))) (mvT hZ (hw _ (List.mem_of_getElem? (i := 2) rfl))) (mvT hZ (hw _ (List.mem_of_getElem? (i := 3) rfl))) (mvT hZ (hw _ (List.mem_of_getElem? (i := 4) rfl))) (by decide) (backOf (W := 0) (rm1 l Z aw hw [] (1 : Int64) (q1 &&& (9223372036854775807 : Int64)) h0 n0 Z0 ) hZ (hw _ (List.mem_of_getElem? (i := 4) rfl)) (hw _ (List.mem_of_getElem? (i := 3) rfl)) (by decide) (by decide)) (g := (mkF m 6 #[.val (.long q0), .second, .val (.long q1), .second, .val (.long q2), .second, .val (.long q3), .second, .val (.long q4), .second, .unset, .unset, .unset, .unset, .unset, .unset, .unset, .unset, .unset, .unset, .unset, .unset, .unset, .unset, .unset, .unset, .unset] [(.long (q1 &&& (9223372036854775807 : Int64))), (.long (1 : Int64))])) rfl (by rw [hml]; rfl) (argsL := [(.long (1 : Int64)), (.long (q1 &&& (9223372036854775807 : Int64)))]) (rest := []) (lenOf own_pd1 rfl) rfl (by show 2 * 0 + _ ≤ _; exact Nat.le_of_eq rfl) (hb hby at_6) (fun _ _ => ⟨rfl, e0, (by decide : 0 + 0 ≤ _), (by decide : 0 + 0 ≤ _)⟩)
  dsimp only [Pt.U, Pt.locs, Pt.cells, Pt.slots] at X21 l21 y21 z21 st21 hQ21
  subst l21 y21 z21
  obtain ⟨rfl, Nq21, e21⟩ := hQ21
  have N21 := Fr.app N0 Nq21
  refine own_by (fun _ k => st21 _ k) ?_
  show own_G _ _ _ _ _ _ _ (T21.setTop (mkF m 9 #[.val (.long q0), .second, .val (.long q1), .second, .val (.long q2), .second, .val (.long q3), .second, .val (.long q4), .second, .unset, .unset, .unset, .unset, .unset, .unset, .unset, .unset, .unset, .unset, .unset, .unset, .unset, .unset, .unset, .unset, .unset] [(.long (own_max (1 : Int64) (q1 &&& (9223372036854775807 : Int64))))]))
  refine own_by (fun _ k => XT.lstore X21.here hx rfl (hb hby at_9) rfl (l' := #[.val (.long q0), .second, .val (.long q1), .second, .val (.long q2), .second, .val (.long q3), .second, .val (.long q4), .second, .val (.long (own_max (1 : Int64) (q1 &&& (9223372036854775807 : Int64)))), .second, .unset, .unset, .unset, .unset, .unset, .unset, .unset, .unset, .unset, .unset, .unset, .unset, .unset, .unset, .unset]) rfl k) ?_
  show own_G _ _ _ _ _ _ _ (T21.setTop (mkF m 11 #[.val (.long q0), .second, .val (.long q1), .second, .val (.long q2), .second, .val (.long q3), .second, .val (.long q4), .second, .val (.long (own_max (1 : Int64) (q1 &&& (9223372036854775807 : Int64)))), .second, .unset, .unset, .unset, .unset, .unset, .unset, .unset, .unset, .unset, .unset, .unset, .unset, .unset, .unset, .unset] []))
  have hw1 : 1 ≤ ((own_max (1 : Int64) (q1 &&& (9223372036854775807 : Int64)))).toInt := own_width _
  generalize (own_max (1 : Int64) (q1 &&& (9223372036854775807 : Int64))) = wd at hw1 ⊢
  show own_G _ _ _ _ _ _ _ (T21.setTop (mkF m 11 #[.val (.long q0), .second, .val (.long q1), .second, .val (.long q2), .second, .val (.long q3), .second, .val (.long q4), .second, .val (.long wd), .second, .unset, .unset, .unset, .unset, .unset, .unset, .unset, .unset, .unset, .unset, .unset, .unset, .unset, .unset, .unset] []))
  refine own_by (X21.ldc2Long hx hown (mvT hZ (hw _ (List.mem_of_getElem? (i := 0) rfl))) (g := (mkF m 11 #[.val (.long q0), .second, .val (.long q1), .second, .val (.long q2), .second, .val (.long q3), .second, .val (.long q4), .second, .val (.long wd), .second, .unset, .unset, .unset, .unset, .unset, .unset, .unset, .unset, .unset, .unset, .unset, .unset, .unset, .unset, .unset] [])) rfl (hb hby at_11)) ?_
  show own_G _ _ _ _ _ _ _ (T21.setTop (mkF m 14 #[.val (.long q0), .second, .val (.long q1), .second, .val (.long q2), .second, .val (.long q3), .second, .val (.long q4), .second, .val (.long wd), .second, .unset, .unset, .unset, .unset, .unset, .unset, .unset, .unset, .unset, .unset, .unset, .unset, .unset, .unset, .unset] [(.long (9223372036854775807 : Int64))]))
  refine own_by (fun _ k => XT.lload X21.here hx rfl (hb hby at_14) rfl  k) ?_
  show own_G _ _ _ _ _ _ _ (T21.setTop (mkF m 16 #[.val (.long q0), .second, .val (.long q1), .second, .val (.long q2), .second, .val (.long q3), .second, .val (.long q4), .second, .val (.long wd), .second, .unset, .unset, .unset, .unset, .unset, .unset, .unset, .unset, .unset, .unset, .unset, .unset, .unset, .unset, .unset] [(.long wd), (.long (9223372036854775807 : Int64))]))
  refine own_by (fun _ k => XT.ldiv X21.here hx rfl (hb hby at_16) rfl (own_ne0 hw1) k) ?_
  show own_G _ _ _ _ _ _ _ (T21.setTop (mkF m 17 #[.val (.long q0), .second, .val (.long q1), .second, .val (.long q2), .second, .val (.long q3), .second, .val (.long q4), .second, .val (.long wd), .second, .unset, .unset, .unset, .unset, .unset, .unset, .unset, .unset, .unset, .unset, .unset, .unset, .unset, .unset, .unset] [(.long ((9223372036854775807 : Int64) / wd))]))
  refine own_by (fun _ k => XT.lstore X21.here hx rfl (hb hby at_17) rfl (l' := #[.val (.long q0), .second, .val (.long q1), .second, .val (.long q2), .second, .val (.long q3), .second, .val (.long q4), .second, .val (.long wd), .second, .val (.long ((9223372036854775807 : Int64) / wd)), .second, .unset, .unset, .unset, .unset, .unset, .unset, .unset, .unset, .unset, .unset, .unset, .unset, .unset]) rfl k) ?_
  show own_G _ _ _ _ _ _ _ (T21.setTop (mkF m 19 #[.val (.long q0), .second, .val (.long q1), .second, .val (.long q2), .second, .val (.long q3), .second, .val (.long q4), .second, .val (.long wd), .second, .val (.long ((9223372036854775807 : Int64) / wd)), .second, .unset, .unset, .unset, .unset, .unset, .unset, .unset, .unset, .unset, .unset, .unset, .unset, .unset] []))
  refine own_by (fun _ k => XT.lload X21.here hx rfl (hb hby at_19) rfl  k) ?_
  show own_G _ _ _ _ _ _ _ (T21.setTop (mkF m 21 #[.val (.long q0), .second, .val (.long q1), .second, .val (.long q2), .second, .val (.long q3), .second, .val (.long q4), .second, .val (.long wd), .second, .val (.long ((9223372036854775807 : Int64) / wd)), .second, .unset, .unset, .unset, .unset, .unset, .unset, .unset, .unset, .unset, .unset, .unset, .unset, .unset] [(.long q2)]))
  refine own_by (X21.ldc2Long hx hown (mvT hZ (hw _ (List.mem_of_getElem? (i := 0) rfl))) (g := (mkF m 21 #[.val (.long q0), .second, .val (.long q1), .second, .val (.long q2), .second, .val (.long q3), .second, .val (.long q4), .second, .val (.long wd), .second, .val (.long ((9223372036854775807 : Int64) / wd)), .second, .unset, .unset, .unset, .unset, .unset, .unset, .unset, .unset, .unset, .unset, .unset, .unset, .unset] [(.long q2)])) rfl (hb hby at_21)) ?_
  show own_G _ _ _ _ _ _ _ (T21.setTop (mkF m 24 #[.val (.long q0), .second, .val (.long q1), .second, .val (.long q2), .second, .val (.long q3), .second, .val (.long q4), .second, .val (.long wd), .second, .val (.long ((9223372036854775807 : Int64) / wd)), .second, .unset, .unset, .unset, .unset, .unset, .unset, .unset, .unset, .unset, .unset, .unset, .unset, .unset] [(.long (9223372036854775807 : Int64)), (.long q2)]))
  refine own_by (fun _ k => XT.land X21.here hx rfl (hb hby at_24) rfl k) ?_
  show own_G _ _ _ _ _ _ _ (T21.setTop (mkF m 25 #[.val (.long q0), .second, .val (.long q1), .second, .val (.long q2), .second, .val (.long q3), .second, .val (.long q4), .second, .val (.long wd), .second, .val (.long ((9223372036854775807 : Int64) / wd)), .second, .unset, .unset, .unset, .unset, .unset, .unset, .unset, .unset, .unset, .unset, .unset, .unset, .unset] [(.long (q2 &&& (9223372036854775807 : Int64)))]))
  refine own_by (fun _ k => XT.lload X21.here hx rfl (hb hby at_25) rfl  k) ?_
  show own_G _ _ _ _ _ _ _ (T21.setTop (mkF m 27 #[.val (.long q0), .second, .val (.long q1), .second, .val (.long q2), .second, .val (.long q3), .second, .val (.long q4), .second, .val (.long wd), .second, .val (.long ((9223372036854775807 : Int64) / wd)), .second, .unset, .unset, .unset, .unset, .unset, .unset, .unset, .unset, .unset, .unset, .unset, .unset, .unset] [(.long ((9223372036854775807 : Int64) / wd)), (.long (q2 &&& (9223372036854775807 : Int64)))]))
  refine own_by (fun _ k => own_lremM X21.here hx rfl (hb hby at_27) rfl (own_ne0 (own_rows hw1)) k) ?_
  show own_G _ _ _ _ _ _ _ (T21.setTop (mkF m 28 #[.val (.long q0), .second, .val (.long q1), .second, .val (.long q2), .second, .val (.long q3), .second, .val (.long q4), .second, .val (.long wd), .second, .val (.long ((9223372036854775807 : Int64) / wd)), .second, .unset, .unset, .unset, .unset, .unset, .unset, .unset, .unset, .unset, .unset, .unset, .unset, .unset] [(.long ((q2 &&& (9223372036854775807 : Int64)) % ((9223372036854775807 : Int64) / wd)))]))
  refine own_by (fun _ k => XT.lstore X21.here hx rfl (hb hby at_28) rfl (l' := #[.val (.long q0), .second, .val (.long q1), .second, .val (.long q2), .second, .val (.long q3), .second, .val (.long q4), .second, .val (.long wd), .second, .val (.long ((9223372036854775807 : Int64) / wd)), .second, .val (.long ((q2 &&& (9223372036854775807 : Int64)) % ((9223372036854775807 : Int64) / wd))), .second, .unset, .unset, .unset, .unset, .unset, .unset, .unset, .unset, .unset, .unset, .unset]) rfl k) ?_
  show own_G _ _ _ _ _ _ _ (T21.setTop (mkF m 30 #[.val (.long q0), .second, .val (.long q1), .second, .val (.long q2), .second, .val (.long q3), .second, .val (.long q4), .second, .val (.long wd), .second, .val (.long ((9223372036854775807 : Int64) / wd)), .second, .val (.long ((q2 &&& (9223372036854775807 : Int64)) % ((9223372036854775807 : Int64) / wd))), .second, .unset, .unset, .unset, .unset, .unset, .unset, .unset, .unset, .unset, .unset, .unset] []))
  refine own_by (fun _ k => XT.lload X21.here hx rfl (hb hby at_30) rfl  k) ?_
  show own_G _ _ _ _ _ _ _ (T21.setTop (mkF m 32 #[.val (.long q0), .second, .val (.long q1), .second, .val (.long q2), .second, .val (.long q3), .second, .val (.long q4), .second, .val (.long wd), .second, .val (.long ((9223372036854775807 : Int64) / wd)), .second, .val (.long ((q2 &&& (9223372036854775807 : Int64)) % ((9223372036854775807 : Int64) / wd))), .second, .unset, .unset, .unset, .unset, .unset, .unset, .unset, .unset, .unset, .unset, .unset] [(.long q3)]))
  refine own_by (X21.ldc2Long hx hown (mvT hZ (hw _ (List.mem_of_getElem? (i := 0) rfl))) (g := (mkF m 32 #[.val (.long q0), .second, .val (.long q1), .second, .val (.long q2), .second, .val (.long q3), .second, .val (.long q4), .second, .val (.long wd), .second, .val (.long ((9223372036854775807 : Int64) / wd)), .second, .val (.long ((q2 &&& (9223372036854775807 : Int64)) % ((9223372036854775807 : Int64) / wd))), .second, .unset, .unset, .unset, .unset, .unset, .unset, .unset, .unset, .unset, .unset, .unset] [(.long q3)])) rfl (hb hby at_32)) ?_
  show own_G _ _ _ _ _ _ _ (T21.setTop (mkF m 35 #[.val (.long q0), .second, .val (.long q1), .second, .val (.long q2), .second, .val (.long q3), .second, .val (.long q4), .second, .val (.long wd), .second, .val (.long ((9223372036854775807 : Int64) / wd)), .second, .val (.long ((q2 &&& (9223372036854775807 : Int64)) % ((9223372036854775807 : Int64) / wd))), .second, .unset, .unset, .unset, .unset, .unset, .unset, .unset, .unset, .unset, .unset, .unset] [(.long (9223372036854775807 : Int64)), (.long q3)]))
  refine own_by (fun _ k => XT.land X21.here hx rfl (hb hby at_35) rfl k) ?_
  show own_G _ _ _ _ _ _ _ (T21.setTop (mkF m 36 #[.val (.long q0), .second, .val (.long q1), .second, .val (.long q2), .second, .val (.long q3), .second, .val (.long q4), .second, .val (.long wd), .second, .val (.long ((9223372036854775807 : Int64) / wd)), .second, .val (.long ((q2 &&& (9223372036854775807 : Int64)) % ((9223372036854775807 : Int64) / wd))), .second, .unset, .unset, .unset, .unset, .unset, .unset, .unset, .unset, .unset, .unset, .unset] [(.long (q3 &&& (9223372036854775807 : Int64)))]))
  refine own_by (fun _ k => XT.lload X21.here hx rfl (hb hby at_36) rfl  k) ?_
  show own_G _ _ _ _ _ _ _ (T21.setTop (mkF m 38 #[.val (.long q0), .second, .val (.long q1), .second, .val (.long q2), .second, .val (.long q3), .second, .val (.long q4), .second, .val (.long wd), .second, .val (.long ((9223372036854775807 : Int64) / wd)), .second, .val (.long ((q2 &&& (9223372036854775807 : Int64)) % ((9223372036854775807 : Int64) / wd))), .second, .unset, .unset, .unset, .unset, .unset, .unset, .unset, .unset, .unset, .unset, .unset] [(.long wd), (.long (q3 &&& (9223372036854775807 : Int64)))]))
  refine own_by (fun _ k => own_lremM X21.here hx rfl (hb hby at_38) rfl (own_ne0 hw1) k) ?_
  show own_G _ _ _ _ _ _ _ (T21.setTop (mkF m 39 #[.val (.long q0), .second, .val (.long q1), .second, .val (.long q2), .second, .val (.long q3), .second, .val (.long q4), .second, .val (.long wd), .second, .val (.long ((9223372036854775807 : Int64) / wd)), .second, .val (.long ((q2 &&& (9223372036854775807 : Int64)) % ((9223372036854775807 : Int64) / wd))), .second, .unset, .unset, .unset, .unset, .unset, .unset, .unset, .unset, .unset, .unset, .unset] [(.long ((q3 &&& (9223372036854775807 : Int64)) % wd))]))
  refine own_by (fun _ k => XT.lstore X21.here hx rfl (hb hby at_39) rfl (l' := #[.val (.long q0), .second, .val (.long q1), .second, .val (.long q2), .second, .val (.long q3), .second, .val (.long q4), .second, .val (.long wd), .second, .val (.long ((9223372036854775807 : Int64) / wd)), .second, .val (.long ((q2 &&& (9223372036854775807 : Int64)) % ((9223372036854775807 : Int64) / wd))), .second, .val (.long ((q3 &&& (9223372036854775807 : Int64)) % wd)), .second, .unset, .unset, .unset, .unset, .unset, .unset, .unset, .unset, .unset]) rfl k) ?_
  show own_G _ _ _ _ _ _ _ (T21.setTop (mkF m 41 #[.val (.long q0), .second, .val (.long q1), .second, .val (.long q2), .second, .val (.long q3), .second, .val (.long q4), .second, .val (.long wd), .second, .val (.long ((9223372036854775807 : Int64) / wd)), .second, .val (.long ((q2 &&& (9223372036854775807 : Int64)) % ((9223372036854775807 : Int64) / wd))), .second, .val (.long ((q3 &&& (9223372036854775807 : Int64)) % wd)), .second, .unset, .unset, .unset, .unset, .unset, .unset, .unset, .unset, .unset] []))
  obtain ⟨T22, h22, X22, e22, E22, A22, D22, -, st22⟩ := newO X21 hx hZ hown (hw _ (List.mem_of_getElem? (i := 5) rfl)) (hw _ (List.mem_of_getElem? (i := 6) rfl)) (hw _ (List.mem_of_getElem? (i := 7) rfl)) e21 (g := (mkF m 41 #[.val (.long q0), .second, .val (.long q1), .second, .val (.long q2), .second, .val (.long q3), .second, .val (.long q4), .second, .val (.long wd), .second, .val (.long ((9223372036854775807 : Int64) / wd)), .second, .val (.long ((q2 &&& (9223372036854775807 : Int64)) % ((9223372036854775807 : Int64) / wd))), .second, .val (.long ((q3 &&& (9223372036854775807 : Int64)) % wd)), .second, .unset, .unset, .unset, .unset, .unset, .unset, .unset, .unset, .unset] [])) rfl (hb hby at_41) (by decide) (by decide)
  obtain ⟨b22, g22⟩ : ∃ z, z = h0.size := ⟨_, rfl⟩
  rw [← g22] at A22 D22 st22
  have g_b22 : n0 ≤ b22 := Nat.le_trans Z0 (Nat.le_of_eq g22.symm)
  refine own_by st22 ?_
  have Z24 : n0 ≤ h22.size := Nat.le_trans Z0 E22.1
  have F22_originNs : Fld Z h22 b22 "com/example/countersight/countersight/cli/Timelines$Intervals" "originNs" "J" (.long (0 : Int64)) := D22 (Or.inr (hw _ (List.mem_of_getElem? (i := 20) rfl))) (ty := .long) (by decide)
  have F22_widthNs : Fld Z h22 b22 "com/example/countersight/countersight/cli/Timelines$Intervals" "widthNs" "J" (.long (0 : Int64)) := D22 (Or.inr (hw _ (List.mem_of_getElem? (i := 22) rfl))) (ty := .long) (by decide)
  have F22_first : Fld Z h22 b22 "com/example/countersight/countersight/cli/Timelines$Intervals" "first" "J" (.long (0 : Int64)) := D22 (Or.inr (hw _ (List.mem_of_getElem? (i := 24) rfl))) (ty := .long) (by decide)
  have F22_count : Fld Z h22 b22 "com/example/countersight/countersight/cli/Timelines$Intervals" "count" "J" (.long (0 : Int64)) := D22 (Or.inr (hw _ (List.mem_of_getElem? (i := 26) rfl))) (ty := .long) (by decide)
  show own_G _ _ _ _ _ _ _ (T22.setTop (mkF m 44 #[.val (.long q0), .second, .val (.long q1), .second, .val (.long q2), .second, .val (.long q3), .second, .val (.long q4), .second, .val (.long wd), .second, .val (.long ((9223372036854775807 : Int64) / wd)), .second, .val (.long ((q2 &&& (9223372036854775807 : Int64)) % ((9223372036854775807 : Int64) / wd))), .second, .val (.long ((q3 &&& (9223372036854775807 : Int64)) % wd)), .second, .unset, .unset, .unset, .unset, .unset, .unset, .unset, .unset, .unset] [(.ref b22)]))
  refine own_by (fun _ k => XS.dup X22.here hx rfl (hb hby at_44) rfl rfl k) ?_
  show own_G _ _ _ _ _ _ _ (T22.setTop (mkF m 45 #[.val (.long q0), .second, .val (.long q1), .second, .val (.long q2), .second, .val (.long q3), .second, .val (.long q4), .second, .val (.long wd), .second, .val (.long ((9223372036854775807 : Int64) / wd)), .second, .val (.long ((q2 &&& (9223372036854775807 : Int64)) % ((9223372036854775807 : Int64) / wd))), .second, .val (.long ((q3 &&& (9223372036854775807 : Int64)) % wd)), .second, .unset, .unset, .unset, .unset, .unset, .unset, .unset, .unset, .unset] [(.ref b22), (.ref b22)]))
  refine own_by (fun _ k => XT.lloadN X22.here hx rfl (hb hby at_45) rfl  k) ?_
  show own_G _ _ _ _ _ _ _ (T22.setTop (mkF m 46 #[.val (.long q0), .second, .val (.long q1), .second, .val (.long q2), .second, .val (.long q3), .second, .val (.long q4), .second, .val (.long wd), .second, .val (.long ((9223372036854775807 : Int64) / wd)), .second, .val (.long ((q2 &&& (9223372036854775807 : Int64)) % ((9223372036854775807 : Int64) / wd))), .second, .val (.long ((q3 &&& (9223372036854775807 : Int64)) % wd)), .second, .unset, .unset, .unset, .unset, .unset, .unset, .unset, .unset, .unset] [(.long q0), (.ref b22), (.ref b22)]))
  refine own_by (fun _ k => XT.lload X22.here hx rfl (hb hby at_46) rfl  k) ?_
  show own_G _ _ _ _ _ _ _ (T22.setTop (mkF m 48 #[.val (.long q0), .second, .val (.long q1), .second, .val (.long q2), .second, .val (.long q3), .second, .val (.long q4), .second, .val (.long wd), .second, .val (.long ((9223372036854775807 : Int64) / wd)), .second, .val (.long ((q2 &&& (9223372036854775807 : Int64)) % ((9223372036854775807 : Int64) / wd))), .second, .val (.long ((q3 &&& (9223372036854775807 : Int64)) % wd)), .second, .unset, .unset, .unset, .unset, .unset, .unset, .unset, .unset, .unset] [(.long wd), (.long q0), (.ref b22), (.ref b22)]))
  refine own_by (fun _ k => XT.lload X22.here hx rfl (hb hby at_48) rfl  k) ?_
  show own_G _ _ _ _ _ _ _ (T22.setTop (mkF m 50 #[.val (.long q0), .second, .val (.long q1), .second, .val (.long q2), .second, .val (.long q3), .second, .val (.long q4), .second, .val (.long wd), .second, .val (.long ((9223372036854775807 : Int64) / wd)), .second, .val (.long ((q2 &&& (9223372036854775807 : Int64)) % ((9223372036854775807 : Int64) / wd))), .second, .val (.long ((q3 &&& (9223372036854775807 : Int64)) % wd)), .second, .unset, .unset, .unset, .unset, .unset, .unset, .unset, .unset, .unset] [(.long q4), (.long wd), (.long q0), (.ref b22), (.ref b22)]))
  refine own_by (fun _ k => XT.lload X22.here hx rfl (hb hby at_50) rfl  k) ?_
  show own_G _ _ _ _ _ _ _ (T22.setTop (mkF m 52 #[.val (.long q0), .second, .val (.long q1), .second, .val (.long q2), .second, .val (.long q3), .second, .val (.long q4), .second, .val (.long wd), .second, .val (.long ((9223372036854775807 : Int64) / wd)), .second, .val (.long ((q2 &&& (9223372036854775807 : Int64)) % ((9223372036854775807 : Int64) / wd))), .second, .val (.long ((q3 &&& (9223372036854775807 : Int64)) % wd)), .second, .unset, .unset, .unset, .unset, .unset, .unset, .unset, .unset, .unset] [(.long q4), (.long q4), (.long wd), (.long q0), (.ref b22), (.ref b22)]))
  obtain ⟨_, _, ⟨T25, L25, k25, n25⟩, -, X25, ⟨Lc25, hQ25, l25, y25, z25⟩, st25⟩ := X22.specialBack hx (y := (⟨"com/example/countersight/countersight/cli/Timelines$Intervals", "<init>", "(JJJJ)V"⟩ : MethodName)) rfl hown (mvT hZ (hw _ (List.mem_of_getElem? (i := 8) rfl))) (mvT hZ (hw _ (List.mem_of_getElem? (i := 9) rfl))) (mvT hZ (hw _ (List.mem_of_getElem? (i := 10) rfl))) (by decide) (backOf (W := 1) (rm4 l Z aw hw [] b22 q0 wd q4 q4 h22 n0 Z24 A22 F22_originNs F22_widthNs F22_first F22_count g_b22) hZ (hw _ (List.mem_of_getElem? (i := 10) rfl)) (hw _ (List.mem_of_getElem? (i := 7) rfl)) (by decide) (by decide)) (g := (mkF m 52 #[.val (.long q0), .second, .val (.long q1), .second, .val (.long q2), .second, .val (.long q3), .second, .val (.long q4), .second, .val (.long wd), .second, .val (.long ((9223372036854775807 : Int64) / wd)), .second, .val (.long ((q2 &&& (9223372036854775807 : Int64)) % ((9223372036854775807 : Int64) / wd))), .second, .val (.long ((q3 &&& (9223372036854775807 : Int64)) % wd)), .second, .unset, .unset, .unset, .unset, .unset, .unset, .unset, .unset, .unset] [(.long q4), (.long q4), (.long wd), (.long q0), (.ref b22), (.ref b22)])) rfl (by rw [hml]; rfl) (Steps.refl _) (a := b22) (argsL := [(.long q0), (.long wd), (.long q4), (.long q4)]) (rest := [(.ref b22)]) (lenOf own_pd3 rfl) rfl (by show 2 * 0 + _ ≤ _; exact Nat.le_of_eq rfl) (hb hby at_52) (fun _ _ => ⟨rfl, e22, (by decide : 1 + 0 ≤ _), (by decide : 4 + 0 ≤ _)⟩)
  dsimp only [Pt.U, Pt.locs, Pt.cells, Pt.slots] at X25 l25 y25 z25 st25 hQ25
  subst l25 y25 z25
  obtain ⟨h25, e25⟩ : ∃ h, T25.heap = h := ⟨_, rfl⟩
  rw [e25] at hQ25
  obtain ⟨rfl, Nq25, K25, E25, G25_0, G25_1, G25_2, G25_3⟩ := hQ25
  have N25 := Fr.app N21 Nq25
  have F26_0 := A22.keep K25
  have Z27 : n0 ≤ h25.size := Nat.le_trans Z24 K25.1
  refine own_by (fun _ k => st25.trans k) ?_
  show own_G _ _ _ _ _ _ _ (T25.setTop (mkF m 55 #[.val (.long q0), .second, .val (.long q1), .second, .val (.long q2), .second, .val (.long q3), .second, .val (.long q4), .second, .val (.long wd), .second, .val (.long ((9223372036854775807 : Int64) / wd)), .second, .val (.long ((q2 &&& (9223372036854775807 : Int64)) % ((9223372036854775807 : Int64) / wd))), .second, .val (.long ((q3 &&& (9223372036854775807 : Int64)) % wd)), .second, .unset, .unset, .unset, .unset, .unset, .unset, .unset, .unset, .unset] [(.ref b22)]))
  refine own_by (fun _ k => XS.astore X25.here hx rfl (hb hby at_55) rfl rfl (l' := #[.val (.long q0), .second, .val (.long q1), .second, .val (.long q2), .second, .val (.long q3), .second, .val (.long q4), .second, .val (.long wd), .second, .val (.long ((9223372036854775807 : Int64) / wd)), .second, .val (.long ((q2 &&& (9223372036854775807 : Int64)) % ((9223372036854775807 : Int64) / wd))), .second, .val (.long ((q3 &&& (9223372036854775807 : Int64)) % wd)), .second, .val (.ref b22), .unset, .unset, .unset, .unset, .unset, .unset, .unset, .unset]) rfl k) ?_
  show own_G _ _ _ _ _ _ _ (T25.setTop (mkF m 57 #[.val (.long q0), .second, .val (.long q1), .second, .val (.long q2), .second, .val (.long q3), .second, .val (.long q4), .second, .val (.long wd), .second, .val (.long ((9223372036854775807 : Int64) / wd)), .second, .val (.long ((q2 &&& (9223372036854775807 : Int64)) % ((9223372036854775807 : Int64) / wd))), .second, .val (.long ((q3 &&& (9223372036854775807 : Int64)) % wd)), .second, .val (.ref b22), .unset, .unset, .unset, .unset, .unset, .unset, .unset, .unset] []))
  refine own_by (fun _ k => XS.aload X25.here hx rfl (hb hby at_57) rfl rfl k) ?_
  show own_G _ _ _ _ _ _ _ (T25.setTop (mkF m 59 #[.val (.long q0), .second, .val (.long q1), .second, .val (.long q2), .second, .val (.long q3), .second, .val (.long q4), .second, .val (.long wd), .second, .val (.long ((9223372036854775807 : Int64) / wd)), .second, .val (.long ((q2 &&& (9223372036854775807 : Int64)) % ((9223372036854775807 : Int64) / wd))), .second, .val (.long ((q3 &&& (9223372036854775807 : Int64)) % wd)), .second, .val (.ref b22), .unset, .unset, .unset, .unset, .unset, .unset, .unset, .unset] [(.ref b22)]))
  refine own_by (fun _ k => XT.lconst X25.here hx rfl (hb hby at_59) k) ?_
  show own_G _ _ _ _ _ _ _ (T25.setTop (mkF m 60 #[.val (.long q0), .second, .val (.long q1), .second, .val (.long q2), .second, .val (.long q3), .second, .val (.long q4), .second, .val (.long wd), .second, .val (.long ((9223372036854775807 : Int64) / wd)), .second, .val (.long ((q2 &&& (9223372036854775807 : Int64)) % ((9223372036854775807 : Int64) / wd))), .second, .val (.long ((q3 &&& (9223372036854775807 : Int64)) % wd)), .second, .val (.ref b22), .unset, .unset, .unset, .unset, .unset, .unset, .unset, .unset] [(.long (0 : Int64)), (.ref b22)]))
  obtain ⟨cq28, kq28, q28a, q28b, q28c⟩ := isOf hZ e25 E25
  obtain ⟨_, _, ⟨T28, L28, k28, n28⟩, -, X28, ⟨Lc28, hQ28, l28, y28, z28⟩, st28⟩ := X25.virtualBack hx (y := (⟨"com/example/countersight/countersight/cli/Timelines$Intervals", "start", "(J)J"⟩ : MethodName)) (z := (⟨"com/example/countersight/countersight/cli/Timelines$Intervals", "start", "(J)J"⟩ : MethodName)) hown (mvT hZ (hw _ (List.mem_of_getElem? (i := 27) rfl))) (mvT hZ (hw _ (List.mem_of_getElem? (i := 28) rfl))) (notFace_of_selects (args := #[]) (mvT hZ (hw _ (List.mem_of_getElem? (i := 30) rfl)))) (mvT hZ (hw _ (List.mem_of_getElem? (i := 30) rfl))) (mvT hZ (hw _ (List.mem_of_getElem? (i := 29) rfl))) (by decide) (backOf (W := 0) (rm5 l Z aw hw [] b22 (0 : Int64) q0 wd h25 n0 Z27 G25_0 G25_1) hZ (hw _ (List.mem_of_getElem? (i := 31) rfl)) (hw _ (List.mem_of_getElem? (i := 7) rfl)) (by decide) (by decide)) q28a q28c (g := (mkF m 60 #[.val (.long q0), .second, .val (.long q1), .second, .val (.long q2), .second, .val (.long q3), .second, .val (.long q4), .second, .val (.long wd), .second, .val (.long ((9223372036854775807 : Int64) / wd)), .second, .val (.long ((q2 &&& (9223372036854775807 : Int64)) % ((9223372036854775807 : Int64) / wd))), .second, .val (.long ((q3 &&& (9223372036854775807 : Int64)) % wd)), .second, .val (.ref b22), .unset, .unset, .unset, .unset, .unset, .unset, .unset, .unset] [(.long (0 : Int64)), (.ref b22)])) rfl (by rw [hml]; rfl) (Steps.refl _) (argsL := [(.long (0 : Int64))]) (rest := []) (lenOf own_pd4 rfl) rfl (by show 2 * 0 + _ ≤ _; exact Nat.le_of_eq rfl) (hb hby at_60) (fun _ _ => ⟨rfl, e25, (by decide : 1 + 0 ≤ _), (by decide : 4 + 0 ≤ _)⟩)
  dsimp only [Pt.U, Pt.locs, Pt.cells, Pt.slots] at X28 l28 y28 z28 st28 hQ28
  subst l28 y28 z28
  obtain ⟨rfl, Nq28, e28⟩ := hQ28
  have N28 := Fr.app N25 Nq28
  refine own_by (fun _ k => st28.trans k) ?_
  show own_G _ _ _ _ _ _ _ (T28.setTop (mkF m 63 #[.val (.long q0), .second, .val (.long q1), .second, .val (.long q2), .second, .val (.long q3), .second, .val (.long q4), .second, .val (.long wd), .second, .val (.long ((9223372036854775807 : Int64) / wd)), .second, .val (.long ((q2 &&& (9223372036854775807 : Int64)) % ((9223372036854775807 : Int64) / wd))), .second, .val (.long ((q3 &&& (9223372036854775807 : Int64)) % wd)), .second, .val (.ref b22), .unset, .unset, .unset, .unset, .unset, .unset, .unset, .unset] [(.long (q0 + (0 : Int64) * wd))]))
  refine own_by (fun _ k => XT.lstore X28.here hx rfl (hb hby at_63) rfl (l' := #[.val (.long q0), .second, .val (.long q1), .second, .val (.long q2), .second, .val (.long q3), .second, .val (.long q4), .second, .val (.long wd), .second, .val (.long ((9223372036854775807 : Int64) / wd)), .second, .val (.long ((q2 &&& (9223372036854775807 : Int64)) % ((9223372036854775807 : Int64) / wd))), .second, .val (.long ((q3 &&& (9223372036854775807 : Int64)) % wd)), .second, .val (.ref b22), .val (.long (q0 + (0 : Int64) * wd)), .second, .unset, .unset, .unset, .unset, .unset, .unset]) rfl k) ?_
  show own_G _ _ _ _ _ _ _ (T28.setTop (mkF m 65 #[.val (.long q0), .second, .val (.long q1), .second, .val (.long q2), .second, .val (.long q3), .second, .val (.long q4), .second, .val (.long wd), .second, .val (.long ((9223372036854775807 : Int64) / wd)), .second, .val (.long ((q2 &&& (9223372036854775807 : Int64)) % ((9223372036854775807 : Int64) / wd))), .second, .val (.long ((q3 &&& (9223372036854775807 : Int64)) % wd)), .second, .val (.ref b22), .val (.long (q0 + (0 : Int64) * wd)), .second, .unset, .unset, .unset, .unset, .unset, .unset] []))
  refine own_by (fun _ k => XS.aload X28.here hx rfl (hb hby at_65) rfl rfl k) ?_
  show own_G _ _ _ _ _ _ _ (T28.setTop (mkF m 67 #[.val (.long q0), .second, .val (.long q1), .second, .val (.long q2), .second, .val (.long q3), .second, .val (.long q4), .second, .val (.long wd), .second, .val (.long ((9223372036854775807 : Int64) / wd)), .second, .val (.long ((q2 &&& (9223372036854775807 : Int64)) % ((9223372036854775807 : Int64) / wd))), .second, .val (.long ((q3 &&& (9223372036854775807 : Int64)) % wd)), .second, .val (.ref b22), .val (.long (q0 + (0 : Int64) * wd)), .second, .unset, .unset, .unset, .unset, .unset, .unset] [(.ref b22)]))
  refine own_by (fun _ k => XT.lload X28.here hx rfl (hb hby at_67) rfl  k) ?_
  show own_G _ _ _ _ _ _ _ (T28.setTop (mkF m 69 #[.val (.long q0), .second, .val (.long q1), .second, .val (.long q2), .second, .val (.long q3), .second, .val (.long q4), .second, .val (.long wd), .second, .val (.long ((9223372036854775807 : Int64) / wd)), .second, .val (.long ((q2 &&& (9223372036854775807 : Int64)) % ((9223372036854775807 : Int64) / wd))), .second, .val (.long ((q3 &&& (9223372036854775807 : Int64)) % wd)), .second, .val (.ref b22), .val (.long (q0 + (0 : Int64) * wd)), .second, .unset, .unset, .unset, .unset, .unset, .unset] [(.long ((q2 &&& (9223372036854775807 : Int64)) % ((9223372036854775807 : Int64) / wd))), (.ref b22)]))
  obtain ⟨cq29, kq29, q29a, q29b, q29c⟩ := isOf hZ e28 E25
  obtain ⟨_, _, ⟨T29, L29, k29, n29⟩, -, X29, ⟨Lc29, hQ29, l29, y29, z29⟩, st29⟩ := X28.virtualBack hx (y := (⟨"com/example/countersight/countersight/cli/Timelines$Intervals", "start", "(J)J"⟩ : MethodName)) (z := (⟨"com/example/countersight/countersight/cli/Timelines$Intervals", "start", "(J)J"⟩ : MethodName)) hown (mvT hZ (hw _ (List.mem_of_getElem? (i := 27) rfl))) (mvT hZ (hw _ (List.mem_of_getElem? (i := 28) rfl))) (notFace_of_selects (args := #[]) (mvT hZ (hw _ (List.mem_of_getElem? (i := 30) rfl)))) (mvT hZ (hw _ (List.mem_of_getElem? (i := 30) rfl))) (mvT hZ (hw _ (List.mem_of_getElem? (i := 29) rfl))) (by decide) (backOf (W := 0) (rm5 l Z aw hw [] b22 ((q2 &&& (9223372036854775807 : Int64)) % ((9223372036854775807 : Int64) / wd)) q0 wd h25 n0 Z27 G25_0 G25_1) hZ (hw _ (List.mem_of_getElem? (i := 31) rfl)) (hw _ (List.mem_of_getElem? (i := 7) rfl)) (by decide) (by decide)) q29a q29c (g := (mkF m 69 #[.val (.long q0), .second, .val (.long q1), .second, .val (.long q2), .second, .val (.long q3), .second, .val (.long q4), .second, .val (.long wd), .second, .val (.long ((9223372036854775807 : Int64) / wd)), .second, .val (.long ((q2 &&& (9223372036854775807 : Int64)) % ((9223372036854775807 : Int64) / wd))), .second, .val (.long ((q3 &&& (9223372036854775807 : Int64)) % wd)), .second, .val (.ref b22), .val (.long (q0 + (0 : Int64) * wd)), .second, .unset, .unset, .unset, .unset, .unset, .unset] [(.long ((q2 &&& (9223372036854775807 : Int64)) % ((9223372036854775807 : Int64) / wd))), (.ref b22)])) rfl (by rw [hml]; rfl) (Steps.refl _) (argsL := [(.long ((q2 &&& (9223372036854775807 : Int64)) % ((9223372036854775807 : Int64) / wd)))]) (rest := []) (lenOf own_pd4 rfl) rfl (by show 2 * 0 + _ ≤ _; exact Nat.le_of_eq rfl) (hb hby at_69) (fun _ _ => ⟨rfl, e28, (by decide : 1 + 0 ≤ _), (by decide : 4 + 0 ≤ _)⟩)
  dsimp only [Pt.U, Pt.locs, Pt.cells, Pt.slots] at X29 l29 y29 z29 st29 hQ29
  subst l29 y29 z29
  obtain ⟨rfl, Nq29, e29⟩ := hQ29
  have N29 := Fr.app N28 Nq29
  refine own_by (fun _ k => st29.trans k) ?_
  show own_G _ _ _ _ _ _ _ (T29.setTop (mkF m 72 #[.val (.long q0), .second, .val (.long q1), .second, .val (.long q2), .second, .val (.long q3), .second, .val (.long q4), .second, .val (.long wd), .second, .val (.long ((9223372036854775807 : Int64) / wd)), .second, .val (.long ((q2 &&& (9223372036854775807 : Int64)) % ((9223372036854775807 : Int64) / wd))), .second, .val (.long ((q3 &&& (9223372036854775807 : Int64)) % wd)), .second, .val (.ref b22), .val (.long (q0 + (0 : Int64) * wd)), .second, .unset, .unset, .unset, .unset, .unset, .unset] [(.long (q0 + ((q2 &&& (9223372036854775807 : Int64)) % ((9223372036854775807 : Int64) / wd)) * wd))]))
  refine own_by (fun _ k => XT.lstore X29.here hx rfl (hb hby at_72) rfl (l' := #[.val (.long q0), .second, .val (.long q1), .second, .val (.long q2), .second, .val (.long q3), .second, .val (.long q4), .second, .val (.long wd), .second, .val (.long ((9223372036854775807 : Int64) / wd)), .second, .val (.long ((q2 &&& (9223372036854775807 : Int64)) % ((9223372036854775807 : Int64) / wd))), .second, .val (.long ((q3 &&& (9223372036854775807 : Int64)) % wd)), .second, .val (.ref b22), .val (.long (q0 + (0 : Int64) * wd)), .second, .val (.long (q0 + ((q2 &&& (9223372036854775807 : Int64)) % ((9223372036854775807 : Int64) / wd)) * wd)), .second, .unset, .unset, .unset, .unset]) rfl k) ?_
  show own_G _ _ _ _ _ _ _ (T29.setTop (mkF m 74 #[.val (.long q0), .second, .val (.long q1), .second, .val (.long q2), .second, .val (.long q3), .second, .val (.long q4), .second, .val (.long wd), .second, .val (.long ((9223372036854775807 : Int64) / wd)), .second, .val (.long ((q2 &&& (9223372036854775807 : Int64)) % ((9223372036854775807 : Int64) / wd))), .second, .val (.long ((q3 &&& (9223372036854775807 : Int64)) % wd)), .second, .val (.ref b22), .val (.long (q0 + (0 : Int64) * wd)), .second, .val (.long (q0 + ((q2 &&& (9223372036854775807 : Int64)) % ((9223372036854775807 : Int64) / wd)) * wd)), .second, .unset, .unset, .unset, .unset] []))
  refine own_by (fun _ k => XS.aload X29.here hx rfl (hb hby at_74) rfl rfl k) ?_
  show own_G _ _ _ _ _ _ _ (T29.setTop (mkF m 76 #[.val (.long q0), .second, .val (.long q1), .second, .val (.long q2), .second, .val (.long q3), .second, .val (.long q4), .second, .val (.long wd), .second, .val (.long ((9223372036854775807 : Int64) / wd)), .second, .val (.long ((q2 &&& (9223372036854775807 : Int64)) % ((9223372036854775807 : Int64) / wd))), .second, .val (.long ((q3 &&& (9223372036854775807 : Int64)) % wd)), .second, .val (.ref b22), .val (.long (q0 + (0 : Int64) * wd)), .second, .val (.long (q0 + ((q2 &&& (9223372036854775807 : Int64)) % ((9223372036854775807 : Int64) / wd)) * wd)), .second, .unset, .unset, .unset, .unset] [(.ref b22)]))
  refine own_by (fun _ k => XT.lload X29.here hx rfl (hb hby at_76) rfl  k) ?_
  show own_G _ _ _ _ _ _ _ (T29.setTop (mkF m 78 #[.val (.long q0), .second, .val (.long q1), .second, .val (.long q2), .second, .val (.long q3), .second, .val (.long q4), .second, .val (.long wd), .second, .val (.long ((9223372036854775807 : Int64) / wd)), .second, .val (.long ((q2 &&& (9223372036854775807 : Int64)) % ((9223372036854775807 : Int64) / wd))), .second, .val (.long ((q3 &&& (9223372036854775807 : Int64)) % wd)), .second, .val (.ref b22), .val (.long (q0 + (0 : Int64) * wd)), .second, .val (.long (q0 + ((q2 &&& (9223372036854775807 : Int64)) % ((9223372036854775807 : Int64) / wd)) * wd)), .second, .unset, .unset, .unset, .unset] [(.long ((q2 &&& (9223372036854775807 : Int64)) % ((9223372036854775807 : Int64) / wd))), (.ref b22)]))
  refine own_by (fun _ k => XT.lconst X29.here hx rfl (hb hby at_78) k) ?_
  show own_G _ _ _ _ _ _ _ (T29.setTop (mkF m 79 #[.val (.long q0), .second, .val (.long q1), .second, .val (.long q2), .second, .val (.long q3), .second, .val (.long q4), .second, .val (.long wd), .second, .val (.long ((9223372036854775807 : Int64) / wd)), .second, .val (.long ((q2 &&& (9223372036854775807 : Int64)) % ((9223372036854775807 : Int64) / wd))), .second, .val (.long ((q3 &&& (9223372036854775807 : Int64)) % wd)), .second, .val (.ref b22), .val (.long (q0 + (0 : Int64) * wd)), .second, .val (.long (q0 + ((q2 &&& (9223372036854775807 : Int64)) % ((9223372036854775807 : Int64) / wd)) * wd)), .second, .unset, .unset, .unset, .unset] [(.long (1 : Int64)), (.long ((q2 &&& (9223372036854775807 : Int64)) % ((9223372036854775807 : Int64) / wd))), (.ref b22)]))
  refine own_by (fun _ k => XT.ladd X29.here hx rfl (hb hby at_79) rfl k) ?_
  show own_G _ _ _ _ _ _ _ (T29.setTop (mkF m 80 #[.val (.long q0), .second, .val (.long q1), .second, .val (.long q2), .second, .val (.long q3), .second, .val (.long q4), .second, .val (.long wd), .second, .val (.long ((9223372036854775807 : Int64) / wd)), .second, .val (.long ((q2 &&& (9223372036854775807 : Int64)) % ((9223372036854775807 : Int64) / wd))), .second, .val (.long ((q3 &&& (9223372036854775807 : Int64)) % wd)), .second, .val (.ref b22), .val (.long (q0 + (0 : Int64) * wd)), .second, .val (.long (q0 + ((q2 &&& (9223372036854775807 : Int64)) % ((9223372036854775807 : Int64) / wd)) * wd)), .second, .unset, .unset, .unset, .unset] [(.long (((q2 &&& (9223372036854775807 : Int64)) % ((9223372036854775807 : Int64) / wd)) + (1 : Int64))), (.ref b22)]))
  obtain ⟨cq30, kq30, q30a, q30b, q30c⟩ := isOf hZ e29 E25
  obtain ⟨_, _, ⟨T30, L30, k30, n30⟩, -, X30, ⟨Lc30, hQ30, l30, y30, z30⟩, st30⟩ := X29.virtualBack hx (y := (⟨"com/example/countersight/countersight/cli/Timelines$Intervals", "start", "(J)J"⟩ : MethodName)) (z := (⟨"com/example/countersight/countersight/cli/Timelines$Intervals", "start", "(J)J"⟩ : MethodName)) hown (mvT hZ (hw _ (List.mem_of_getElem? (i := 27) rfl))) (mvT hZ (hw _ (List.mem_of_getElem? (i := 28) rfl))) (notFace_of_selects (args := #[]) (mvT hZ (hw _ (List.mem_of_getElem? (i := 30) rfl)))) (mvT hZ (hw _ (List.mem_of_getElem? (i := 30) rfl))) (mvT hZ (hw _ (List.mem_of_getElem? (i := 29) rfl))) (by decide) (backOf (W := 0) (rm5 l Z aw hw [] b22 (((q2 &&& (9223372036854775807 : Int64)) % ((9223372036854775807 : Int64) / wd)) + (1 : Int64)) q0 wd h25 n0 Z27 G25_0 G25_1) hZ (hw _ (List.mem_of_getElem? (i := 31) rfl)) (hw _ (List.mem_of_getElem? (i := 7) rfl)) (by decide) (by decide)) q30a q30c (g := (mkF m 80 #[.val (.long q0), .second, .val (.long q1), .second, .val (.long q2), .second, .val (.long q3), .second, .val (.long q4), .second, .val (.long wd), .second, .val (.long ((9223372036854775807 : Int64) / wd)), .second, .val (.long ((q2 &&& (9223372036854775807 : Int64)) % ((9223372036854775807 : Int64) / wd))), .second, .val (.long ((q3 &&& (9223372036854775807 : Int64)) % wd)), .second, .val (.ref b22), .val (.long (q0 + (0 : Int64) * wd)), .second, .val (.long (q0 + ((q2 &&& (9223372036854775807 : Int64)) % ((9223372036854775807 : Int64) / wd)) * wd)), .second, .unset, .unset, .unset, .unset] [(.long (((q2 &&& (9223372036854775807 : Int64)) % ((9223372036854775807 : Int64) / wd)) + (1 : Int64))), (.ref b22)])) rfl (by rw [hml]; rfl) (Steps.refl _) (argsL := [(.long (((q2 &&& (9223372036854775807 : Int64)) % ((9223372036854775807 : Int64) / wd)) + (1 : Int64)))]) (rest := []) (lenOf own_pd4 rfl) rfl (by show 2 * 0 + _ ≤ _; exact Nat.le_of_eq rfl) (hb hby at_80) (fun _ _ => ⟨rfl, e29, (by decide : 1 + 0 ≤ _), (by decide : 4 + 0 ≤ _)⟩)
  dsimp only [Pt.U, Pt.locs, Pt.cells, Pt.slots] at X30 l30 y30 z30 st30 hQ30
  subst l30 y30 z30
  obtain ⟨rfl, Nq30, e30⟩ := hQ30
  have N30 := Fr.app N29 Nq30
  refine own_by (fun _ k => st30.trans k) ?_
  show own_G _ _ _ _ _ _ _ (T30.setTop (mkF m 83 #[.val (.long q0), .second, .val (.long q1), .second, .val (.long q2), .second, .val (.long q3), .second, .val (.long q4), .second, .val (.long wd), .second, .val (.long ((9223372036854775807 : Int64) / wd)), .second, .val (.long ((q2 &&& (9223372036854775807 : Int64)) % ((9223372036854775807 : Int64) / wd))), .second, .val (.long ((q3 &&& (9223372036854775807 : Int64)) % wd)), .second, .val (.ref b22), .val (.long (q0 + (0 : Int64) * wd)), .second, .val (.long (q0 + ((q2 &&& (9223372036854775807 : Int64)) % ((9223372036854775807 : Int64) / wd)) * wd)), .second, .unset, .unset, .unset, .unset] [(.long (q0 + (((q2 &&& (9223372036854775807 : Int64)) % ((9223372036854775807 : Int64) / wd)) + (1 : Int64)) * wd))]))
  refine own_by (fun _ k => XT.lstore X30.here hx rfl (hb hby at_83) rfl (l' := #[.val (.long q0), .second, .val (.long q1), .second, .val (.long q2), .second, .val (.long q3), .second, .val (.long q4), .second, .val (.long wd), .second, .val (.long ((9223372036854775807 : Int64) / wd)), .second, .val (.long ((q2 &&& (9223372036854775807 : Int64)) % ((9223372036854775807 : Int64) / wd))), .second, .val (.long ((q3 &&& (9223372036854775807 : Int64)) % wd)), .second, .val (.ref b22), .val (.long (q0 + (0 : Int64) * wd)), .second, .val (.long (q0 + ((q2 &&& (9223372036854775807 : Int64)) % ((9223372036854775807 : Int64) / wd)) * wd)), .second, .val (.long (q0 + (((q2 &&& (9223372036854775807 : Int64)) % ((9223372036854775807 : Int64) / wd)) + (1 : Int64)) * wd)), .second, .unset, .unset]) rfl k) ?_
  show own_G _ _ _ _ _ _ _ (T30.setTop (mkF m 85 #[.val (.long q0), .second, .val (.long q1), .second, .val (.long q2), .second, .val (.long q3), .second, .val (.long q4), .second, .val (.long wd), .second, .val (.long ((9223372036854775807 : Int64) / wd)), .second, .val (.long ((q2 &&& (9223372036854775807 : Int64)) % ((9223372036854775807 : Int64) / wd))), .second, .val (.long ((q3 &&& (9223372036854775807 : Int64)) % wd)), .second, .val (.ref b22), .val (.long (q0 + (0 : Int64) * wd)), .second, .val (.long (q0 + ((q2 &&& (9223372036854775807 : Int64)) % ((9223372036854775807 : Int64) / wd)) * wd)), .second, .val (.long (q0 + (((q2 &&& (9223372036854775807 : Int64)) % ((9223372036854775807 : Int64) / wd)) + (1 : Int64)) * wd)), .second, .unset, .unset] []))
  refine own_by (fun _ k => XS.aload X30.here hx rfl (hb hby at_85) rfl rfl k) ?_
  show own_G _ _ _ _ _ _ _ (T30.setTop (mkF m 87 #[.val (.long q0), .second, .val (.long q1), .second, .val (.long q2), .second, .val (.long q3), .second, .val (.long q4), .second, .val (.long wd), .second, .val (.long ((9223372036854775807 : Int64) / wd)), .second, .val (.long ((q2 &&& (9223372036854775807 : Int64)) % ((9223372036854775807 : Int64) / wd))), .second, .val (.long ((q3 &&& (9223372036854775807 : Int64)) % wd)), .second, .val (.ref b22), .val (.long (q0 + (0 : Int64) * wd)), .second, .val (.long (q0 + ((q2 &&& (9223372036854775807 : Int64)) % ((9223372036854775807 : Int64) / wd)) * wd)), .second, .val (.long (q0 + (((q2 &&& (9223372036854775807 : Int64)) % ((9223372036854775807 : Int64) / wd)) + (1 : Int64)) * wd)), .second, .unset, .unset] [(.ref b22)]))
  refine own_by (fun _ k => XT.lload X30.here hx rfl (hb hby at_87) rfl  k) ?_
  show own_G _ _ _ _ _ _ _ (T30.setTop (mkF m 89 #[.val (.long q0), .second, .val (.long q1), .second, .val (.long q2), .second, .val (.long q3), .second, .val (.long q4), .second, .val (.long wd), .second, .val (.long ((9223372036854775807 : Int64) / wd)), .second, .val (.long ((q2 &&& (9223372036854775807 : Int64)) % ((9223372036854775807 : Int64) / wd))), .second, .val (.long ((q3 &&& (9223372036854775807 : Int64)) % wd)), .second, .val (.ref b22), .val (.long (q0 + (0 : Int64) * wd)), .second, .val (.long (q0 + ((q2 &&& (9223372036854775807 : Int64)) % ((9223372036854775807 : Int64) / wd)) * wd)), .second, .val (.long (q0 + (((q2 &&& (9223372036854775807 : Int64)) % ((9223372036854775807 : Int64) / wd)) + (1 : Int64)) * wd)), .second, .unset, .unset] [(.long (q0 + ((q2 &&& (9223372036854775807 : Int64)) % ((9223372036854775807 : Int64) / wd)) * wd)), (.ref b22)]))
  refine own_by (fun _ k => XT.lload X30.here hx rfl (hb hby at_89) rfl  k) ?_
  show own_G _ _ _ _ _ _ _ (T30.setTop (mkF m 91 #[.val (.long q0), .second, .val (.long q1), .second, .val (.long q2), .second, .val (.long q3), .second, .val (.long q4), .second, .val (.long wd), .second, .val (.long ((9223372036854775807 : Int64) / wd)), .second, .val (.long ((q2 &&& (9223372036854775807 : Int64)) % ((9223372036854775807 : Int64) / wd))), .second, .val (.long ((q3 &&& (9223372036854775807 : Int64)) % wd)), .second, .val (.ref b22), .val (.long (q0 + (0 : Int64) * wd)), .second, .val (.long (q0 + ((q2 &&& (9223372036854775807 : Int64)) % ((9223372036854775807 : Int64) / wd)) * wd)), .second, .val (.long (q0 + (((q2 &&& (9223372036854775807 : Int64)) % ((9223372036854775807 : Int64) / wd)) + (1 : Int64)) * wd)), .second, .unset, .unset] [(.long ((q3 &&& (9223372036854775807 : Int64)) % wd)), (.long (q0 + ((q2 &&& (9223372036854775807 : Int64)) % ((9223372036854775807 : Int64) / wd)) * wd)), (.ref b22)]))
  refine own_by (fun _ k => XT.ladd X30.here hx rfl (hb hby at_91) rfl k) ?_
  show own_G _ _ _ _ _ _ _ (T30.setTop (mkF m 92 #[.val (.long q0), .second, .val (.long q1), .second, .val (.long q2), .second, .val (.long q3), .second, .val (.long q4), .second, .val (.long wd), .second, .val (.long ((9223372036854775807 : Int64) / wd)), .second, .val (.long ((q2 &&& (9223372036854775807 : Int64)) % ((9223372036854775807 : Int64) / wd))), .second, .val (.long ((q3 &&& (9223372036854775807 : Int64)) % wd)), .second, .val (.ref b22), .val (.long (q0 + (0 : Int64) * wd)), .second, .val (.long (q0 + ((q2 &&& (9223372036854775807 : Int64)) % ((9223372036854775807 : Int64) / wd)) * wd)), .second, .val (.long (q0 + (((q2 &&& (9223372036854775807 : Int64)) % ((9223372036854775807 : Int64) / wd)) + (1 : Int64)) * wd)), .second, .unset, .unset] [(.long ((q0 + ((q2 &&& (9223372036854775807 : Int64)) % ((9223372036854775807 : Int64) / wd)) * wd) + ((q3 &&& (9223372036854775807 : Int64)) % wd))), (.ref b22)]))
  obtain ⟨cq31, kq31, q31a, q31b, q31c⟩ := isOf hZ e30 E25
  obtain ⟨_, _, ⟨T31, L31, k31, n31⟩, -, X31, ⟨Lc31, hQ31, l31, y31, z31⟩, st31⟩ := X30.virtualBack hx (y := (⟨"com/example/countersight/countersight/cli/Timelines$Intervals", "row", "(J)J"⟩ : MethodName)) (z := (⟨"com/example/countersight/countersight/cli/Timelines$Intervals", "row", "(J)J"⟩ : MethodName)) hown (mvT hZ (hw _ (List.mem_of_getElem? (i := 32) rfl))) (mvT hZ (hw _ (List.mem_of_getElem? (i := 33) rfl))) (notFace_of_selects (args := #[]) (mvT hZ (hw _ (List.mem_of_getElem? (i := 35) rfl)))) (mvT hZ (hw _ (List.mem_of_getElem? (i := 35) rfl))) (mvT hZ (hw _ (List.mem_of_getElem? (i := 34) rfl))) (by decide) (backOf (W := 0) (rm7 l Z aw hw [] b22 ((q0 + ((q2 &&& (9223372036854775807 : Int64)) % ((9223372036854775807 : Int64) / wd)) * wd) + ((q3 &&& (9223372036854775807 : Int64)) % wd)) q0 wd h25 n0 Z27 G25_0 G25_1 (own_ne0 hw1)) hZ (hw _ (List.mem_of_getElem? (i := 36) rfl)) (hw _ (List.mem_of_getElem? (i := 7) rfl)) (by decide) (by decide)) q31a q31c (g := (mkF m 92 #[.val (.long q0), .second, .val (.long q1), .second, .val (.long q2), .second, .val (.long q3), .second, .val (.long q4), .second, .val (.long wd), .second, .val (.long ((9223372036854775807 : Int64) / wd)), .second, .val (.long ((q2 &&& (9223372036854775807 : Int64)) % ((9223372036854775807 : Int64) / wd))), .second, .val (.long ((q3 &&& (9223372036854775807 : Int64)) % wd)), .second, .val (.ref b22), .val (.long (q0 + (0 : Int64) * wd)), .second, .val (.long (q0 + ((q2 &&& (9223372036854775807 : Int64)) % ((9223372036854775807 : Int64) / wd)) * wd)), .second, .val (.long (q0 + (((q2 &&& (9223372036854775807 : Int64)) % ((9223372036854775807 : Int64) / wd)) + (1 : Int64)) * wd)), .second, .unset, .unset] [(.long ((q0 + ((q2 &&& (9223372036854775807 : Int64)) % ((9223372036854775807 : Int64) / wd)) * wd) + ((q3 &&& (9223372036854775807 : Int64)) % wd))), (.ref b22)])) rfl (by rw [hml]; rfl) (Steps.refl _) (argsL := [(.long ((q0 + ((q2 &&& (9223372036854775807 : Int64)) % ((9223372036854775807 : Int64) / wd)) * wd) + ((q3 &&& (9223372036854775807 : Int64)) % wd)))]) (rest := []) (lenOf own_pd4 rfl) rfl (by show 2 * 0 + _ ≤ _; exact Nat.le_of_eq rfl) (hb hby at_92) (fun _ _ => ⟨rfl, e30, (by decide : 1 + 0 ≤ _), (by decide : 4 + 0 ≤ _)⟩)
  dsimp only [Pt.U, Pt.locs, Pt.cells, Pt.slots] at X31 l31 y31 z31 st31 hQ31
  subst l31 y31 z31
  obtain ⟨rfl, Nq31, e31⟩ := hQ31
  have N31 := Fr.app N30 Nq31
  refine own_by (fun _ k => st31.trans k) ?_
  show own_G _ _ _ _ _ _ _ (T31.setTop (mkF m 95 #[.val (.long q0), .second, .val (.long q1), .second, .val (.long q2), .second, .val (.long q3), .second, .val (.long q4), .second, .val (.long wd), .second, .val (.long ((9223372036854775807 : Int64) / wd)), .second, .val (.long ((q2 &&& (9223372036854775807 : Int64)) % ((9223372036854775807 : Int64) / wd))), .second, .val (.long ((q3 &&& (9223372036854775807 : Int64)) % wd)), .second, .val (.ref b22), .val (.long (q0 + (0 : Int64) * wd)), .second, .val (.long (q0 + ((q2 &&& (9223372036854775807 : Int64)) % ((9223372036854775807 : Int64) / wd)) * wd)), .second, .val (.long (q0 + (((q2 &&& (9223372036854775807 : Int64)) % ((9223372036854775807 : Int64) / wd)) + (1 : Int64)) * wd)), .second, .unset, .unset] [(.long (own_row q0 wd ((q0 + ((q2 &&& (9223372036854775807 : Int64)) % ((9223372036854775807 : Int64) / wd)) * wd) + ((q3 &&& (9223372036854775807 : Int64)) % wd))))]))
  refine own_by (fun _ k => XT.lstore X31.here hx rfl (hb hby at_95) rfl (l' := #[.val (.long q0), .second, .val (.long q1), .second, .val (.long q2), .second, .val (.long q3), .second, .val (.long q4), .second, .val (.long wd), .second, .val (.long ((9223372036854775807 : Int64) / wd)), .second, .val (.long ((q2 &&& (9223372036854775807 : Int64)) % ((9223372036854775807 : Int64) / wd))), .second, .val (.long ((q3 &&& (9223372036854775807 : Int64)) % wd)), .second, .val (.ref b22), .val (.long (q0 + (0 : Int64) * wd)), .second, .val (.long (q0 + ((q2 &&& (9223372036854775807 : Int64)) % ((9223372036854775807 : Int64) / wd)) * wd)), .second, .val (.long (q0 + (((q2 &&& (9223372036854775807 : Int64)) % ((9223372036854775807 : Int64) / wd)) + (1 : Int64)) * wd)), .second, .val (.long (own_row q0 wd ((q0 + ((q2 &&& (9223372036854775807 : Int64)) % ((9223372036854775807 : Int64) / wd)) * wd) + ((q3 &&& (9223372036854775807 : Int64)) % wd)))), .second]) rfl k) ?_
  show own_G _ _ _ _ _ _ _ (T31.setTop (mkF m 97 #[.val (.long q0), .second, .val (.long q1), .second, .val (.long q2), .second, .val (.long q3), .second, .val (.long q4), .second, .val (.long wd), .second, .val (.long ((9223372036854775807 : Int64) / wd)), .second, .val (.long ((q2 &&& (9223372036854775807 : Int64)) % ((9223372036854775807 : Int64) / wd))), .second, .val (.long ((q3 &&& (9223372036854775807 : Int64)) % wd)), .second, .val (.ref b22), .val (.long (q0 + (0 : Int64) * wd)), .second, .val (.long (q0 + ((q2 &&& (9223372036854775807 : Int64)) % ((9223372036854775807 : Int64) / wd)) * wd)), .second, .val (.long (q0 + (((q2 &&& (9223372036854775807 : Int64)) % ((9223372036854775807 : Int64) / wd)) + (1 : Int64)) * wd)), .second, .val (.long (own_row q0 wd ((q0 + ((q2 &&& (9223372036854775807 : Int64)) % ((9223372036854775807 : Int64) / wd)) * wd) + ((q3 &&& (9223372036854775807 : Int64)) % wd)))), .second] []))
  refine own_by (fun _ k => XT.lload X31.here hx rfl (hb hby at_97) rfl  k) ?_
  show own_G _ _ _ _ _ _ _ (T31.setTop (mkF m 99 #[.val (.long q0), .second, .val (.long q1), .second, .val (.long q2), .second, .val (.long q3), .second, .val (.long q4), .second, .val (.long wd), .second, .val (.long ((9223372036854775807 : Int64) / wd)), .second, .val (.long ((q2 &&& (9223372036854775807 : Int64)) % ((9223372036854775807 : Int64) / wd))), .second, .val (.long ((q3 &&& (9223372036854775807 : Int64)) % wd)), .second, .val (.ref b22), .val (.long (q0 + (0 : Int64) * wd)), .second, .val (.long (q0 + ((q2 &&& (9223372036854775807 : Int64)) % ((9223372036854775807 : Int64) / wd)) * wd)), .second, .val (.long (q0 + (((q2 &&& (9223372036854775807 : Int64)) % ((9223372036854775807 : Int64) / wd)) + (1 : Int64)) * wd)), .second, .val (.long (own_row q0 wd ((q0 + ((q2 &&& (9223372036854775807 : Int64)) % ((9223372036854775807 : Int64) / wd)) * wd) + ((q3 &&& (9223372036854775807 : Int64)) % wd)))), .second] [(.long (q0 + (0 : Int64) * wd))]))
  refine own_by (fun _ k => XT.lloadN X31.here hx rfl (hb hby at_99) rfl  k) ?_
  show own_G _ _ _ _ _ _ _ (T31.setTop (mkF m 100 #[.val (.long q0), .second, .val (.long q1), .second, .val (.long q2), .second, .val (.long q3), .second, .val (.long q4), .second, .val (.long wd), .second, .val (.long ((9223372036854775807 : Int64) / wd)), .second, .val (.long ((q2 &&& (9223372036854775807 : Int64)) % ((9223372036854775807 : Int64) / wd))), .second, .val (.long ((q3 &&& (9223372036854775807 : Int64)) % wd)), .second, .val (.ref b22), .val (.long (q0 + (0 : Int64) * wd)), .second, .val (.long (q0 + ((q2 &&& (9223372036854775807 : Int64)) % ((9223372036854775807 : Int64) / wd)) * wd)), .second, .val (.long (q0 + (((q2 &&& (9223372036854775807 : Int64)) % ((9223372036854775807 : Int64) / wd)) + (1 : Int64)) * wd)), .second, .val (.long (own_row q0 wd ((q0 + ((q2 &&& (9223372036854775807 : Int64)) % ((9223372036854775807 : Int64) / wd)) * wd) + ((q3 &&& (9223372036854775807 : Int64)) % wd)))), .second] [(.long q0), (.long (q0 + (0 : Int64) * wd))]))
  refine own_by (fun _ k => XT.lcmp X31.here hx rfl (hb hby at_100) rfl k) ?_
  show own_G _ _ _ _ _ _ _ (T31.setTop (mkF m 101 #[.val (.long q0), .second, .val (.long q1), .second, .val (.long q2), .second, .val (.long q3), .second, .val (.long q4), .second, .val (.long wd), .second, .val (.long ((9223372036854775807 : Int64) / wd)), .second, .val (.long ((q2 &&& (9223372036854775807 : Int64)) % ((9223372036854775807 : Int64) / wd))), .second, .val (.long ((q3 &&& (9223372036854775807 : Int64)) % wd)), .second, .val (.ref b22), .val (.long (q0 + (0 : Int64) * wd)), .second, .val (.long (q0 + ((q2 &&& (9223372036854775807 : Int64)) % ((9223372036854775807 : Int64) / wd)) * wd)), .second, .val (.long (q0 + (((q2 &&& (9223372036854775807 : Int64)) % ((9223372036854775807 : Int64) / wd)) + (1 : Int64)) * wd)), .second, .val (.long (own_row q0 wd ((q0 + ((q2 &&& (9223372036854775807 : Int64)) % ((9223372036854775807 : Int64) / wd)) * wd) + ((q3 &&& (9223372036854775807 : Int64)) % wd)))), .second] [(.int (XT.cmpL (q0 + (0 : Int64) * wd) q0))]))
  have hc101 : (q0 + (0 : Int64) * wd) = q0 := own_start0 _ _
  refine own_by (fun _ k => XS.ifNo X31.here hx rfl (hb hby at_101) rfl (XT.ll_ne_f hc101) k) ?_
  show own_G _ _ _ _ _ _ _ (T31.setTop (mkF m 104 #[.val (.long q0), .second, .val (.long q1), .second, .val (.long q2), .second, .val (.long q3), .second, .val (.long q4), .second, .val (.long wd), .second, .val (.long ((9223372036854775807 : Int64) / wd)), .second, .val (.long ((q2 &&& (9223372036854775807 : Int64)) % ((9223372036854775807 : Int64) / wd))), .second, .val (.long ((q3 &&& (9223372036854775807 : Int64)) % wd)), .second, .val (.ref b22), .val (.long (q0 + (0 : Int64) * wd)), .second, .val (.long (q0 + ((q2 &&& (9223372036854775807 : Int64)) % ((9223372036854775807 : Int64) / wd)) * wd)), .second, .val (.long (q0 + (((q2 &&& (9223372036854775807 : Int64)) % ((9223372036854775807 : Int64) / wd)) + (1 : Int64)) * wd)), .second, .val (.long (own_row q0 wd ((q0 + ((q2 &&& (9223372036854775807 : Int64)) % ((9223372036854775807 : Int64) / wd)) * wd) + ((q3 &&& (9223372036854775807 : Int64)) % wd)))), .second] []))
  refine own_by (fun _ k => XT.lload X31.here hx rfl (hb hby at_104) rfl  k) ?_
  show own_G _ _ _ _ _ _ _ (T31.setTop (mkF m 106 #[.val (.long q0), .second, .val (.long q1), .second, .val (.long q2), .second, .val (.long q3), .second, .val (.long q4), .second, .val (.long wd), .second, .val (.long ((9223372036854775807 : Int64) / wd)), .second, .val (.long ((q2 &&& (9223372036854775807 : Int64)) % ((9223372036854775807 : Int64) / wd))), .second, .val (.long ((q3 &&& (9223372036854775807 : Int64)) % wd)), .second, .val (.ref b22), .val (.long (q0 + (0 : Int64) * wd)), .second, .val (.long (q0 + ((q2 &&& (9223372036854775807 : Int64)) % ((9223372036854775807 : Int64) / wd)) * wd)), .second, .val (.long (q0 + (((q2 &&& (9223372036854775807 : Int64)) % ((9223372036854775807 : Int64) / wd)) + (1 : Int64)) * wd)), .second, .val (.long (own_row q0 wd ((q0 + ((q2 &&& (9223372036854775807 : Int64)) % ((9223372036854775807 : Int64) / wd)) * wd) + ((q3 &&& (9223372036854775807 : Int64)) % wd)))), .second] [(.long (q0 + (((q2 &&& (9223372036854775807 : Int64)) % ((9223372036854775807 : Int64) / wd)) + (1 : Int64)) * wd))]))
  refine own_by (fun _ k => XT.lload X31.here hx rfl (hb hby at_106) rfl  k) ?_
  show own_G _ _ _ _ _ _ _ (T31.setTop (mkF m 108 #[.val (.long q0), .second, .val (.long q1), .second, .val (.long q2), .second, .val (.long q3), .second, .val (.long q4), .second, .val (.long wd), .second, .val (.long ((9223372036854775807 : Int64) / wd)), .second, .val (.long ((q2 &&& (9223372036854775807 : Int64)) % ((9223372036854775807 : Int64) / wd))), .second, .val (.long ((q3 &&& (9223372036854775807 : Int64)) % wd)), .second, .val (.ref b22), .val (.long (q0 + (0 : Int64) * wd)), .second, .val (.long (q0 + ((q2 &&& (9223372036854775807 : Int64)) % ((9223372036854775807 : Int64) / wd)) * wd)), .second, .val (.long (q0 + (((q2 &&& (9223372036854775807 : Int64)) % ((9223372036854775807 : Int64) / wd)) + (1 : Int64)) * wd)), .second, .val (.long (own_row q0 wd ((q0 + ((q2 &&& (9223372036854775807 : Int64)) % ((9223372036854775807 : Int64) / wd)) * wd) + ((q3 &&& (9223372036854775807 : Int64)) % wd)))), .second] [(.long (q0 + ((q2 &&& (9223372036854775807 : Int64)) % ((9223372036854775807 : Int64) / wd)) * wd)), (.long (q0 + (((q2 &&& (9223372036854775807 : Int64)) % ((9223372036854775807 : Int64) / wd)) + (1 : Int64)) * wd))]))
  refine own_by (fun _ k => XT.lsub X31.here hx rfl (hb hby at_108) rfl k) ?_
  show own_G _ _ _ _ _ _ _ (T31.setTop (mkF m 109 #[.val (.long q0), .second, .val (.long q1), .second, .val (.long q2), .second, .val (.long q3), .second, .val (.long q4), .second, .val (.long wd), .second, .val (.long ((9223372036854775807 : Int64) / wd)), .second, .val (.long ((q2 &&& (9223372036854775807 : Int64)) % ((9223372036854775807 : Int64) / wd))), .second, .val (.long ((q3 &&& (9223372036854775807 : Int64)) % wd)), .second, .val (.ref b22), .val (.long (q0 + (0 : Int64) * wd)), .second, .val (.long (q0 + ((q2 &&& (9223372036854775807 : Int64)) % ((9223372036854775807 : Int64) / wd)) * wd)), .second, .val (.long (q0 + (((q2 &&& (9223372036854775807 : Int64)) % ((9223372036854775807 : Int64) / wd)) + (1 : Int64)) * wd)), .second, .val (.long (own_row q0 wd ((q0 + ((q2 &&& (9223372036854775807 : Int64)) % ((9223372036854775807 : Int64) / wd)) * wd) + ((q3 &&& (9223372036854775807 : Int64)) % wd)))), .second] [(.long ((q0 + (((q2 &&& (9223372036854775807 : Int64)) % ((9223372036854775807 : Int64) / wd)) + (1 : Int64)) * wd) - (q0 + ((q2 &&& (9223372036854775807 : Int64)) % ((9223372036854775807 : Int64) / wd)) * wd)))]))
  refine own_by (fun _ k => XT.lload X31.here hx rfl (hb hby at_109) rfl  k) ?_
  show own_G _ _ _ _ _ _ _ (T31.setTop (mkF m 111 #[.val (.long q0), .second, .val (.long q1), .second, .val (.long q2), .second, .val (.long q3), .second, .val (.long q4), .second, .val (.long wd), .second, .val (.long ((9223372036854775807 : Int64) / wd)), .second, .val (.long ((q2 &&& (9223372036854775807 : Int64)) % ((9223372036854775807 : Int64) / wd))), .second, .val (.long ((q3 &&& (9223372036854775807 : Int64)) % wd)), .second, .val (.ref b22), .val (.long (q0 + (0 : Int64) * wd)), .second, .val (.long (q0 + ((q2 &&& (9223372036854775807 : Int64)) % ((9223372036854775807 : Int64) / wd)) * wd)), .second, .val (.long (q0 + (((q2 &&& (9223372036854775807 : Int64)) % ((9223372036854775807 : Int64) / wd)) + (1 : Int64)) * wd)), .second, .val (.long (own_row q0 wd ((q0 + ((q2 &&& (9223372036854775807 : Int64)) % ((9223372036854775807 : Int64) / wd)) * wd) + ((q3 &&& (9223372036854775807 : Int64)) % wd)))), .second] [(.long wd), (.long ((q0 + (((q2 &&& (9223372036854775807 : Int64)) % ((9223372036854775807 : Int64) / wd)) + (1 : Int64)) * wd) - (q0 + ((q2 &&& (9223372036854775807 : Int64)) % ((9223372036854775807 : Int64) / wd)) * wd)))]))
  refine own_by (fun _ k => XT.lcmp X31.here hx rfl (hb hby at_111) rfl k) ?_
  show own_G _ _ _ _ _ _ _ (T31.setTop (mkF m 112 #[.val (.long q0), .second, .val (.long q1), .second, .val (.long q2), .second, .val (.long q3), .second, .val (.long q4), .second, .val (.long wd), .second, .val (.long ((9223372036854775807 : Int64) / wd)), .second, .val (.long ((q2 &&& (9223372036854775807 : Int64)) % ((9223372036854775807 : Int64) / wd))), .second, .val (.long ((q3 &&& (9223372036854775807 : Int64)) % wd)), .second, .val (.ref b22), .val (.long (q0 + (0 : Int64) * wd)), .second, .val (.long (q0 + ((q2 &&& (9223372036854775807 : Int64)) % ((9223372036854775807 : Int64) / wd)) * wd)), .second, .val (.long (q0 + (((q2 &&& (9223372036854775807 : Int64)) % ((9223372036854775807 : Int64) / wd)) + (1 : Int64)) * wd)), .second, .val (.long (own_row q0 wd ((q0 + ((q2 &&& (9223372036854775807 : Int64)) % ((9223372036854775807 : Int64) / wd)) * wd) + ((q3 &&& (9223372036854775807 : Int64)) % wd)))), .second] [(.int (XT.cmpL ((q0 + (((q2 &&& (9223372036854775807 : Int64)) % ((9223372036854775807 : Int64) / wd)) + (1 : Int64)) * wd) - (q0 + ((q2 &&& (9223372036854775807 : Int64)) % ((9223372036854775807 : Int64) / wd)) * wd)) wd))]))
  have hc112 : ((q0 + (((q2 &&& (9223372036854775807 : Int64)) % ((9223372036854775807 : Int64) / wd)) + (1 : Int64)) * wd) - (q0 + ((q2 &&& (9223372036854775807 : Int64)) % ((9223372036854775807 : Int64) / wd)) * wd)) = wd := own_next _ _ _
  refine own_by (fun _ k => XS.ifNo X31.here hx rfl (hb hby at_112) rfl (XT.ll_ne_f hc112) k) ?_
  show own_G _ _ _ _ _ _ _ (T31.setTop (mkF m 115 #[.val (.long q0), .second, .val (.long q1), .second, .val (.long q2), .second, .val (.long q3), .second, .val (.long q4), .second, .val (.long wd), .second, .val (.long ((9223372036854775807 : Int64) / wd)), .second, .val (.long ((q2 &&& (9223372036854775807 : Int64)) % ((9223372036854775807 : Int64) / wd))), .second, .val (.long ((q3 &&& (9223372036854775807 : Int64)) % wd)), .second, .val (.ref b22), .val (.long (q0 + (0 : Int64) * wd)), .second, .val (.long (q0 + ((q2 &&& (9223372036854775807 : Int64)) % ((9223372036854775807 : Int64) / wd)) * wd)), .second, .val (.long (q0 + (((q2 &&& (9223372036854775807 : Int64)) % ((9223372036854775807 : Int64) / wd)) + (1 : Int64)) * wd)), .second, .val (.long (own_row q0 wd ((q0 + ((q2 &&& (9223372036854775807 : Int64)) % ((9223372036854775807 : Int64) / wd)) * wd) + ((q3 &&& (9223372036854775807 : Int64)) % wd)))), .second] []))
  refine own_by (fun _ k => XT.lload X31.here hx rfl (hb hby at_115) rfl  k) ?_
  show own_G _ _ _ _ _ _ _ (T31.setTop (mkF m 117 #[.val (.long q0), .second, .val (.long q1), .second, .val (.long q2), .second, .val (.long q3), .second, .val (.long q4), .second, .val (.long wd), .second, .val (.long ((9223372036854775807 : Int64) / wd)), .second, .val (.long ((q2 &&& (9223372036854775807 : Int64)) % ((9223372036854775807 : Int64) / wd))), .second, .val (.long ((q3 &&& (9223372036854775807 : Int64)) % wd)), .second, .val (.ref b22), .val (.long (q0 + (0 : Int64) * wd)), .second, .val (.long (q0 + ((q2 &&& (9223372036854775807 : Int64)) % ((9223372036854775807 : Int64) / wd)) * wd)), .second, .val (.long (q0 + (((q2 &&& (9223372036854775807 : Int64)) % ((9223372036854775807 : Int64) / wd)) + (1 : Int64)) * wd)), .second, .val (.long (own_row q0 wd ((q0 + ((q2 &&& (9223372036854775807 : Int64)) % ((9223372036854775807 : Int64) / wd)) * wd) + ((q3 &&& (9223372036854775807 : Int64)) % wd)))), .second] [(.long (own_row q0 wd ((q0 + ((q2 &&& (9223372036854775807 : Int64)) % ((9223372036854775807 : Int64) / wd)) * wd) + ((q3 &&& (9223372036854775807 : Int64)) % wd))))]))
  refine own_by (fun _ k => XT.lload X31.here hx rfl (hb hby at_117) rfl  k) ?_
  show own_G _ _ _ _ _ _ _ (T31.setTop (mkF m 119 #[.val (.long q0), .second, .val (.long q1), .second, .val (.long q2), .second, .val (.long q3), .second, .val (.long q4), .second, .val (.long wd), .second, .val (.long ((9223372036854775807 : Int64) / wd)), .second, .val (.long ((q2 &&& (9223372036854775807 : Int64)) % ((9223372036854775807 : Int64) / wd))), .second, .val (.long ((q3 &&& (9223372036854775807 : Int64)) % wd)), .second, .val (.ref b22), .val (.long (q0 + (0 : Int64) * wd)), .second, .val (.long (q0 + ((q2 &&& (9223372036854775807 : Int64)) % ((9223372036854775807 : Int64) / wd)) * wd)), .second, .val (.long (q0 + (((q2 &&& (9223372036854775807 : Int64)) % ((9223372036854775807 : Int64) / wd)) + (1 : Int64)) * wd)), .second, .val (.long (own_row q0 wd ((q0 + ((q2 &&& (9223372036854775807 : Int64)) % ((9223372036854775807 : Int64) / wd)) * wd) + ((q3 &&& (9223372036854775807 : Int64)) % wd)))), .second] [(.long ((q2 &&& (9223372036854775807 : Int64)) % ((9223372036854775807 : Int64) / wd))), (.long (own_row q0 wd ((q0 + ((q2 &&& (9223372036854775807 : Int64)) % ((9223372036854775807 : Int64) / wd)) * wd) + ((q3 &&& (9223372036854775807 : Int64)) % wd))))]))
  refine own_by (fun _ k => XT.lcmp X31.here hx rfl (hb hby at_119) rfl k) ?_
  show own_G _ _ _ _ _ _ _ (T31.setTop (mkF m 120 #[.val (.long q0), .second, .val (.long q1), .second, .val (.long q2), .second, .val (.long q3), .second, .val (.long q4), .second, .val (.long wd), .second, .val (.long ((9223372036854775807 : Int64) / wd)), .second, .val (.long ((q2 &&& (9223372036854775807 : Int64)) % ((9223372036854775807 : Int64) / wd))), .second, .val (.long ((q3 &&& (9223372036854775807 : Int64)) % wd)), .second, .val (.ref b22), .val (.long (q0 + (0 : Int64) * wd)), .second, .val (.long (q0 + ((q2 &&& (9223372036854775807 : Int64)) % ((9223372036854775807 : Int64) / wd)) * wd)), .second, .val (.long (q0 + (((q2 &&& (9223372036854775807 : Int64)) % ((9223372036854775807 : Int64) / wd)) + (1 : Int64)) * wd)), .second, .val (.long (own_row q0 wd ((q0 + ((q2 &&& (9223372036854775807 : Int64)) % ((9223372036854775807 : Int64) / wd)) * wd) + ((q3 &&& (9223372036854775807 : Int64)) % wd)))), .second] [(.int (XT.cmpL (own_row q0 wd ((q0 + ((q2 &&& (9223372036854775807 : Int64)) % ((9223372036854775807 : Int64) / wd)) * wd) + ((q3 &&& (9223372036854775807 : Int64)) % wd))) ((q2 &&& (9223372036854775807 : Int64)) % ((9223372036854775807 : Int64) / wd))))]))
  have hc120 : (own_row q0 wd ((q0 + ((q2 &&& (9223372036854775807 : Int64)) % ((9223372036854775807 : Int64) / wd)) * wd) + ((q3 &&& (9223372036854775807 : Int64)) % wd))) = ((q2 &&& (9223372036854775807 : Int64)) % ((9223372036854775807 : Int64) / wd)) := own_back _ _ _ _ hw1
  refine own_by (fun _ k => XS.ifNo X31.here hx rfl (hb hby at_120) rfl (XT.ll_ne_f hc120) k) ?_
  show own_G _ _ _ _ _ _ _ (T31.setTop (mkF m 123 #[.val (.long q0), .second, .val (.long q1), .second, .val (.long q2), .second, .val (.long q3), .second, .val (.long q4), .second, .val (.long wd), .second, .val (.long ((9223372036854775807 : Int64) / wd)), .second, .val (.long ((q2 &&& (9223372036854775807 : Int64)) % ((9223372036854775807 : Int64) / wd))), .second, .val (.long ((q3 &&& (9223372036854775807 : Int64)) % wd)), .second, .val (.ref b22), .val (.long (q0 + (0 : Int64) * wd)), .second, .val (.long (q0 + ((q2 &&& (9223372036854775807 : Int64)) % ((9223372036854775807 : Int64) / wd)) * wd)), .second, .val (.long (q0 + (((q2 &&& (9223372036854775807 : Int64)) % ((9223372036854775807 : Int64) / wd)) + (1 : Int64)) * wd)), .second, .val (.long (own_row q0 wd ((q0 + ((q2 &&& (9223372036854775807 : Int64)) % ((9223372036854775807 : Int64) / wd)) * wd) + ((q3 &&& (9223372036854775807 : Int64)) % wd)))), .second] []))
  refine own_by (fun _ k => XS.iconst X31.here hx rfl (hb hby at_123) k) ?_
  show own_G _ _ _ _ _ _ _ (T31.setTop (mkF m 124 #[.val (.long q0), .second, .val (.long q1), .second, .val (.long q2), .second, .val (.long q3), .second, .val (.long q4), .second, .val (.long wd), .second, .val (.long ((9223372036854775807 : Int64) / wd)), .second, .val (.long ((q2 &&& (9223372036854775807 : Int64)) % ((9223372036854775807 : Int64) / wd))), .second, .val (.long ((q3 &&& (9223372036854775807 : Int64)) % wd)), .second, .val (.ref b22), .val (.long (q0 + (0 : Int64) * wd)), .second, .val (.long (q0 + ((q2 &&& (9223372036854775807 : Int64)) % ((9223372036854775807 : Int64) / wd)) * wd)), .second, .val (.long (q0 + (((q2 &&& (9223372036854775807 : Int64)) % ((9223372036854775807 : Int64) / wd)) + (1 : Int64)) * wd)), .second, .val (.long (own_row q0 wd ((q0 + ((q2 &&& (9223372036854775807 : Int64)) % ((9223372036854775807 : Int64) / wd)) * wd) + ((q3 &&& (9223372036854775807 : Int64)) % wd)))), .second] [(.int (1 : Int32))]))
  refine own_by (fun _ k => XS.goto X31.here hx rfl (pc0 := 124) (pc' := 128) rfl (hb hby at_124) (by decide) (by decide) k) ?_
  show own_G _ _ _ _ _ _ _ (T31.setTop (mkF m 128 #[.val (.long q0), .second, .val (.long q1), .second, .val (.long q2), .second, .val (.long q3), .second, .val (.long q4), .second, .val (.long wd), .second, .val (.long ((9223372036854775807 : Int64) / wd)), .second, .val (.long ((q2 &&& (9223372036854775807 : Int64)) % ((9223372036854775807 : Int64) / wd))), .second, .val (.long ((q3 &&& (9223372036854775807 : Int64)) % wd)), .second, .val (.ref b22), .val (.long (q0 + (0 : Int64) * wd)), .second, .val (.long (q0 + ((q2 &&& (9223372036854775807 : Int64)) % ((9223372036854775807 : Int64) / wd)) * wd)), .second, .val (.long (q0 + (((q2 &&& (9223372036854775807 : Int64)) % ((9223372036854775807 : Int64) / wd)) + (1 : Int64)) * wd)), .second, .val (.long (own_row q0 wd ((q0 + ((q2 &&& (9223372036854775807 : Int64)) % ((9223372036854775807 : Int64) / wd)) * wd) + ((q3 &&& (9223372036854775807 : Int64)) % wd)))), .second] [(.int (1 : Int32))]))
  exact own_end X31 (v := some (.int (nar .boolean (1 : Int32)))) (fun h => by rw [Bd.returns] at h; cases h) (BodyLoose.notSynchronized Bd) (fun fs hr => retN X31 hx (t := .boolean) Bd.returns (by simp) (hb hby at_128) hr) (by rw [e31]; exact ⟨rfl, N31⟩) (by decide) (by decide)
set_option maxRecDepth 65536 in
set_option maxHeartbeats 40000000 in
theorem comes_1 {Post : Tables → Env → Array Value → State → Outcome → State → Prop} (hpost : ∀ tb e args s v u, (limb_1_1.after args s (.returned v) u = true ∧ limb_1_2.after args s (.returned v) u = true ∧ True) → FrameEnd s (.returned v) u (Jvm.fieldLocs frame_1_writes args s ++ Jvm.arrayLocs frame_1_arrays args s ++ Jvm.staticLocs frame_1_statics s) 16 128 → Post tb e args s (.returned v) u) :
    ArmFor flags0 classFile x code maxLocals ret World_1 tables_1 room_1 Calls_1 rest_1 Pre_1 Post := by
  intro l hfl _ _ p e ha hc hk s m args below hf hA hF happ hP
  obtain ⟨hcalls, hrest, hpre⟩ := hP
  obtain ⟨-, -, -, hnamed, -, -, -, hat⟩ := (Spec.applies_iff hf).mp happ
  obtain ⟨hg, hn⟩ := and_e (Cond.before_iff.mp (show (Jvm.Cond.and given_1 narrow_1).before args s = true from hpre))
  obtain ⟨gc, hg⟩ := and_e hg
  obtain ⟨g0, hg⟩ := and_e hg
  obtain ⟨g1, hg⟩ := and_e hg
  obtain ⟨g2, hg⟩ := and_e hg
  obtain ⟨g3, hg⟩ := and_e hg
  have g4 := hg
  obtain ⟨w0, w1, w2, w3, w4, rfl⟩ : ∃ w0 w1 w2 w3 w4 : Value, args = #[w0, w1, w2, w3, w4] := by
    have hs : args.size = 5 := by simpa [Cond.value, given_1] using gc
    obtain ⟨L⟩ := args
    match L, hs with
    | [w0, w1, w2, w3, w4], _ => exact ⟨w0, w1, w2, w3, w4, rfl⟩
  have hw := fun d (hd : d ∈ tables_1) => atoms_spec (ws := Jvm.Cond.code x code maxLocals ret :: tables_1) hat d (List.mem_cons_of_mem _ hd)
  obtain ⟨i0, ei0⟩ := isL_v g0
  obtain rfl : w0 = (.long i0) := Option.some.inj ei0
  obtain ⟨i1, ei1⟩ := isL_v g1
  obtain rfl : w1 = (.long i1) := Option.some.inj ei1
  obtain ⟨i2, ei2⟩ := isL_v g2
  obtain rfl : w2 = (.long i2) := Option.some.inj ei2
  obtain ⟨i3, ei3⟩ := isL_v g3
  obtain rfl : w3 = (.long i3) := Option.some.inj ei3
  obtain ⟨i4, ei4⟩ := isL_v g4
  obtain rfl : w4 = (.long i4) := Option.some.inj ei4
  obtain ⟨n, o, h1, h2, h3, _, L, rfl, ⟨rfl, N⟩, hq⟩ := rm0 l s _ hw tables_1 i0 i1 i2 i3 i4  s.heap s.heap.size (Nat.le_refl _)  p e ha hc hk s m _ below hf ((Spec.applies_iff_loose hf).mp happ).1 ⟨rfl, State.Warmed39.refl s, rfl⟩ trivial
  refine ⟨n, _, h1, h2, h3, hpost _ _ _ _ _ _ ⟨Cond.after_iff.mpr rfl, Cond.after_iff.mpr (eq_i res_at (Term.int_eval (1)) rfl), trivial⟩ ⟨hq.1, hq.2.1, (hq.2.2.sift fun y hy => Or.inr (N y hy)).mono (by decide) (by decide)⟩⟩
theorem main_1_1 : Claimed_1_1 := comes_1 fun _ _ _ _ _ _ h hF => ⟨h.1, hF⟩
theorem main_1_2 : Claimed_1_2 := comes_1 fun _ _ _ _ _ _ h hF => ⟨h.2.1, hF⟩
end Jvm.Pilot.@@N@@
namespace Jvm.Pilot.@@N@@
open Jvm Jvm.ClassFile Sem Op Lib Jvm.Free Jvm.Stand Jvm.Pilot.@@N@@.Jvm.D
/-! MADE BY PROGRAM (witnessworld.py) out of the Statement's table words and the real class files: 11 classes; the members and pool entries that the words name. The judged class is class 1, her method 1. -/
namespace start1
open Jvm.ClassFile
def u (s : String) : CpInfo := .utf8 (stringToUtf16 s)
/-- a pool by its gaps: so many unusable entries, then the entry; so many at the end -/
def gap : Nat → List CpInfo → List CpInfo
  | 0, r => r
  | n + 1, r => .unusable :: gap n r
def poolList (es : List (Nat × CpInfo)) (last : Nat) : List CpInfo := es.foldr (fun e r => gap e.1 (e.2 :: r)) (gap last [])
def pool (es : List (Nat × CpInfo)) (last : Nat) : Array CpInfo := ⟨poolList es last⟩
def fileOf (pool : Array CpInfo) (this : Nat) (attrs : Array Attribute := #[]) (ms : Array MethodInfo := #[]) (fl : Nat := 33) (sup : Nat := 0) (ifs : Array Nat := #[]) (fds : Array FieldInfo := #[]) : ClassFile where
  minorVersion := 0
  majorVersion := 65
  constantPool := pool
  accessFlags := fl
  thisClass := this
  superClass := sup
  interfaces := ifs
  fields := fds
  methods := ms
  attributes := attrs
def plain (name : String) (sup : Option ClassId) : Class where
  name := name
  kind := .ordinary
  loader := none
  accessFlags := 33
  super := sup
  interfaces := #[]
  cf := none
  fields := #[]
  methods := #[]
  instanceTypes := #[]
  staticTypes := #[]
  resolved := #[]
  callSites := []
  init := .initialized
  statics := none
  mirror := none

def pool0 : Array CpInfo := pool [(5, u "<init>"), (0, u "()V"), (1, .class_ 10), (1, u "java/lang/Object")] 113

def k0c0 : Code := { maxStack := 0, maxLocals := 1, code := object_method_1_code, exceptionTable := #[], attributes := #[] }
def k0m0 : Method := { name := "<init>", desc := "()V", sig := { parameters := [], returnType := none }, accessFlags := 1, code := some k0c0 }
/-- java/lang/Object -/
def k0 : Class := { plain "java/lang/Object" none with
  accessFlags := 33
  interfaces := #[]
  cf := some (fileOf pool0 8 #[] #[{ accessFlags := 1, nameIndex := 5, descriptorIndex := 6, attributes := #[] }] 33 0 #[] #[])
  fields := #[]
  methods := #[k0m0]
  instanceTypes := #[]
  staticTypes := #[]
  resolved := Array.replicate 124 none
  statics := none }

def pool1 : Array CpInfo := pool [(2, .class_ 4), (1, u "java/lang/Object"), (0, u "<init>"), (0, u "()V"), (2, .long 9223372036854775807), (1, .methodref 12 13), (0, .class_ 14), (0, .nameAndType 15 16), (0, u "java/lang/Math"), (0, u "max"), (0, u "(JJ)J"), (0, .class_ 18), (0, u "com/example/countersight/countersight/cli/Timelines$Intervals"), (0, .methodref 17 20), (0, .nameAndType 5 21), (0, u "(JJJJ)V"), (0, .methodref 17 23), (0, .nameAndType 24 25), (0, u "start"), (0, u "(J)J"), (0, .methodref 17 27), (0, .nameAndType 28 25), (0, u "row"), (0, .class_ 30), (0, u "com/example/countersight/countersight/cli/IntervalsStartPinLaw"), (2, u "law"), (0, u "(JJJJJ)Z")] 7

def k1m0 : Method := { name := "<init>", desc := "()V", sig := { parameters := [], returnType := none }, accessFlags := 2, code := none }
def k1c1 : Code := { maxStack := 10, maxLocals := 27, code := code, exceptionTable := #[], attributes := #[] }
def k1m1 : Method := { name := "law", desc := "(JJJJJ)Z", sig := { parameters := [.long, .long, .long, .long, .long], returnType := some .boolean }, accessFlags := 9, code := some k1c1 }
/-- com/example/countersight/countersight/cli/IntervalsStartPinLaw -/
def k1 : Class := { plain "com/example/countersight/countersight/cli/IntervalsStartPinLaw" (some 0) with
  accessFlags := 49
  interfaces := #[]
  cf := some (fileOf pool1 29 #[] #[{ accessFlags := 2, nameIndex := 5, descriptorIndex := 6, attributes := #[] }, { accessFlags := 9, nameIndex := 33, descriptorIndex := 34, attributes := #[] }] 49 2 #[] #[])
  fields := #[]
  methods := #[k1m0, k1m1]
  instanceTypes := #[]
  staticTypes := #[]
  resolved := Array.replicate 42 none
  statics := none }

def pool2 : Array CpInfo := pool [(1, .class_ 2), (0, u "java/lang/Math"), (1, .class_ 6), (1, u "java/lang/Object"), (0, u "<init>"), (0, u "()V"), (89, .class_ 100), (1, u "java/lang/Math$RandomNumberGeneratorHolder"), (20, u "(JJ)J"), (50, u "negativeZeroFloatBits"), (0, u "J"), (2, u "negativeZeroDoubleBits"), (21, u "max"), (2, u "min"), (43, u "$assertionsDisabled"), (0, u "Z"), (91, u "twoToTheDoubleScaleDown"), (0, u "D"), (4, u "twoToTheDoubleScaleUp"), (9, u "E"), (3, u "PI"), (2, u "TAU"), (2, u "DEGREES_TO_RADIANS"), (0, u "RADIANS_TO_DEGREES")] 94

def k2m0 : Method := { name := "<init>", desc := "()V", sig := { parameters := [], returnType := none }, accessFlags := 2, code := none }
def k2c1 : Code := { maxStack := 4, maxLocals := 4, code := jdk_29_method_66_code, exceptionTable := #[], attributes := #[] }
def k2m1 : Method := { name := "max", desc := "(JJ)J", sig := { parameters := [.long, .long], returnType := some .long }, accessFlags := 9, code := some k2c1 }
def k2c2 : Code := { maxStack := 4, maxLocals := 4, code := jdk_29_method_70_code, exceptionTable := #[], attributes := #[] }
def k2m2 : Method := { name := "min", desc := "(JJ)J", sig := { parameters := [.long, .long], returnType := some .long }, accessFlags := 9, code := some k2c2 }
/-- java/lang/Math -/
def k2 : Class := { plain "java/lang/Math" (some 0) with
  accessFlags := 49
  interfaces := #[]
  cf := some (fileOf pool2 1 #[.nestMembers #[98]] #[{ accessFlags := 2, nameIndex := 7, descriptorIndex := 8, attributes := #[] }, { accessFlags := 9, nameIndex := 198, descriptorIndex := 121, attributes := #[] }, { accessFlags := 9, nameIndex := 201, descriptorIndex := 121, attributes := #[] }] 49 4 #[] #[{ accessFlags := 25, nameIndex := 354, descriptorIndex := 339, attributes := #[] }, { accessFlags := 25, nameIndex := 358, descriptorIndex := 339, attributes := #[] }, { accessFlags := 25, nameIndex := 361, descriptorIndex := 339, attributes := #[] }, { accessFlags := 26, nameIndex := 364, descriptorIndex := 339, attributes := #[] }, { accessFlags := 26, nameIndex := 365, descriptorIndex := 339, attributes := #[] }, { accessFlags := 26, nameIndex := 172, descriptorIndex := 173, attributes := #[] }, { accessFlags := 26, nameIndex := 176, descriptorIndex := 173, attributes := #[] }, { accessFlags := 8, nameIndex := 344, descriptorIndex := 339, attributes := #[] }, { accessFlags := 8, nameIndex := 338, descriptorIndex := 339, attributes := #[] }, { accessFlags := 4120, nameIndex := 245, descriptorIndex := 246, attributes := #[] }])
  fields := #[{ name := "E", type := .double, accessFlags := 25, slot := 0, constantValue := 0 }, { name := "PI", type := .double, accessFlags := 25, slot := 1, constantValue := 0 }, { name := "TAU", type := .double, accessFlags := 25, slot := 2, constantValue := 0 }, { name := "DEGREES_TO_RADIANS", type := .double, accessFlags := 26, slot := 3, constantValue := 0 }, { name := "RADIANS_TO_DEGREES", type := .double, accessFlags := 26, slot := 4, constantValue := 0 }, { name := "negativeZeroFloatBits", type := .long, accessFlags := 26, slot := 5, constantValue := 0 }, { name := "negativeZeroDoubleBits", type := .long, accessFlags := 26, slot := 6, constantValue := 0 }, { name := "twoToTheDoubleScaleUp", type := .double, accessFlags := 8, slot := 7, constantValue := 0 }, { name := "twoToTheDoubleScaleDown", type := .double, accessFlags := 8, slot := 8, constantValue := 0 }, { name := "$assertionsDisabled", type := .boolean, accessFlags := 4120, slot := 9, constantValue := 0 }]
  methods := #[k2m0, k2m1, k2m2]
  instanceTypes := #[]
  staticTypes := #[.double, .double, .double, .double, .double, .long, .long, .double, .double, .boolean]
  resolved := Array.replicate 460 none
  statics := none }

def pool3 : Array CpInfo := pool [(1, .methodref 2 3), (0, .class_ 4), (0, .nameAndType 5 6), (0, u "java/lang/Object"), (0, u "<init>"), (0, u "()V"), (0, .class_ 8), (0, u "java/lang/Record")] 13

def k3c0 : Code := { maxStack := 1, maxLocals := 1, code := jdk_30_method_1_code, exceptionTable := #[], attributes := #[] }
def k3m0 : Method := { name := "<init>", desc := "()V", sig := { parameters := [], returnType := none }, accessFlags := 4, code := some k3c0 }
/-- java/lang/Record -/
def k3 : Class := { plain "java/lang/Record" (some 0) with
  accessFlags := 1057
  interfaces := #[]
  cf := some (fileOf pool3 7 #[] #[{ accessFlags := 4, nameIndex := 5, descriptorIndex := 6, attributes := #[] }] 1057 2 #[] #[])
  fields := #[]
  methods := #[k3m0]
  instanceTypes := #[]
  staticTypes := #[]
  resolved := Array.replicate 22 none
  statics := none }

def pool4 : Array CpInfo := pool [(1, .methodref 2 3), (0, .class_ 4), (0, .nameAndType 5 6), (0, u "java/lang/Record"), (0, u "<init>"), (0, u "()V"), (0, .fieldref 8 9), (0, .class_ 10), (0, .nameAndType 11 12), (0, u "com/example/countersight/countersight/cli/Timelines$Intervals"), (0, u "originNs"), (0, u "J"), (0, .fieldref 8 14), (0, .nameAndType 15 12), (0, u "widthNs"), (0, .fieldref 8 17), (0, .nameAndType 18 12), (0, u "first"), (0, .fieldref 8 20), (0, .nameAndType 21 12), (0, u "count"), (51, .methodref 74 75), (0, .class_ 76), (0, .nameAndType 77 78), (0, u "java/lang/Math"), (0, u "min"), (0, u "(JJ)J"), (9, u "(JJJJ)V"), (3, .methodref 8 93), (0, .nameAndType 94 95), (0, u "row"), (0, u "(JJJ)J"), (14, u "(J)J"), (8, .long 9223372036854775806), (23, u "start"), (5, .class_ 150), (0, u "com/example/countersight/countersight/cli/Timelines")] 22

def k4c0 : Code := { maxStack := 3, maxLocals := 9, code := prog_177_method_1_code, exceptionTable := #[], attributes := #[] }
def k4m0 : Method := { name := "<init>", desc := "(JJJJ)V", sig := { parameters := [.long, .long, .long, .long], returnType := none }, accessFlags := 0, code := some k4c0 }
def k4c1 : Code := { maxStack := 6, maxLocals := 3, code := prog_177_method_5_code, exceptionTable := #[], attributes := #[] }
def k4m1 : Method := { name := "row", desc := "(J)J", sig := { parameters := [.long], returnType := some .long }, accessFlags := 0, code := some k4c1 }
def k4c2 : Code := { maxStack := 4, maxLocals := 6, code := prog_177_method_6_code, exceptionTable := #[], attributes := #[] }
def k4m2 : Method := { name := "row", desc := "(JJJ)J", sig := { parameters := [.long, .long, .long], returnType := some .long }, accessFlags := 10, code := some k4c2 }
def k4c3 : Code := { maxStack := 6, maxLocals := 3, code := prog_177_method_7_code, exceptionTable := #[], attributes := #[] }
def k4m3 : Method := { name := "start", desc := "(J)J", sig := { parameters := [.long], returnType := some .long }, accessFlags := 0, code := some k4c3 }
/-- com/example/countersight/countersight/cli/Timelines$Intervals -/
def k4 : Class := { plain "com/example/countersight/countersight/cli/Timelines$Intervals" (some 3) with
  accessFlags := 48
  interfaces := #[]
  cf := some (fileOf pool4 8 #[.nestHost 149] #[{ accessFlags := 0, nameIndex := 5, descriptorIndex := 88, attributes := #[] }, { accessFlags := 0, nameIndex := 94, descriptorIndex := 110, attributes := #[] }, { accessFlags := 10, nameIndex := 94, descriptorIndex := 95, attributes := #[] }, { accessFlags := 0, nameIndex := 143, descriptorIndex := 110, attributes := #[] }] 48 2 #[] #[{ accessFlags := 18, nameIndex := 11, descriptorIndex := 12, attributes := #[] }, { accessFlags := 18, nameIndex := 15, descriptorIndex := 12, attributes := #[] }, { accessFlags := 18, nameIndex := 18, descriptorIndex := 12, attributes := #[] }, { accessFlags := 18, nameIndex := 21, descriptorIndex := 12, attributes := #[] }])
  fields := #[{ name := "originNs", type := .long, accessFlags := 18, slot := 0, constantValue := 0 }, { name := "widthNs", type := .long, accessFlags := 18, slot := 1, constantValue := 0 }, { name := "first", type := .long, accessFlags := 18, slot := 2, constantValue := 0 }, { name := "count", type := .long, accessFlags := 18, slot := 3, constantValue := 0 }]
  methods := #[k4m0, k4m1, k4m2, k4m3]
  instanceTypes := #[.long, .long, .long, .long]
  staticTypes := #[]
  resolved := Array.replicate 173 none
  statics := none }

def pool5 : Array CpInfo := pool [(1, u "java/lang/Cloneable"), (0, .class_ 1), (0, u "java/lang/Object"), (0, .class_ 3)] 3

/-- java/lang/Cloneable -/
def k5 : Class := { plain "java/lang/Cloneable" (some 0) with
  accessFlags := 1537
  interfaces := #[]
  cf := some (fileOf pool5 2 #[] #[] 1537 4 #[] #[])
  fields := #[]
  methods := #[]
  instanceTypes := #[]
  staticTypes := #[]
  resolved := Array.replicate 8 none
  statics := none }

def pool6 : Array CpInfo := pool [(1, u "java/io/Serializable"), (0, .class_ 1), (0, u "java/lang/Object"), (0, .class_ 3)] 3

/-- java/io/Serializable -/
def k6 : Class := { plain "java/io/Serializable" (some 0) with
  accessFlags := 1537
  interfaces := #[]
  cf := some (fileOf pool6 2 #[] #[] 1537 4 #[] #[])
  fields := #[]
  methods := #[]
  instanceTypes := #[]
  staticTypes := #[]
  resolved := Array.replicate 8 none
  statics := none }

/-- the primitive byte -/
def k7 : Class := { plain "byte" none with kind := .primitive 'B', accessFlags := 0x411 }
/-- [B -/
def k8 : Class := { plain "[B" (some 0) with kind := .array 7 .byte, interfaces := #[5, 6], accessFlags := 1041 }

/-- the primitive int -/
def k9 : Class := { plain "int" none with kind := .primitive 'I', accessFlags := 0x411 }
/-- [I -/
def k10 : Class := { plain "[I" (some 0) with kind := .array 9 .int, interfaces := #[5, 6], accessFlags := 1041 }

def heap : Heap := #[]
def classes : Array Class := #[k0, k1, k2, k3, k4, k5, k6, k7, k8, k9, k10]
def interned : List (Array UInt16 × Addr) := []
def slotsUsed : Nat := 0
def theMethod : MethodId := ⟨1, 1⟩
def args0 : Array Value := #[.long 5, .long 5, .long 5, .long 5, .long 5]
def aboutOver (below : List Frame) : State where
  vm := { classes := classes, interned := interned.toArray }
  heap := heap
  slotsUsed := slotsUsed
  threads := #[{ frames := .invoking theMethod args0 :: below }]
def below0 : List Frame := [.native { method := ⟨0, 0⟩, args := #[] }]
def about1 : State := aboutOver below0
def p0 : Program := .bare "" "" ""
def e0 : Env := launch0.env 0 0 0
theorem w_frames : about1.frames = Frame.invoking theMethod args0 :: below0 := rfl
set_option maxRecDepth 65536 in
theorem w_args : argsFit about1.vm theMethod args0 = true := by decide +kernel
set_option maxRecDepth 65536 in
theorem w_heap : heapFits about1 = true := by decide +kernel
set_option maxRecDepth 65536 in
theorem w_runnable : about1.curStatus? = some .runnable := by decide +kernel
set_option maxRecDepth 65536 in
theorem w_alone : about1.alone = true := by decide +kernel
set_option maxRecDepth 65536 in
theorem w_named : about1.methodNamed? x = some theMethod := by decide +kernel
set_option maxRecDepth 65536 in
theorem w_hears : about1.hears theMethod below0 = true := by decide +kernel
set_option maxRecDepth 65536 in
theorem w_ripe : about1.ripe theMethod args0 below0 = true := by decide +kernel
theorem w_running : about1.status = .running := rfl
set_option maxRecDepth 65536 in
theorem w_room : about1.hasRoom e0.platform room_1 = true :=
  launch0.hasRoom_least _ room_1 (by decide +kernel) (by decide +kernel) (by decide +kernel) (by decide +kernel) (by decide +kernel) (by decide +kernel)
theorem allAtoms_all (ts : List Jvm.Cond) (a : Array Jvm.Value) (st : Jvm.State) : (allAtoms ts).before a st = ts.all (fun c => c.before a st) := by
  induction ts with
  | nil => rfl
  | cons c t ih =>
    show (Jvm.Cond.and c (allAtoms t)).before a st = _
    rw [Jvm.Cond.before_and, ih, List.all_cons]
def words1 : List Jvm.Cond := Jvm.Cond.code x code maxLocals ret :: tables_1
/-- a 'code' word, met by the world's own term for the bytes: nothing is compared byte by byte -/
theorem code_word {y : MethodName} {bytes : ByteArray} {mx : Nat} {rt : Option FieldType} {a : Array Value} {s : State} {m : MethodId} {meth : Method} {c : Code} (h1 : s.methodNamed? y = some m) (h2 : s.vm.method? m = some meth) (h3 : meth.code = some c) (h4 : c.code = bytes)
    (h5 : (c.maxLocals == mx && c.exceptionTable.isEmpty && decide (c.maxStack ≤ mostOperands) && decide (meth.sig.returnType = rt) && !meth.locks && decide (parseMethodDescriptor y.desc = some meth.sig)) = true) : (Jvm.Cond.code y bytes mx rt).before a s = true := by
  simp only [Bool.and_eq_true, beq_iff_eq, Bool.not_eq_true', decide_eq_true_eq] at h5
  obtain ⟨⟨⟨⟨⟨g1, g2⟩, g3⟩, g4⟩, g5⟩, g6⟩ := h5
  simp [Cond.before, Cond.holds, Cond.value, h1, h2, h3, h4, g1, g2, g3, g4, g5, g6]
def isCode : Jvm.Cond → Bool
  | .code _ _ _ _ => true
  | _ => false
theorem all_split {L : List Jvm.Cond} {P : Jvm.Cond → Bool} (h1 : L.all (fun c => isCode c || P c) = true) (h2 : ∀ c ∈ L.filter isCode, P c = true) : L.all P = true := by
  refine List.all_eq_true.mpr fun c hc => ?_
  have h := List.all_eq_true.mp h1 c hc
  rcases Bool.eq_false_or_eq_true (isCode c) with hi | hi
  · exact h2 c (List.mem_filter.mpr ⟨hc, hi⟩)
  · simpa [hi] using h
set_option maxRecDepth 65536 in
theorem w_c0 : (Jvm.Cond.code x code maxLocals ret).before args0 about1 = true := code_word (m := ⟨1, 1⟩) (meth := k1m1) (c := k1c1) (by decide +kernel) rfl rfl rfl (by decide +kernel)
set_option maxRecDepth 65536 in
theorem w_c1 : (Jvm.Cond.code ({ cls := "java/lang/Math", name := "max", desc := "(JJ)J" } : Jvm.MethodName) jdk_29_method_66_code (4 : Nat) (Option.some Jvm.ClassFile.FieldType.long)).before args0 about1 = true := code_word (m := ⟨2, 1⟩) (meth := k2m1) (c := k2c1) (by decide +kernel) rfl rfl rfl (by decide +kernel)
set_option maxRecDepth 65536 in
theorem w_c2 : (Jvm.Cond.code ({ cls := "com/example/countersight/countersight/cli/Timelines$Intervals", name := "<init>", desc := "(JJJJ)V" } : Jvm.MethodName) prog_177_method_1_code (9 : Nat) (Option.none : Option Jvm.ClassFile.FieldType)).before args0 about1 = true := code_word (m := ⟨4, 0⟩) (meth := k4m0) (c := k4c0) (by decide +kernel) rfl rfl rfl (by decide +kernel)
set_option maxRecDepth 65536 in
theorem w_c3 : (Jvm.Cond.code ({ cls := "java/lang/Record", name := "<init>", desc := "()V" } : Jvm.MethodName) jdk_30_method_1_code (1 : Nat) (Option.none : Option Jvm.ClassFile.FieldType)).before args0 about1 = true := code_word (m := ⟨3, 0⟩) (meth := k3m0) (c := k3c0) (by decide +kernel) rfl rfl rfl (by decide +kernel)
set_option maxRecDepth 65536 in
theorem w_c4 : (Jvm.Cond.code ({ cls := "java/lang/Object", name := "<init>", desc := "()V" } : Jvm.MethodName) object_method_1_code (1 : Nat) (Option.none : Option Jvm.ClassFile.FieldType)).before args0 about1 = true := code_word (m := ⟨0, 0⟩) (meth := k0m0) (c := k0c0) (by decide +kernel) rfl rfl rfl (by decide +kernel)
set_option maxRecDepth 65536 in
theorem w_c5 : (Jvm.Cond.code ({ cls := "com/example/countersight/countersight/cli/Timelines$Intervals", name := "start", desc := "(J)J" } : Jvm.MethodName) prog_177_method_7_code (3 : Nat) (Option.some Jvm.ClassFile.FieldType.long)).before args0 about1 = true := code_word (m := ⟨4, 3⟩) (meth := k4m3) (c := k4c3) (by decide +kernel) rfl rfl rfl (by decide +kernel)
set_option maxRecDepth 65536 in
theorem w_c6 : (Jvm.Cond.code ({ cls := "com/example/countersight/countersight/cli/Timelines$Intervals", name := "row", desc := "(J)J" } : Jvm.MethodName) prog_177_method_5_code (3 : Nat) (Option.some Jvm.ClassFile.FieldType.long)).before args0 about1 = true := code_word (m := ⟨4, 1⟩) (meth := k4m1) (c := k4c1) (by decide +kernel) rfl rfl rfl (by decide +kernel)
set_option maxRecDepth 65536 in
theorem w_c7 : (Jvm.Cond.code ({ cls := "com/example/countersight/countersight/cli/Timelines$Intervals", name := "row", desc := "(JJJ)J" } : Jvm.MethodName) prog_177_method_6_code (6 : Nat) (Option.some Jvm.ClassFile.FieldType.long)).before args0 about1 = true := code_word (m := ⟨4, 2⟩) (meth := k4m2) (c := k4c2) (by decide +kernel) rfl rfl rfl (by decide +kernel)
set_option maxRecDepth 65536 in
theorem w_c8 : (Jvm.Cond.code ({ cls := "java/lang/Math", name := "min", desc := "(JJ)J" } : Jvm.MethodName) jdk_29_method_70_code (4 : Nat) (Option.some Jvm.ClassFile.FieldType.long)).before args0 about1 = true := code_word (m := ⟨2, 2⟩) (meth := k2m2) (c := k2c2) (by decide +kernel) rfl rfl rfl (by decide +kernel)
def codes1 : List Jvm.Cond := [Jvm.Cond.code x code maxLocals ret, Jvm.Cond.code ({ cls := "java/lang/Math", name := "max", desc := "(JJ)J" } : Jvm.MethodName) jdk_29_method_66_code (4 : Nat) (Option.some Jvm.ClassFile.FieldType.long), Jvm.Cond.code ({ cls := "com/example/countersight/countersight/cli/Timelines$Intervals", name := "<init>", desc := "(JJJJ)V" } : Jvm.MethodName) prog_177_method_1_code (9 : Nat) (Option.none : Option Jvm.ClassFile.FieldType), Jvm.Cond.code ({ cls := "java/lang/Record", name := "<init>", desc := "()V" } : Jvm.MethodName) jdk_30_method_1_code (1 : Nat) (Option.none : Option Jvm.ClassFile.FieldType), Jvm.Cond.code ({ cls := "java/lang/Object", name := "<init>", desc := "()V" } : Jvm.MethodName) object_method_1_code (1 : Nat) (Option.none : Option Jvm.ClassFile.FieldType), Jvm.Cond.code ({ cls := "com/example/countersight/countersight/cli/Timelines$Intervals", name := "start", desc := "(J)J" } : Jvm.MethodName) prog_177_method_7_code (3 : Nat) (Option.some Jvm.ClassFile.FieldType.long), Jvm.Cond.code ({ cls := "com/example/countersight/countersight/cli/Timelines$Intervals", name := "row", desc := "(J)J" } : Jvm.MethodName) prog_177_method_5_code (3 : Nat) (Option.some Jvm.ClassFile.FieldType.long), Jvm.Cond.code ({ cls := "com/example/countersight/countersight/cli/Timelines$Intervals", name := "row", desc := "(JJJ)J" } : Jvm.MethodName) prog_177_method_6_code (6 : Nat) (Option.some Jvm.ClassFile.FieldType.long), Jvm.Cond.code ({ cls := "java/lang/Math", name := "min", desc := "(JJ)J" } : Jvm.MethodName) jdk_29_method_70_code (4 : Nat) (Option.some Jvm.ClassFile.FieldType.long)]
set_option maxRecDepth 65536 in
theorem codes_eq : words1.filter isCode = codes1 := rfl
theorem w_codes : ∀ c ∈ words1.filter isCode, c.before args0 about1 = true := by
  rw [codes_eq]
  intro c hc
  simp only [codes1, List.mem_cons, List.not_mem_nil, or_false] at hc
  rcases hc with rfl | rfl | rfl | rfl | rfl | rfl | rfl | rfl | rfl
  · exact w_c0
  · exact w_c1
  · exact w_c2
  · exact w_c3
  · exact w_c4
  · exact w_c5
  · exact w_c6
  · exact w_c7
  · exact w_c8
set_option maxRecDepth 65536 in
theorem w_t1 : (words1.take 24).all (fun c => isCode c || c.before args0 about1) = true := by decide +kernel
set_option maxRecDepth 65536 in
theorem w_t2 : (words1.drop 24).all (fun c => isCode c || c.before args0 about1) = true := by decide +kernel
theorem w_tables : (allAtoms (Jvm.Cond.code x code maxLocals ret :: tables_1)).before args0 about1 = true := by
  rw [allAtoms_all]
  show words1.all (fun c => c.before args0 about1) = true
  refine all_split ?_ w_codes
  rw [← List.take_append_drop 24 words1, List.all_append, w_t1, w_t2]
  rfl
set_option maxRecDepth 65536 in
theorem w_case : (Jvm.Cond.and given_1 narrow_1).before args0 about1 = true := by decide +kernel
theorem w_applies : (headSpec (Jvm.Cond.code x code maxLocals ret :: tables_1) room_1).applies x e0.platform about1 = true :=
  (Spec.applies_iff w_frames).mpr ⟨w_running, w_runnable, w_alone, w_named, w_hears, w_ripe, w_room, w_tables⟩
theorem atStart : AtStart classFile x code maxLocals ret World_1 tables_1 room_1 Calls_1 rest_1 Pre_1 launch0 p0 e0 about1 theMethod args0 below0 :=
  ⟨lists_1, trivial, launch0.admits_env _ _ _, launch0.least_env, fairChoices_fair.cas, fairChoices_fair.clock, w_frames, w_args, w_heap, w_applies, trivial, trivial, w_case⟩
end start1
theorem witness_1 : WitnessClaimed_1 := ⟨start1.p0, start1.e0, start1.about1, start1.theMethod, start1.args0, start1.below0, start1.atStart⟩
end Jvm.Pilot.@@N@@
