import JvmDerived
import JvmDerived.Pilot.@@N@@Statement
import JvmDerived.Pilot.@@N@@Code
set_option linter.unusedVariables false
set_option linter.unusedSimpArgs false
namespace Jvm.RoadKit
open Sem ClassFile Op Lib Jvm.Stand Jvm.Free Jvm.LawKit
section New
variable {p : Program} {l : Launch} {e : Env} {R : Room} {s : State} {m : MethodId} {args : Array Value} {below : List Frame} {meth : Method} {c : Code} {T : State} {locs : List Loc} {cells slots : Nat}
theorem retI (X : Stand p l e R s m args below meth c T locs cells slots) (hx : p.tables.exec = Jvm.exec) {pc : Nat} {Ls : Array Slot} {z : Int32} {rest : List Value} (hret : meth.sig.returnType = some .int) (hd : decode c.code pc = .ok (.ireturn, 1)) {fs : List Frame}
    (hl : ∀ (f : JFrame) (acts : List Action), f.method = m → f.locked = none → f.entered = [] → (doReturn e (T.setTop f) acts (some (.int z))).1 = T.setFrames fs) : Steps p.tables e below (T.setTop (mkF m pc Ls (.int z :: rest))) (T.setFrames fs) := by
  have hm' : T.vm.method? m = some meth := X.method'
  have hn : narrow .int (.int z) = .int z := rfl
  show Steps p.tables e below (T.setTop { method := m, pc := pc, locals := Ls, stack := _ :: rest, locked := none }) _
  jvm_step X.here [X.here.top, hx, hd, hm', hret, hn]
  first | (intro acts; rw [hl _ acts rfl rfl rfl]) | rw [hl _ _ rfl rfl rfl]
  exact Steps.refl _
/-- the run from A comes to its end, and there Q holds -/
def own_G (tb : Tables) (e : Env) (below : List Frame) (s : State) (Q : Option Value → Heap → List Loc → Prop) (C S : Nat) (A : State) : Prop :=
  ∃ s₂ o, Steps tb e below A s₂ ∧ s₂.status = .running ∧ Ended s₂ below o ∧ ∃ v L, o = .returned v ∧ Q v s₂.heap L ∧ FrameEnd s o s₂ L C S
theorem own_by {tb : Tables} {Q : Option Value → Heap → List Loc → Prop} {C S : Nat} {A B : State} (st : ∀ t, Steps tb e below B t → Steps tb e below A t) (k : own_G tb e below s Q C S B) : own_G tb e below s Q C S A := by
  obtain ⟨s₂, o, h, r⟩ := k
  exact ⟨s₂, o, st _ h, r⟩
theorem own_end (X : Stand p l e R s m args below meth c T locs cells slots) {v : Option Value} (hv : meth.sig.returnType = none → v = none) (hlk : meth.locks = false) {Q : Option Value → Heap → List Loc → Prop} {C S : Nat} {A : State}
    (st : ∀ fs, (∀ (f : JFrame) (acts : List Action), f.method = m → f.locked = none → f.entered = [] → (doReturn e (T.setTop f) acts v).1 = T.setFrames fs) → Steps p.tables e below A (T.setFrames fs))
    (hQ : Q v T.heap locs) (hc : cells ≤ C) (hs : slots ≤ S) : own_G p.tables e below s Q C S A := by
  obtain ⟨fs, hr, hrun, hended, hW, hsame⟩ := X.leave hv hlk
  exact ⟨_, _, st fs hr, hrun, hended, _, _, rfl, hQ, ⟨_, rfl⟩, hW, hsame.mono hc hs⟩
theorem own_lremM {tb : Tables} [Ours tb] {target : State} {g : JFrame} (h : At T m c below) (hx : tb.exec = Jvm.exec) (hg : g.method = m) {x y : Int64} {rest : List Value} (hd : decode c.code g.pc = .ok (.lrem, 1)) (hs : g.stack = .long y :: .long x :: rest) (hy : y ≠ 0)
    (hr : Steps tb e below (T.setTop { g with pc := g.pc + 1, stack := .long (x % y) :: rest }) target) : Steps tb e below (T.setTop g) target := by
  have q : x - x / y * y = x % y := lrem_mod x y
  exact XT.lrem h hx hg hd hs hy (by rw [q]; exact hr)
end New
end Jvm.RoadKit
namespace Jvm.Pilot.@@N@@
open Jvm Jvm.ClassFile Sem Op Lib Jvm.Free Jvm.Stand Jvm.LawKit Jvm.RoadKit Bundle Jvm.Pilot.@@N@@.Jvm.D
def own_holds (t fr to : Int64) : Int32 := if t < fr then 0 else if t < to then 1 else 0
def own_endv (s d : Int64) : Int64 := if (s + d) < (0 : Int64) then 9223372036854775807 else s + d
def own_over (fr to s d : Int64) : Int32 := if s < to then (if fr < own_endv s d then 1 else 0) else 0
theorem own_J1 : (1 : Int64).toInt = 1 := by decide
theorem own_J0 : (0 : Int64).toInt = 0 := by decide
theorem own_JM : (9223372036854775807 : Int64).toInt = 9223372036854775807 := by decide
theorem own_JL : (-9223372036854775808 : Int64).toInt = -9223372036854775808 := by decide
theorem own_pt (t : Int64) (h : ¬ (t &&& (9223372036854775807 : Int64)) = (9223372036854775807 : Int64)) : 0 ≤ (t &&& (9223372036854775807 : Int64)).toInt ∧ (t &&& (9223372036854775807 : Int64)).toInt ≤ 9223372036854775806 := by
  have q := c_maskL t (9223372036854775807 : Int64) 63 (by decide) (by decide)
  rw [← Int64.toInt_inj, own_JM] at h
  omega
theorem own_pt2 : 0 ≤ (9223372036854775806 : Int64).toInt ∧ (9223372036854775806 : Int64).toInt ≤ 9223372036854775806 := by decide
theorem own_1 (pt fr to : Int64) (h : 0 ≤ pt.toInt ∧ pt.toInt ≤ 9223372036854775806) : own_holds pt fr to = own_over fr to pt (1 : Int64) := by
  have e : (pt + (1 : Int64)).toInt = pt.toInt + 1 := by
    have a := c_ladd pt 1; have b := rng64 (pt + 1); have d := own_J1; omega
  unfold own_holds own_over own_endv
  rw [if_neg (show ¬ (pt + (1 : Int64)) < 0 by rw [Int64.lt_iff_toInt_lt, e, own_J0]; omega)]
  simp only [Int64.lt_iff_toInt_lt, e]
  by_cases a : pt.toInt < fr.toInt
  · rw [if_pos a, if_neg (show ¬ fr.toInt < pt.toInt + 1 by omega)]; simp
  · rw [if_neg a, if_pos (show fr.toInt < pt.toInt + 1 by omega)]
theorem own_2 (fr to : Int64) : own_holds to fr to = 0 := by
  unfold own_holds
  rw [if_neg (show ¬ to < to by rw [Int64.lt_iff_toInt_lt]; omega)]; simp
theorem own_3 (fr to : Int64) : own_holds fr fr to = if fr < to then 1 else 0 := by
  unfold own_holds
  rw [if_neg (show ¬ fr < fr by rw [Int64.lt_iff_toInt_lt]; omega)]
theorem own_pred {x : Int64} (h : ¬ x = (-9223372036854775808 : Int64)) : (x - (1 : Int64)).toInt = x.toInt - 1 := by
  have a := c_lsub x 1; have b := rng64 (x - 1); have d := own_J1; have r := rng64 x
  rw [← Int64.toInt_inj, own_JL] at h
  omega
theorem own_4 (fr to : Int64) (h : ¬ fr = (-9223372036854775808 : Int64)) : own_holds (fr - (1 : Int64)) fr to = 0 := by
  unfold own_holds
  rw [if_pos (show fr - (1 : Int64) < fr by rw [Int64.lt_iff_toInt_lt, own_pred h]; omega)]
theorem own_5 (fr to : Int64) (h : ¬ to = (-9223372036854775808 : Int64)) : own_holds (to - (1 : Int64)) fr to = if fr < to then 1 else 0 := by
  unfold own_holds
  simp only [Int64.lt_iff_toInt_lt, own_pred h]
  by_cases a : fr.toInt < to.toInt
  · rw [if_neg (by omega), if_pos (by omega), if_pos a]
  · rw [if_pos (by omega), if_neg a]
theorem own_6 (t fr to : Int64) (h : ¬ own_holds t fr to = (0 : Int32)) : ¬ t < fr ∧ t < to := by
  unfold own_holds at h
  by_cases a : t < fr
  · rw [if_pos a] at h; exact absurd rfl h
  · rw [if_neg a] at h
    by_cases b : t < to
    · exact ⟨a, b⟩
    · rw [if_neg b] at h; exact absurd rfl h
theorem own_d2_0 : decode jdk_30_method_1_code 0 = .ok (.aload_n 0, 1) := by decide +kernel
theorem own_d2_1 : decode jdk_30_method_1_code 1 = .ok (.invokespecial 1, 3) := by decide +kernel
theorem own_d2_4 : decode jdk_30_method_1_code 4 = .ok (.return_, 1) := by decide +kernel
theorem own_pn0 : plainName "java/lang/Record" = true := by first | (simp [plainName, overriddenIn]; done) | decide +kernel
theorem own_ef1 (m : MethodId) (x0 : Addr) : entryFrame m #[(.ref x0)] 1 = mkF m 0 #[.val (.ref x0)] [] := by first | (simp [entryFrame, mkF, argsToLocals, Value.category]; done) | rfl
def own_Q1 (Z : State) (a0 : Addr) (h0 : Heap) (n0 : Nat) (v : Option Value) (h : Heap) (L : List Loc) : Prop := v = none ∧ Fr n0 L ∧ h = h0
set_option maxRecDepth 65536 in
set_option maxHeartbeats 40000000 in
theorem rm1 (l : Launch) (Z : State) (aw : Array Value) (hw : ∀ d ∈ tables_1, d.before aw Z = true) (ws : List Jvm.Cond) (a0 : Addr) (h0 : Heap) (n0 : Nat) (Z0 : n0 ≤ h0.size) :
    MetFree l (⟨"java/lang/Record", "<init>", "()V"⟩ : MethodName) (head1 (Jvm.Cond.code (⟨"java/lang/Record", "<init>", "()V"⟩ : MethodName) jdk_30_method_1_code 1 none :: ws) ({ frames := 1, cells := 0, slots := 0, locals := 12 } : Room)) (fun a U => a = #[(.ref a0)] ∧ Z.Warmed39 U.vm ∧ U.heap = h0) (fun _ _ _ _ _ => True) (fun _ U o U' => ∃ v L, o = .returned v ∧ own_Q1 Z a0 h0 n0 v U'.heap L ∧ FrameEnd U o U' L ({ frames := 1, cells := 0, slots := 0, locals := 12 } : Room).cells ({ frames := 1, cells := 0, slots := 0, locals := 12 } : Room).slots) := by
  refine MetFree.of_bodySF (plainFor_of_name own_pn0) hisR ?_
  intro p e s m args below meth c s₁ Bd hml0 hP hK
  obtain ⟨rfl, hZ, hh⟩ := hP
  have hx := Bd.exec
  have hby := Bd.bytes
  have hml : c.maxLocals = 1 := hml0
  have hown : s.vm.findClass "java/lang/Record" = some m.cls := findClass_of_methodNamed Bd.named
  have hnm := (name_of_methodNamed Bd.named Bd.method).1
  have X0 : Stand p l e ({ frames := 1, cells := 0, slots := 0, locals := 12 } : Room) s m #[(.ref a0)] below meth c s₁ [] 0 0 := Stand.of_body Bd
  have e0 : s₁.heap = h0 := by rw [← hh, Bd.state]; rfl
  have N0 := Fr.nil n0
  show own_G p.tables e below s (own_Q1 Z a0 h0 n0) ({ frames := 1, cells := 0, slots := 0, locals := 12 } : Room).cells ({ frames := 1, cells := 0, slots := 0, locals := 12 } : Room).slots (s₁.setTop (entryFrame m #[(.ref a0)] 1))
  refine own_by (fun _ k => castTop (own_ef1 m a0) k) ?_
  show own_G _ _ _ _ _ _ _ (s₁.setTop (mkF m 0 #[.val (.ref a0)] []))
  refine own_by (fun _ k => XS.aloadN X0.here hx rfl (hb hby own_d2_0) rfl rfl k) ?_
  show own_G _ _ _ _ _ _ _ (s₁.setTop (mkF m 1 #[.val (.ref a0)] [(.ref a0)]))
  obtain ⟨T1, X1, e1, st1⟩ := initO X0 hx hZ hown (hw _ (List.mem_of_getElem? (i := 11) rfl)) (hw _ (List.mem_of_getElem? (i := 12) rfl)) (hw _ (List.mem_of_getElem? (i := 13) rfl)) e0 (g := (mkF m 1 #[.val (.ref a0)] [(.ref a0)])) rfl (by rw [hml]; rfl) rfl (hb hby own_d2_1) (by decide) (W := 0) (by show 2 * 0 + _ ≤ _; exact Nat.le_of_eq rfl) (by decide)
  refine own_by st1 ?_
  show own_G _ _ _ _ _ _ _ (T1.setTop (mkF m 4 #[.val (.ref a0)] []))
  exact own_end X1 (v := none) (fun _ => rfl) (BodyLoose.notSynchronized Bd) (fun fs hr => X1.returnOut hx Bd.returns (hb hby own_d2_4) hr) (by rw [e1]; exact ⟨rfl, N0, rfl⟩) (by decide) (by decide)
theorem own_d1_0 : decode prog_210_method_1_code 0 = .ok (.aload_n 0, 1) := by decide +kernel
theorem own_d1_1 : decode prog_210_method_1_code 1 = .ok (.invokespecial 1, 3) := by decide +kernel
theorem own_pd0 : parseMethodDescriptor "()V" = some ⟨[], none⟩ := by decide +kernel
theorem own_d1_4 : decode prog_210_method_1_code 4 = .ok (.aload_n 0, 1) := by decide +kernel
theorem own_d1_5 : decode prog_210_method_1_code 5 = .ok (.lload_n 1, 1) := by decide +kernel
theorem own_d1_6 : decode prog_210_method_1_code 6 = .ok (.putfield 7, 3) := by decide +kernel
theorem own_d1_9 : decode prog_210_method_1_code 9 = .ok (.aload_n 0, 1) := by decide +kernel
theorem own_d1_10 : decode prog_210_method_1_code 10 = .ok (.lload_n 3, 1) := by decide +kernel
theorem own_d1_11 : decode prog_210_method_1_code 11 = .ok (.putfield 13, 3) := by decide +kernel
theorem own_d1_14 : decode prog_210_method_1_code 14 = .ok (.return_, 1) := by decide +kernel
theorem own_pn1 : plainName "com/example/countersight/countersight/cli/Window" = true := by first | (simp [plainName, overriddenIn]; done) | decide +kernel
theorem own_ef2 (m : MethodId) (x0 : Addr) (x1 : Int64) (x2 : Int64) : entryFrame m #[(.ref x0), (.long x1), (.long x2)] 5 = mkF m 0 #[.val (.ref x0), .val (.long x1), .second, .val (.long x2), .second] [] := by first | (simp [entryFrame, mkF, argsToLocals, Value.category]; done) | rfl
def own_Q2 (Z : State) (a0 : Addr) (q1 : Int64) (q2 : Int64) (h0 : Heap) (n0 : Nat) (v : Option Value) (h : Heap) (L : List Loc) : Prop := v = none ∧ Fr n0 L ∧ Keep h0 h [a0] ∧ Exa Z h a0 "com/example/countersight/countersight/cli/Window" ∧ Fld Z h a0 "com/example/countersight/countersight/cli/Window" "fromNs" "J" (.long q1) ∧ Fld Z h a0 "com/example/countersight/countersight/cli/Window" "toNs" "J" (.long q2)
set_option maxRecDepth 65536 in
set_option maxHeartbeats 40000000 in
theorem rm2 (l : Launch) (Z : State) (aw : Array Value) (hw : ∀ d ∈ tables_1, d.before aw Z = true) (ws : List Jvm.Cond) (a0 : Addr) (q1 : Int64) (q2 : Int64) (h0 : Heap) (n0 : Nat) (Z0 : n0 ≤ h0.size) (E_a : Exa Z h0 a0 "com/example/countersight/countersight/cli/Window") (F_fromNs : Fld Z h0 a0 "com/example/countersight/countersight/cli/Window" "fromNs" "J" (.long (0 : Int64))) (F_toNs : Fld Z h0 a0 "com/example/countersight/countersight/cli/Window" "toNs" "J" (.long (0 : Int64))) (g_a : n0 ≤ a0) :
    MetFree l (⟨"com/example/countersight/countersight/cli/Window", "<init>", "(JJ)V"⟩ : MethodName) (head1 (Jvm.Cond.code (⟨"com/example/countersight/countersight/cli/Window", "<init>", "(JJ)V"⟩ : MethodName) prog_210_method_1_code 5 none :: ws) ({ frames := 2, cells := 0, slots := 0, locals := 24 } : Room)) (fun a U => a = #[(.ref a0), (.long q1), (.long q2)] ∧ Z.Warmed39 U.vm ∧ U.heap = h0) (fun _ _ _ _ _ => True) (fun _ U o U' => ∃ v L, o = .returned v ∧ own_Q2 Z a0 q1 q2 h0 n0 v U'.heap L ∧ FrameEnd U o U' L ({ frames := 2, cells := 0, slots := 0, locals := 24 } : Room).cells ({ frames := 2, cells := 0, slots := 0, locals := 24 } : Room).slots) := by
  refine MetFree.of_bodySF (plainFor_of_name own_pn1) hisR ?_
  intro p e s m args below meth c s₁ Bd hml0 hP hK
  obtain ⟨rfl, hZ, hh⟩ := hP
  have hx := Bd.exec
  have hby := Bd.bytes
  have hml : c.maxLocals = 5 := hml0
  have hown : s.vm.findClass "com/example/countersight/countersight/cli/Window" = some m.cls := findClass_of_methodNamed Bd.named
  have hnm := (name_of_methodNamed Bd.named Bd.method).1
  have X0 : Stand p l e ({ frames := 2, cells := 0, slots := 0, locals := 24 } : Room) s m #[(.ref a0), (.long q1), (.long q2)] below meth c s₁ [] 0 0 := Stand.of_body Bd
  have e0 : s₁.heap = h0 := by rw [← hh, Bd.state]; rfl
  have N0 := Fr.nil n0
  show own_G p.tables e below s (own_Q2 Z a0 q1 q2 h0 n0) ({ frames := 2, cells := 0, slots := 0, locals := 24 } : Room).cells ({ frames := 2, cells := 0, slots := 0, locals := 24 } : Room).slots (s₁.setTop (entryFrame m #[(.ref a0), (.long q1), (.long q2)] 5))
  refine own_by (fun _ k => castTop (own_ef2 m a0 q1 q2) k) ?_
  show own_G _ _ _ _ _ _ _ (s₁.setTop (mkF m 0 #[.val (.ref a0), .val (.long q1), .second, .val (.long q2), .second] []))
  refine own_by (fun _ k => XS.aloadN X0.here hx rfl (hb hby own_d1_0) rfl rfl k) ?_
  show own_G _ _ _ _ _ _ _ (s₁.setTop (mkF m 1 #[.val (.ref a0), .val (.long q1), .second, .val (.long q2), .second] [(.ref a0)]))
  obtain ⟨_, _, ⟨T2, L2, k2, n2⟩, -, X2, ⟨Lc2, hQ2, l2, y2, z2⟩, st2⟩ := X0.specialBack hx (y := (⟨"java/lang/Record", "<init>", "()V"⟩ : MethodName)) rfl hown (mvT hZ (hw _ (List.mem_of_getElem? (i := 6) rfl))) (mvT hZ (hw _ (List.mem_of_getElem? (i := 7) rfl))) (mvT hZ (hw _ (List.mem_of_getElem? (i := 10) rfl))) (by decide) (backOf (W := 0) (rm1 l Z aw hw [] a0 h0 n0 Z0 ) hZ (hw _ (List.mem_of_getElem? (i := 10) rfl)) (hw _ (List.mem_of_getElem? (i := 9) rfl)) (by decide) (by decide)) (g := (mkF m 1 #[.val (.ref a0), .val (.long q1), .second, .val (.long q2), .second] [(.ref a0)])) rfl (by rw [hml]; rfl) (Steps.refl _) (a := a0) (argsL := []) (rest := []) (lenOf own_pd0 rfl) rfl (by show 2 * 0 + _ ≤ _; exact Nat.le_of_eq rfl) (hb hby own_d1_1) (fun _ _ => ⟨rfl, e0, (by decide : 0 + 0 ≤ _), (by decide : 0 + 0 ≤ _)⟩)
  dsimp only [Pt.U, Pt.locs, Pt.cells, Pt.slots] at X2 l2 y2 z2 st2 hQ2
  subst l2 y2 z2
  obtain ⟨rfl, Nq2, e2⟩ := hQ2
  have N2 := Fr.app N0 Nq2
  refine own_by (fun _ k => st2.trans k) ?_
  show own_G _ _ _ _ _ _ _ (T2.setTop (mkF m 4 #[.val (.ref a0), .val (.long q1), .second, .val (.long q2), .second] []))
  refine own_by (fun _ k => XS.aloadN X2.here hx rfl (hb hby own_d1_4) rfl rfl k) ?_
  show own_G _ _ _ _ _ _ _ (T2.setTop (mkF m 5 #[.val (.ref a0), .val (.long q1), .second, .val (.long q2), .second] [(.ref a0)]))
  refine own_by (fun _ k => XT.lloadN X2.here hx rfl (hb hby own_d1_5) rfl  k) ?_
  show own_G _ _ _ _ _ _ _ (T2.setTop (mkF m 6 #[.val (.ref a0), .val (.long q1), .second, .val (.long q2), .second] [(.long q1), (.ref a0)]))
  obtain ⟨T3, h3, X3, e3, W3, st3⟩ := putF X2 hx hZ hown (host := "") (Or.inl (hw _ (List.mem_of_getElem? (i := 14) rfl))) Via.refl e2 F_fromNs E_a (Or.inr ⟨(hw _ (List.mem_of_getElem? (i := 15) rfl)), rfl, hnm⟩) (hw _ (List.mem_of_getElem? (i := 1) rfl)) (ty := .long) (by decide) rfl rfl (g := (mkF m 6 #[.val (.ref a0), .val (.long q1), .second, .val (.long q2), .second] [(.long q1), (.ref a0)])) rfl rfl (hb hby own_d1_6)
  refine own_by st3 ?_
  have F4_0 := E_a.wr W3
  have F4_1 := F_fromNs.same W3
  have F4_2 := F_toNs.other W3 (Or.inr (slot_ne (Or.inr (hw _ (List.mem_of_getElem? (i := 17) rfl))) (Or.inr (hw _ (List.mem_of_getElem? (i := 15) rfl))) (by decide) (t := .long) (t' := .long) (by decide) (by decide)))
  have N3 := Fr.snoc X3 N2 g_a
  have Z5 : n0 ≤ h3.size := Nat.le_trans Z0 (Nat.le_of_eq W3.size.symm)
  have K3 := (Keep.refl h0 [a0]).wr W3 (Or.inl (List.mem_of_getElem? (i := 0) rfl))
  show own_G _ _ _ _ _ _ _ (T3.setTop (mkF m 9 #[.val (.ref a0), .val (.long q1), .second, .val (.long q2), .second] []))
  refine own_by (fun _ k => XS.aloadN X3.here hx rfl (hb hby own_d1_9) rfl rfl k) ?_
  show own_G _ _ _ _ _ _ _ (T3.setTop (mkF m 10 #[.val (.ref a0), .val (.long q1), .second, .val (.long q2), .second] [(.ref a0)]))
  refine own_by (fun _ k => XT.lloadN X3.here hx rfl (hb hby own_d1_10) rfl  k) ?_
  show own_G _ _ _ _ _ _ _ (T3.setTop (mkF m 11 #[.val (.ref a0), .val (.long q1), .second, .val (.long q2), .second] [(.long q2), (.ref a0)]))
  obtain ⟨T6, h6, X6, e6, W6, st6⟩ := putF X3 hx hZ hown (host := "") (Or.inl (hw _ (List.mem_of_getElem? (i := 16) rfl))) Via.refl e3 F4_2 F4_0 (Or.inr ⟨(hw _ (List.mem_of_getElem? (i := 17) rfl)), rfl, hnm⟩) (hw _ (List.mem_of_getElem? (i := 1) rfl)) (ty := .long) (by decide) rfl rfl (g := (mkF m 11 #[.val (.ref a0), .val (.long q1), .second, .val (.long q2), .second] [(.long q2), (.ref a0)])) rfl rfl (hb hby own_d1_11)
  refine own_by st6 ?_
  have F7_0 := F4_0.wr W6
  have F7_1 := F4_1.other W6 (Or.inr (slot_ne (Or.inr (hw _ (List.mem_of_getElem? (i := 15) rfl))) (Or.inr (hw _ (List.mem_of_getElem? (i := 17) rfl))) (by decide) (t := .long) (t' := .long) (by decide) (by decide)))
  have F7_2 := F4_2.same W6
  have N6 := Fr.snoc X6 N3 g_a
  have Z8 : n0 ≤ h6.size := Nat.le_trans Z5 (Nat.le_of_eq W6.size.symm)
  have K6 := K3.wr W6 (Or.inl (List.mem_of_getElem? (i := 0) rfl))
  show own_G _ _ _ _ _ _ _ (T6.setTop (mkF m 14 #[.val (.ref a0), .val (.long q1), .second, .val (.long q2), .second] []))
  exact own_end X6 (v := none) (fun _ => rfl) (BodyLoose.notSynchronized Bd) (fun fs hr => X6.returnOut hx Bd.returns (hb hby own_d1_14) hr) (by rw [e6]; exact ⟨rfl, N6, K6, F7_0, F7_1, F7_2⟩) (by decide) (by decide)
theorem own_d4_0 : decode prog_205_method_1_code 0 = .ok (.aload_n 0, 1) := by decide +kernel
theorem own_d4_1 : decode prog_205_method_1_code 1 = .ok (.invokespecial 1, 3) := by decide +kernel
theorem own_d4_4 : decode prog_205_method_1_code 4 = .ok (.aload_n 0, 1) := by decide +kernel
theorem own_d4_5 : decode prog_205_method_1_code 5 = .ok (.aload_n 1, 1) := by decide +kernel
theorem own_d4_6 : decode prog_205_method_1_code 6 = .ok (.putfield 7, 3) := by decide +kernel
theorem own_d4_9 : decode prog_205_method_1_code 9 = .ok (.aload_n 0, 1) := by decide +kernel
theorem own_d4_10 : decode prog_205_method_1_code 10 = .ok (.lload_n 2, 1) := by decide +kernel
theorem own_d4_11 : decode prog_205_method_1_code 11 = .ok (.putfield 13, 3) := by decide +kernel
theorem own_d4_14 : decode prog_205_method_1_code 14 = .ok (.aload_n 0, 1) := by decide +kernel
theorem own_d4_15 : decode prog_205_method_1_code 15 = .ok (.lload 4, 2) := by decide +kernel
theorem own_d4_17 : decode prog_205_method_1_code 17 = .ok (.putfield 17, 3) := by decide +kernel
theorem own_d4_20 : decode prog_205_method_1_code 20 = .ok (.aload_n 0, 1) := by decide +kernel
theorem own_d4_21 : decode prog_205_method_1_code 21 = .ok (.lload 6, 2) := by decide +kernel
theorem own_d4_23 : decode prog_205_method_1_code 23 = .ok (.putfield 20, 3) := by decide +kernel
theorem own_d4_26 : decode prog_205_method_1_code 26 = .ok (.aload_n 0, 1) := by decide +kernel
theorem own_d4_27 : decode prog_205_method_1_code 27 = .ok (.aload 8, 2) := by decide +kernel
theorem own_d4_29 : decode prog_205_method_1_code 29 = .ok (.putfield 23, 3) := by decide +kernel
theorem own_d4_32 : decode prog_205_method_1_code 32 = .ok (.aload_n 0, 1) := by decide +kernel
theorem own_d4_33 : decode prog_205_method_1_code 33 = .ok (.aload 9, 2) := by decide +kernel
theorem own_d4_35 : decode prog_205_method_1_code 35 = .ok (.putfield 27, 3) := by decide +kernel
theorem own_d4_38 : decode prog_205_method_1_code 38 = .ok (.return_, 1) := by decide +kernel
theorem own_pn2 : plainName "com/example/countersight/countersight/cli/TraceRecord" = true := by first | (simp [plainName, overriddenIn]; done) | decide +kernel
theorem own_ef3 (m : MethodId) (x0 : Addr) (x2 : Int64) (x3 : Int64) (x4 : Int64) : entryFrame m #[(.ref x0), .null, (.long x2), (.long x3), (.long x4), .null, .null] 10 = mkF m 0 #[.val (.ref x0), .val .null, .val (.long x2), .second, .val (.long x3), .second, .val (.long x4), .second, .val .null, .val .null] [] := by first | (simp [entryFrame, mkF, argsToLocals, Value.category]; done) | rfl
def own_Q3 (Z : State) (a0 : Addr) (q2 : Int64) (q3 : Int64) (q4 : Int64) (h0 : Heap) (n0 : Nat) (v : Option Value) (h : Heap) (L : List Loc) : Prop := v = none ∧ Fr n0 L ∧ Keep h0 h [a0] ∧ Exa Z h a0 "com/example/countersight/countersight/cli/TraceRecord" ∧ Fld Z h a0 "com/example/countersight/countersight/cli/TraceRecord" "thread" "Lcom/example/countersight/countersight/cli/TraceThread;" .null ∧ Fld Z h a0 "com/example/countersight/countersight/cli/TraceRecord" "cpu" "J" (.long q2) ∧ Fld Z h a0 "com/example/countersight/countersight/cli/TraceRecord" "startNs" "J" (.long q3) ∧ Fld Z h a0 "com/example/countersight/countersight/cli/TraceRecord" "durationNs" "J" (.long q4) ∧ Fld Z h a0 "com/example/countersight/countersight/cli/TraceRecord" "method" "Ljava/lang/String;" .null ∧ Fld Z h a0 "com/example/countersight/countersight/cli/TraceRecord" "deltas" "[J" .null
set_option maxRecDepth 65536 in
set_option maxHeartbeats 40000000 in
theorem rm3 (l : Launch) (Z : State) (aw : Array Value) (hw : ∀ d ∈ tables_1, d.before aw Z = true) (ws : List Jvm.Cond) (a0 : Addr) (q2 : Int64) (q3 : Int64) (q4 : Int64) (h0 : Heap) (n0 : Nat) (Z0 : n0 ≤ h0.size) (E_a : Exa Z h0 a0 "com/example/countersight/countersight/cli/TraceRecord") (F_thread : Fld Z h0 a0 "com/example/countersight/countersight/cli/TraceRecord" "thread" "Lcom/example/countersight/countersight/cli/TraceThread;" .null) (F_cpu : Fld Z h0 a0 "com/example/countersight/countersight/cli/TraceRecord" "cpu" "J" (.long (0 : Int64))) (F_startNs : Fld Z h0 a0 "com/example/countersight/countersight/cli/TraceRecord" "startNs" "J" (.long (0 : Int64))) (F_durationNs : Fld Z h0 a0 "com/example/countersight/countersight/cli/TraceRecord" "durationNs" "J" (.long (0 : Int64))) (F_method : Fld Z h0 a0 "com/example/countersight/countersight/cli/TraceRecord" "method" "Ljava/lang/String;" .null) (F_deltas : Fld Z h0 a0 "com/example/countersight/countersight/cli/TraceRecord" "deltas" "[J" .null) (g_a : n0 ≤ a0) :
    MetFree l (⟨"com/example/countersight/countersight/cli/TraceRecord", "<init>", "(Lcom/example/countersight/countersight/cli/TraceThread;JJJLjava/lang/String;[J)V"⟩ : MethodName) (head1 (Jvm.Cond.code (⟨"com/example/countersight/countersight/cli/TraceRecord", "<init>", "(Lcom/example/countersight/countersight/cli/TraceThread;JJJLjava/lang/String;[J)V"⟩ : MethodName) prog_205_method_1_code 10 none :: ws) ({ frames := 2, cells := 0, slots := 0, locals := 24 } : Room)) (fun a U => a = #[(.ref a0), .null, (.long q2), (.long q3), (.long q4), .null, .null] ∧ Z.Warmed39 U.vm ∧ U.heap = h0) (fun _ _ _ _ _ => True) (fun _ U o U' => ∃ v L, o = .returned v ∧ own_Q3 Z a0 q2 q3 q4 h0 n0 v U'.heap L ∧ FrameEnd U o U' L ({ frames := 2, cells := 0, slots := 0, locals := 24 } : Room).cells ({ frames := 2, cells := 0, slots := 0, locals := 24 } : Room).slots) := by
  refine MetFree.of_bodySF (plainFor_of_name own_pn2) hisR ?_
  intro p e s m args below meth c s₁ Bd hml0 hP hK
  obtain ⟨rfl, hZ, hh⟩ := hP
  have hx := Bd.exec
  have hby := Bd.bytes
  have hml : c.maxLocals = 10 := hml0
  have hown : s.vm.findClass "com/example/countersight/countersight/cli/TraceRecord" = some m.cls := findClass_of_methodNamed Bd.named
  have hnm := (name_of_methodNamed Bd.named Bd.method).1
  have X0 : Stand p l e ({ frames := 2, cells := 0, slots := 0, locals := 24 } : Room) s m #[(.ref a0), .null, (.long q2), (.long q3), (.long q4), .null, .null] below meth c s₁ [] 0 0 := Stand.of_body Bd
  have e0 : s₁.heap = h0 := by rw [← hh, Bd.state]; rfl
  have N0 := Fr.nil n0
  show own_G p.tables e below s (own_Q3 Z a0 q2 q3 q4 h0 n0) ({ frames := 2, cells := 0, slots := 0, locals := 24 } : Room).cells ({ frames := 2, cells := 0, slots := 0, locals := 24 } : Room).slots (s₁.setTop (entryFrame m #[(.ref a0), .null, (.long q2), (.long q3), (.long q4), .null, .null] 10))
  refine own_by (fun _ k => castTop (own_ef3 m a0 q2 q3 q4) k) ?_
  show own_G _ _ _ _ _ _ _ (s₁.setTop (mkF m 0 #[.val (.ref a0), .val .null, .val (.long q2), .second, .val (.long q3), .second, .val (.long q4), .second, .val .null, .val .null] []))
  refine own_by (fun _ k => XS.aloadN X0.here hx rfl (hb hby own_d4_0) rfl rfl k) ?_
  show own_G _ _ _ _ _ _ _ (s₁.setTop (mkF m 1 #[.val (.ref a0), .val .null, .val (.long q2), .second, .val (.long q3), .second, .val (.long q4), .second, .val .null, .val .null] [(.ref a0)]))
  obtain ⟨_, _, ⟨T9, L9, k9, n9⟩, -, X9, ⟨Lc9, hQ9, l9, y9, z9⟩, st9⟩ := X0.specialBack hx (y := (⟨"java/lang/Record", "<init>", "()V"⟩ : MethodName)) rfl hown (mvT hZ (hw _ (List.mem_of_getElem? (i := 25) rfl))) (mvT hZ (hw _ (List.mem_of_getElem? (i := 7) rfl))) (mvT hZ (hw _ (List.mem_of_getElem? (i := 10) rfl))) (by decide) (backOf (W := 0) (rm1 l Z aw hw [] a0 h0 n0 Z0 ) hZ (hw _ (List.mem_of_getElem? (i := 10) rfl)) (hw _ (List.mem_of_getElem? (i := 9) rfl)) (by decide) (by decide)) (g := (mkF m 1 #[.val (.ref a0), .val .null, .val (.long q2), .second, .val (.long q3), .second, .val (.long q4), .second, .val .null, .val .null] [(.ref a0)])) rfl (by rw [hml]; rfl) (Steps.refl _) (a := a0) (argsL := []) (rest := []) (lenOf own_pd0 rfl) rfl (by show 2 * 0 + _ ≤ _; exact Nat.le_of_eq rfl) (hb hby own_d4_1) (fun _ _ => ⟨rfl, e0, (by decide : 0 + 0 ≤ _), (by decide : 0 + 0 ≤ _)⟩)
  dsimp only [Pt.U, Pt.locs, Pt.cells, Pt.slots] at X9 l9 y9 z9 st9 hQ9
  subst l9 y9 z9
  obtain ⟨rfl, Nq9, e9⟩ := hQ9
  have N9 := Fr.app N0 Nq9
  refine own_by (fun _ k => st9.trans k) ?_
  show own_G _ _ _ _ _ _ _ (T9.setTop (mkF m 4 #[.val (.ref a0), .val .null, .val (.long q2), .second, .val (.long q3), .second, .val (.long q4), .second, .val .null, .val .null] []))
  refine own_by (fun _ k => XS.aloadN X9.here hx rfl (hb hby own_d4_4) rfl rfl k) ?_
  show own_G _ _ _ _ _ _ _ (T9.setTop (mkF m 5 #[.val (.ref a0), .val .null, .val (.long q2), .second, .val (.long q3), .second, .val (.long q4), .second, .val .null, .val .null] [(.ref a0)]))
  refine own_by (fun _ k => XS.aloadN X9.here hx rfl (hb hby own_d4_5) rfl rfl k) ?_
  show own_G _ _ _ _ _ _ _ (T9.setTop (mkF m 6 #[.val (.ref a0), .val .null, .val (.long q2), .second, .val (.long q3), .second, .val (.long q4), .second, .val .null, .val .null] [.null, (.ref a0)]))
  obtain ⟨T10, h10, X10, e10, W10, st10⟩ := putF X9 hx hZ hown (host := "") (Or.inl (hw _ (List.mem_of_getElem? (i := 26) rfl))) Via.refl e9 F_thread E_a (Or.inr ⟨(hw _ (List.mem_of_getElem? (i := 27) rfl)), rfl, hnm⟩) (hw _ (List.mem_of_getElem? (i := 20) rfl)) (ty := (.object "com/example/countersight/countersight/cli/TraceThread")) (by decide) rfl rfl (g := (mkF m 6 #[.val (.ref a0), .val .null, .val (.long q2), .second, .val (.long q3), .second, .val (.long q4), .second, .val .null, .val .null] [.null, (.ref a0)])) rfl rfl (hb hby own_d4_6)
  refine own_by st10 ?_
  have F11_0 := E_a.wr W10
  have F11_1 := F_thread.same W10
  have F11_2 := F_cpu.other W10 (Or.inr (slot_ne (Or.inr (hw _ (List.mem_of_getElem? (i := 29) rfl))) (Or.inr (hw _ (List.mem_of_getElem? (i := 27) rfl))) (by decide) (t := .long) (t' := (.object "com/example/countersight/countersight/cli/TraceThread")) (by decide) (by decide)))
  have F11_3 := F_startNs.other W10 (Or.inr (slot_ne (Or.inr (hw _ (List.mem_of_getElem? (i := 31) rfl))) (Or.inr (hw _ (List.mem_of_getElem? (i := 27) rfl))) (by decide) (t := .long) (t' := (.object "com/example/countersight/countersight/cli/TraceThread")) (by decide) (by decide)))
  have F11_4 := F_durationNs.other W10 (Or.inr (slot_ne (Or.inr (hw _ (List.mem_of_getElem? (i := 33) rfl))) (Or.inr (hw _ (List.mem_of_getElem? (i := 27) rfl))) (by decide) (t := .long) (t' := (.object "com/example/countersight/countersight/cli/TraceThread")) (by decide) (by decide)))
  have F11_5 := F_method.other W10 (Or.inr (slot_ne (Or.inr (hw _ (List.mem_of_getElem? (i := 35) rfl))) (Or.inr (hw _ (List.mem_of_getElem? (i := 27) rfl))) (by decide) (t := (.object "java/lang/String")) (t' := (.object "com/example/countersight/countersight/cli/TraceThread")) (by decide) (by decide)))
  have F11_6 := F_deltas.other W10 (Or.inr (slot_ne (Or.inr (hw _ (List.mem_of_getElem? (i := 37) rfl))) (Or.inr (hw _ (List.mem_of_getElem? (i := 27) rfl))) (by decide) (t := (.array .long)) (t' := (.object "com/example/countersight/countersight/cli/TraceThread")) (by decide) (by decide)))
  have N10 := Fr.snoc X10 N9 g_a
  have Z12 : n0 ≤ h10.size := Nat.le_trans Z0 (Nat.le_of_eq W10.size.symm)
  have K10 := (Keep.refl h0 [a0]).wr W10 (Or.inl (List.mem_of_getElem? (i := 0) rfl))
  show own_G _ _ _ _ _ _ _ (T10.setTop (mkF m 9 #[.val (.ref a0), .val .null, .val (.long q2), .second, .val (.long q3), .second, .val (.long q4), .second, .val .null, .val .null] []))
  refine own_by (fun _ k => XS.aloadN X10.here hx rfl (hb hby own_d4_9) rfl rfl k) ?_
  show own_G _ _ _ _ _ _ _ (T10.setTop (mkF m 10 #[.val (.ref a0), .val .null, .val (.long q2), .second, .val (.long q3), .second, .val (.long q4), .second, .val .null, .val .null] [(.ref a0)]))
  refine own_by (fun _ k => XT.lloadN X10.here hx rfl (hb hby own_d4_10) rfl  k) ?_
  show own_G _ _ _ _ _ _ _ (T10.setTop (mkF m 11 #[.val (.ref a0), .val .null, .val (.long q2), .second, .val (.long q3), .second, .val (.long q4), .second, .val .null, .val .null] [(.long q2), (.ref a0)]))
  obtain ⟨T13, h13, X13, e13, W13, st13⟩ := putF X10 hx hZ hown (host := "") (Or.inl (hw _ (List.mem_of_getElem? (i := 28) rfl))) Via.refl e10 F11_2 F11_0 (Or.inr ⟨(hw _ (List.mem_of_getElem? (i := 29) rfl)), rfl, hnm⟩) (hw _ (List.mem_of_getElem? (i := 20) rfl)) (ty := .long) (by decide) rfl rfl (g := (mkF m 11 #[.val (.ref a0), .val .null, .val (.long q2), .second, .val (.long q3), .second, .val (.long q4), .second, .val .null, .val .null] [(.long q2), (.ref a0)])) rfl rfl (hb hby own_d4_11)
  refine own_by st13 ?_
  have F14_0 := F11_0.wr W13
  have F14_1 := F11_1.other W13 (Or.inr (slot_ne (Or.inr (hw _ (List.mem_of_getElem? (i := 27) rfl))) (Or.inr (hw _ (List.mem_of_getElem? (i := 29) rfl))) (by decide) (t := (.object "com/example/countersight/countersight/cli/TraceThread")) (t' := .long) (by decide) (by decide)))
  have F14_2 := F11_2.same W13
  have F14_3 := F11_3.other W13 (Or.inr (slot_ne (Or.inr (hw _ (List.mem_of_getElem? (i := 31) rfl))) (Or.inr (hw _ (List.mem_of_getElem? (i := 29) rfl))) (by decide) (t := .long) (t' := .long) (by decide) (by decide)))
  have F14_4 := F11_4.other W13 (Or.inr (slot_ne (Or.inr (hw _ (List.mem_of_getElem? (i := 33) rfl))) (Or.inr (hw _ (List.mem_of_getElem? (i := 29) rfl))) (by decide) (t := .long) (t' := .long) (by decide) (by decide)))
  have F14_5 := F11_5.other W13 (Or.inr (slot_ne (Or.inr (hw _ (List.mem_of_getElem? (i := 35) rfl))) (Or.inr (hw _ (List.mem_of_getElem? (i := 29) rfl))) (by decide) (t := (.object "java/lang/String")) (t' := .long) (by decide) (by decide)))
  have F14_6 := F11_6.other W13 (Or.inr (slot_ne (Or.inr (hw _ (List.mem_of_getElem? (i := 37) rfl))) (Or.inr (hw _ (List.mem_of_getElem? (i := 29) rfl))) (by decide) (t := (.array .long)) (t' := .long) (by decide) (by decide)))
  have N13 := Fr.snoc X13 N10 g_a
  have Z15 : n0 ≤ h13.size := Nat.le_trans Z12 (Nat.le_of_eq W13.size.symm)
  have K13 := K10.wr W13 (Or.inl (List.mem_of_getElem? (i := 0) rfl))
  show own_G _ _ _ _ _ _ _ (T13.setTop (mkF m 14 #[.val (.ref a0), .val .null, .val (.long q2), .second, .val (.long q3), .second, .val (.long q4), .second, .val .null, .val .null] []))
  refine own_by (fun _ k => XS.aloadN X13.here hx rfl (hb hby own_d4_14) rfl rfl k) ?_
  show own_G _ _ _ _ _ _ _ (T13.setTop (mkF m 15 #[.val (.ref a0), .val .null, .val (.long q2), .second, .val (.long q3), .second, .val (.long q4), .second, .val .null, .val .null] [(.ref a0)]))
  refine own_by (fun _ k => XT.lload X13.here hx rfl (hb hby own_d4_15) rfl  k) ?_
  show own_G _ _ _ _ _ _ _ (T13.setTop (mkF m 17 #[.val (.ref a0), .val .null, .val (.long q2), .second, .val (.long q3), .second, .val (.long q4), .second, .val .null, .val .null] [(.long q3), (.ref a0)]))
  obtain ⟨T16, h16, X16, e16, W16, st16⟩ := putF X13 hx hZ hown (host := "") (Or.inl (hw _ (List.mem_of_getElem? (i := 30) rfl))) Via.refl e13 F14_3 F14_0 (Or.inr ⟨(hw _ (List.mem_of_getElem? (i := 31) rfl)), rfl, hnm⟩) (hw _ (List.mem_of_getElem? (i := 20) rfl)) (ty := .long) (by decide) rfl rfl (g := (mkF m 17 #[.val (.ref a0), .val .null, .val (.long q2), .second, .val (.long q3), .second, .val (.long q4), .second, .val .null, .val .null] [(.long q3), (.ref a0)])) rfl rfl (hb hby own_d4_17)
  refine own_by st16 ?_
  have F17_0 := F14_0.wr W16
  have F17_1 := F14_1.other W16 (Or.inr (slot_ne (Or.inr (hw _ (List.mem_of_getElem? (i := 27) rfl))) (Or.inr (hw _ (List.mem_of_getElem? (i := 31) rfl))) (by decide) (t := (.object "com/example/countersight/countersight/cli/TraceThread")) (t' := .long) (by decide) (by decide)))
  have F17_2 := F14_2.other W16 (Or.inr (slot_ne (Or.inr (hw _ (List.mem_of_getElem? (i := 29) rfl))) (Or.inr (hw _ (List.mem_of_getElem? (i := 31) rfl))) (by decide) (t := .long) (t' := .long) (by decide) (by decide)))
  have F17_3 := F14_3.same W16
  have F17_4 := F14_4.other W16 (Or.inr (slot_ne (Or.inr (hw _ (List.mem_of_getElem? (i := 33) rfl))) (Or.inr (hw _ (List.mem_of_getElem? (i := 31) rfl))) (by decide) (t := .long) (t' := .long) (by decide) (by decide)))
  have F17_5 := F14_5.other W16 (Or.inr (slot_ne (Or.inr (hw _ (List.mem_of_getElem? (i := 35) rfl))) (Or.inr (hw _ (List.mem_of_getElem? (i := 31) rfl))) (by decide) (t := (.object "java/lang/String")) (t' := .long) (by decide) (by decide)))
  have F17_6 := F14_6.other W16 (Or.inr (slot_ne (Or.inr (hw _ (List.mem_of_getElem? (i := 37) rfl))) (Or.inr (hw _ (List.mem_of_getElem? (i := 31) rfl))) (by decide) (t := (.array .long)) (t' := .long) (by decide) (by decide)))
  have N16 := Fr.snoc X16 N13 g_a
  have Z18 : n0 ≤ h16.size := Nat.le_trans Z15 (Nat.le_of_eq W16.size.symm)
  have K16 := K13.wr W16 (Or.inl (List.mem_of_getElem? (i := 0) rfl))
  show own_G _ _ _ _ _ _ _ (T16.setTop (mkF m 20 #[.val (.ref a0), .val .null, .val (.long q2), .second, .val (.long q3), .second, .val (.long q4), .second, .val .null, .val .null] []))
  refine own_by (fun _ k => XS.aloadN X16.here hx rfl (hb hby own_d4_20) rfl rfl k) ?_
  show own_G _ _ _ _ _ _ _ (T16.setTop (mkF m 21 #[.val (.ref a0), .val .null, .val (.long q2), .second, .val (.long q3), .second, .val (.long q4), .second, .val .null, .val .null] [(.ref a0)]))
  refine own_by (fun _ k => XT.lload X16.here hx rfl (hb hby own_d4_21) rfl  k) ?_
  show own_G _ _ _ _ _ _ _ (T16.setTop (mkF m 23 #[.val (.ref a0), .val .null, .val (.long q2), .second, .val (.long q3), .second, .val (.long q4), .second, .val .null, .val .null] [(.long q4), (.ref a0)]))
  obtain ⟨T19, h19, X19, e19, W19, st19⟩ := putF X16 hx hZ hown (host := "") (Or.inl (hw _ (List.mem_of_getElem? (i := 32) rfl))) Via.refl e16 F17_4 F17_0 (Or.inr ⟨(hw _ (List.mem_of_getElem? (i := 33) rfl)), rfl, hnm⟩) (hw _ (List.mem_of_getElem? (i := 20) rfl)) (ty := .long) (by decide) rfl rfl (g := (mkF m 23 #[.val (.ref a0), .val .null, .val (.long q2), .second, .val (.long q3), .second, .val (.long q4), .second, .val .null, .val .null] [(.long q4), (.ref a0)])) rfl rfl (hb hby own_d4_23)
  refine own_by st19 ?_
  have F20_0 := F17_0.wr W19
  have F20_1 := F17_1.other W19 (Or.inr (slot_ne (Or.inr (hw _ (List.mem_of_getElem? (i := 27) rfl))) (Or.inr (hw _ (List.mem_of_getElem? (i := 33) rfl))) (by decide) (t := (.object "com/example/countersight/countersight/cli/TraceThread")) (t' := .long) (by decide) (by decide)))
  have F20_2 := F17_2.other W19 (Or.inr (slot_ne (Or.inr (hw _ (List.mem_of_getElem? (i := 29) rfl))) (Or.inr (hw _ (List.mem_of_getElem? (i := 33) rfl))) (by decide) (t := .long) (t' := .long) (by decide) (by decide)))
  have F20_3 := F17_3.other W19 (Or.inr (slot_ne (Or.inr (hw _ (List.mem_of_getElem? (i := 31) rfl))) (Or.inr (hw _ (List.mem_of_getElem? (i := 33) rfl))) (by decide) (t := .long) (t' := .long) (by decide) (by decide)))
  have F20_4 := F17_4.same W19
  have F20_5 := F17_5.other W19 (Or.inr (slot_ne (Or.inr (hw _ (List.mem_of_getElem? (i := 35) rfl))) (Or.inr (hw _ (List.mem_of_getElem? (i := 33) rfl))) (by decide) (t := (.object "java/lang/String")) (t' := .long) (by decide) (by decide)))
  have F20_6 := F17_6.other W19 (Or.inr (slot_ne (Or.inr (hw _ (List.mem_of_getElem? (i := 37) rfl))) (Or.inr (hw _ (List.mem_of_getElem? (i := 33) rfl))) (by decide) (t := (.array .long)) (t' := .long) (by decide) (by decide)))
  have N19 := Fr.snoc X19 N16 g_a
  have Z21 : n0 ≤ h19.size := Nat.le_trans Z18 (Nat.le_of_eq W19.size.symm)
  have K19 := K16.wr W19 (Or.inl (List.mem_of_getElem? (i := 0) rfl))
  show own_G _ _ _ _ _ _ _ (T19.setTop (mkF m 26 #[.val (.ref a0), .val .null, .val (.long q2), .second, .val (.long q3), .second, .val (.long q4), .second, .val .null, .val .null] []))
  refine own_by (fun _ k => XS.aloadN X19.here hx rfl (hb hby own_d4_26) rfl rfl k) ?_
  show own_G _ _ _ _ _ _ _ (T19.setTop (mkF m 27 #[.val (.ref a0), .val .null, .val (.long q2), .second, .val (.long q3), .second, .val (.long q4), .second, .val .null, .val .null] [(.ref a0)]))
  refine own_by (fun _ k => XS.aload X19.here hx rfl (hb hby own_d4_27) rfl rfl k) ?_
  show own_G _ _ _ _ _ _ _ (T19.setTop (mkF m 29 #[.val (.ref a0), .val .null, .val (.long q2), .second, .val (.long q3), .second, .val (.long q4), .second, .val .null, .val .null] [.null, (.ref a0)]))
  obtain ⟨T22, h22, X22, e22, W22, st22⟩ := putF X19 hx hZ hown (host := "") (Or.inl (hw _ (List.mem_of_getElem? (i := 34) rfl))) Via.refl e19 F20_5 F20_0 (Or.inr ⟨(hw _ (List.mem_of_getElem? (i := 35) rfl)), rfl, hnm⟩) (hw _ (List.mem_of_getElem? (i := 20) rfl)) (ty := (.object "java/lang/String")) (by decide) rfl rfl (g := (mkF m 29 #[.val (.ref a0), .val .null, .val (.long q2), .second, .val (.long q3), .second, .val (.long q4), .second, .val .null, .val .null] [.null, (.ref a0)])) rfl rfl (hb hby own_d4_29)
  refine own_by st22 ?_
  have F23_0 := F20_0.wr W22
  have F23_1 := F20_1.other W22 (Or.inr (slot_ne (Or.inr (hw _ (List.mem_of_getElem? (i := 27) rfl))) (Or.inr (hw _ (List.mem_of_getElem? (i := 35) rfl))) (by decide) (t := (.object "com/example/countersight/countersight/cli/TraceThread")) (t' := (.object "java/lang/String")) (by decide) (by decide)))
  have F23_2 := F20_2.other W22 (Or.inr (slot_ne (Or.inr (hw _ (List.mem_of_getElem? (i := 29) rfl))) (Or.inr (hw _ (List.mem_of_getElem? (i := 35) rfl))) (by decide) (t := .long) (t' := (.object "java/lang/String")) (by decide) (by decide)))
  have F23_3 := F20_3.other W22 (Or.inr (slot_ne (Or.inr (hw _ (List.mem_of_getElem? (i := 31) rfl))) (Or.inr (hw _ (List.mem_of_getElem? (i := 35) rfl))) (by decide) (t := .long) (t' := (.object "java/lang/String")) (by decide) (by decide)))
  have F23_4 := F20_4.other W22 (Or.inr (slot_ne (Or.inr (hw _ (List.mem_of_getElem? (i := 33) rfl))) (Or.inr (hw _ (List.mem_of_getElem? (i := 35) rfl))) (by decide) (t := .long) (t' := (.object "java/lang/String")) (by decide) (by decide)))
  have F23_5 := F20_5.same W22
  have F23_6 := F20_6.other W22 (Or.inr (slot_ne (Or.inr (hw _ (List.mem_of_getElem? (i := 37) rfl))) (Or.inr (hw _ (List.mem_of_getElem? (i := 35) rfl))) (by decide) (t := (.array .long)) (t' := (.object "java/lang/String")) (by decide) (by decide)))
  have N22 := Fr.snoc X22 N19 g_a
  have Z24 : n0 ≤ h22.size := Nat.le_trans Z21 (Nat.le_of_eq W22.size.symm)
  have K22 := K19.wr W22 (Or.inl (List.mem_of_getElem? (i := 0) rfl))
  show own_G _ _ _ _ _ _ _ (T22.setTop (mkF m 32 #[.val (.ref a0), .val .null, .val (.long q2), .second, .val (.long q3), .second, .val (.long q4), .second, .val .null, .val .null] []))
  refine own_by (fun _ k => XS.aloadN X22.here hx rfl (hb hby own_d4_32) rfl rfl k) ?_
  show own_G _ _ _ _ _ _ _ (T22.setTop (mkF m 33 #[.val (.ref a0), .val .null, .val (.long q2), .second, .val (.long q3), .second, .val (.long q4), .second, .val .null, .val .null] [(.ref a0)]))
  refine own_by (fun _ k => XS.aload X22.here hx rfl (hb hby own_d4_33) rfl rfl k) ?_
  show own_G _ _ _ _ _ _ _ (T22.setTop (mkF m 35 #[.val (.ref a0), .val .null, .val (.long q2), .second, .val (.long q3), .second, .val (.long q4), .second, .val .null, .val .null] [.null, (.ref a0)]))
  obtain ⟨T25, h25, X25, e25, W25, st25⟩ := putF X22 hx hZ hown (host := "") (Or.inl (hw _ (List.mem_of_getElem? (i := 36) rfl))) Via.refl e22 F23_6 F23_0 (Or.inr ⟨(hw _ (List.mem_of_getElem? (i := 37) rfl)), rfl, hnm⟩) (hw _ (List.mem_of_getElem? (i := 20) rfl)) (ty := (.array .long)) (by decide) rfl rfl (g := (mkF m 35 #[.val (.ref a0), .val .null, .val (.long q2), .second, .val (.long q3), .second, .val (.long q4), .second, .val .null, .val .null] [.null, (.ref a0)])) rfl rfl (hb hby own_d4_35)
  refine own_by st25 ?_
  have F26_0 := F23_0.wr W25
  have F26_1 := F23_1.other W25 (Or.inr (slot_ne (Or.inr (hw _ (List.mem_of_getElem? (i := 27) rfl))) (Or.inr (hw _ (List.mem_of_getElem? (i := 37) rfl))) (by decide) (t := (.object "com/example/countersight/countersight/cli/TraceThread")) (t' := (.array .long)) (by decide) (by decide)))
  have F26_2 := F23_2.other W25 (Or.inr (slot_ne (Or.inr (hw _ (List.mem_of_getElem? (i := 29) rfl))) (Or.inr (hw _ (List.mem_of_getElem? (i := 37) rfl))) (by decide) (t := .long) (t' := (.array .long)) (by decide) (by decide)))
  have F26_3 := F23_3.other W25 (Or.inr (slot_ne (Or.inr (hw _ (List.mem_of_getElem? (i := 31) rfl))) (Or.inr (hw _ (List.mem_of_getElem? (i := 37) rfl))) (by decide) (t := .long) (t' := (.array .long)) (by decide) (by decide)))
  have F26_4 := F23_4.other W25 (Or.inr (slot_ne (Or.inr (hw _ (List.mem_of_getElem? (i := 33) rfl))) (Or.inr (hw _ (List.mem_of_getElem? (i := 37) rfl))) (by decide) (t := .long) (t' := (.array .long)) (by decide) (by decide)))
  have F26_5 := F23_5.other W25 (Or.inr (slot_ne (Or.inr (hw _ (List.mem_of_getElem? (i := 35) rfl))) (Or.inr (hw _ (List.mem_of_getElem? (i := 37) rfl))) (by decide) (t := (.object "java/lang/String")) (t' := (.array .long)) (by decide) (by decide)))
  have F26_6 := F23_6.same W25
  have N25 := Fr.snoc X25 N22 g_a
  have Z27 : n0 ≤ h25.size := Nat.le_trans Z24 (Nat.le_of_eq W25.size.symm)
  have K25 := K22.wr W25 (Or.inl (List.mem_of_getElem? (i := 0) rfl))
  show own_G _ _ _ _ _ _ _ (T25.setTop (mkF m 38 #[.val (.ref a0), .val .null, .val (.long q2), .second, .val (.long q3), .second, .val (.long q4), .second, .val .null, .val .null] []))
  exact own_end X25 (v := none) (fun _ => rfl) (BodyLoose.notSynchronized Bd) (fun fs hr => X25.returnOut hx Bd.returns (hb hby own_d4_38) hr) (by rw [e25]; exact ⟨rfl, N25, K25, F26_0, F26_1, F26_2, F26_3, F26_4, F26_5, F26_6⟩) (by decide) (by decide)
theorem own_d5_0 : decode prog_210_method_4_code 0 = .ok (.lload_n 1, 1) := by decide +kernel
theorem own_d5_1 : decode prog_210_method_4_code 1 = .ok (.aload_n 0, 1) := by decide +kernel
theorem own_d5_2 : decode prog_210_method_4_code 2 = .ok (.getfield 7, 3) := by decide +kernel
theorem own_d5_5 : decode prog_210_method_4_code 5 = .ok (.lcmp, 1) := by decide +kernel
theorem own_d5_6 : decode prog_210_method_4_code 6 = .ok (.ifCond .lt 16, 3) := by decide +kernel
theorem own_d5_22 : decode prog_210_method_4_code 22 = .ok (.iconst 0, 1) := by decide +kernel
theorem own_d5_23 : decode prog_210_method_4_code 23 = .ok (.ireturn, 1) := by decide +kernel
theorem own_d5_9 : decode prog_210_method_4_code 9 = .ok (.lload_n 1, 1) := by decide +kernel
theorem own_d5_10 : decode prog_210_method_4_code 10 = .ok (.aload_n 0, 1) := by decide +kernel
theorem own_d5_11 : decode prog_210_method_4_code 11 = .ok (.getfield 13, 3) := by decide +kernel
theorem own_d5_14 : decode prog_210_method_4_code 14 = .ok (.lcmp, 1) := by decide +kernel
theorem own_d5_15 : decode prog_210_method_4_code 15 = .ok (.ifCond .ge 7, 3) := by decide +kernel
theorem own_d5_18 : decode prog_210_method_4_code 18 = .ok (.iconst 1, 1) := by decide +kernel
theorem own_d5_19 : decode prog_210_method_4_code 19 = .ok (.goto 4, 3) := by decide +kernel
theorem own_ef4 (m : MethodId) (x0 : Addr) (x1 : Int64) : entryFrame m #[(.ref x0), (.long x1)] 3 = mkF m 0 #[.val (.ref x0), .val (.long x1), .second] [] := by first | (simp [entryFrame, mkF, argsToLocals, Value.category]; done) | rfl
def own_Q4 (Z : State) (a0 : Addr) (q1 : Int64) (x0 : Int64) (x1 : Int64) (h0 : Heap) (n0 : Nat) (v : Option Value) (h : Heap) (L : List Loc) : Prop := v = some (.int (own_holds q1 x0 x1)) ∧ Fr n0 L ∧ h = h0
set_option maxRecDepth 65536 in
set_option maxHeartbeats 40000000 in
theorem rm4 (l : Launch) (Z : State) (aw : Array Value) (hw : ∀ d ∈ tables_1, d.before aw Z = true) (ws : List Jvm.Cond) (a0 : Addr) (q1 : Int64) (x0 : Int64) (x1 : Int64) (h0 : Heap) (n0 : Nat) (Z0 : n0 ≤ h0.size) (F_a0_fromNs : Fld Z h0 a0 "com/example/countersight/countersight/cli/Window" "fromNs" "J" (.long x0)) (F_a0_toNs : Fld Z h0 a0 "com/example/countersight/countersight/cli/Window" "toNs" "J" (.long x1)) :
    MetFree l (⟨"com/example/countersight/countersight/cli/Window", "holds", "(J)Z"⟩ : MethodName) (head1 (Jvm.Cond.code (⟨"com/example/countersight/countersight/cli/Window", "holds", "(J)Z"⟩ : MethodName) prog_210_method_4_code 3 (some .boolean) :: ws) ({ frames := 0, cells := 0, slots := 0, locals := 0 } : Room)) (fun a U => a = #[(.ref a0), (.long q1)] ∧ Z.Warmed39 U.vm ∧ U.heap = h0) (fun _ _ _ _ _ => True) (fun _ U o U' => ∃ v L, o = .returned v ∧ own_Q4 Z a0 q1 x0 x1 h0 n0 v U'.heap L ∧ FrameEnd U o U' L ({ frames := 0, cells := 0, slots := 0, locals := 0 } : Room).cells ({ frames := 0, cells := 0, slots := 0, locals := 0 } : Room).slots) := by
  refine MetFree.of_bodySF (plainFor_of_name own_pn1) hisR ?_
  intro p e s m args below meth c s₁ Bd hml0 hP hK
  obtain ⟨rfl, hZ, hh⟩ := hP
  have hx := Bd.exec
  have hby := Bd.bytes
  have hml : c.maxLocals = 3 := hml0
  have hown : s.vm.findClass "com/example/countersight/countersight/cli/Window" = some m.cls := findClass_of_methodNamed Bd.named
  have hnm := (name_of_methodNamed Bd.named Bd.method).1
  have X0 : Stand p l e ({ frames := 0, cells := 0, slots := 0, locals := 0 } : Room) s m #[(.ref a0), (.long q1)] below meth c s₁ [] 0 0 := Stand.of_body Bd
  have e0 : s₁.heap = h0 := by rw [← hh, Bd.state]; rfl
  have N0 := Fr.nil n0
  show own_G p.tables e below s (own_Q4 Z a0 q1 x0 x1 h0 n0) ({ frames := 0, cells := 0, slots := 0, locals := 0 } : Room).cells ({ frames := 0, cells := 0, slots := 0, locals := 0 } : Room).slots (s₁.setTop (entryFrame m #[(.ref a0), (.long q1)] 3))
  refine own_by (fun _ k => castTop (own_ef4 m a0 q1) k) ?_
  show own_G _ _ _ _ _ _ _ (s₁.setTop (mkF m 0 #[.val (.ref a0), .val (.long q1), .second] []))
  refine own_by (fun _ k => XT.lloadN X0.here hx rfl (hb hby own_d5_0) rfl  k) ?_
  show own_G _ _ _ _ _ _ _ (s₁.setTop (mkF m 1 #[.val (.ref a0), .val (.long q1), .second] [(.long q1)]))
  refine own_by (fun _ k => XS.aloadN X0.here hx rfl (hb hby own_d5_1) rfl rfl k) ?_
  show own_G _ _ _ _ _ _ _ (s₁.setTop (mkF m 2 #[.val (.ref a0), .val (.long q1), .second] [(.ref a0), (.long q1)]))
  obtain ⟨T28, X28, e28, st28⟩ := getF X0 hx hZ hown (host := "") (Or.inl (hw _ (List.mem_of_getElem? (i := 14) rfl))) Via.refl e0 F_a0_fromNs (g := (mkF m 2 #[.val (.ref a0), .val (.long q1), .second] [(.ref a0), (.long q1)])) rfl rfl (hb hby own_d5_2)
  refine own_by st28 ?_
  show own_G _ _ _ _ _ _ _ (T28.setTop (mkF m 5 #[.val (.ref a0), .val (.long q1), .second] [(.long x0), (.long q1)]))
  refine own_by (fun _ k => XT.lcmp X28.here hx rfl (hb hby own_d5_5) rfl k) ?_
  show own_G _ _ _ _ _ _ _ (T28.setTop (mkF m 6 #[.val (.ref a0), .val (.long q1), .second] [(.int (XT.cmpL q1 x0))]))
  by_cases hc6 : q1 < x0
  · refine own_by (fun _ k => XS.ifYes X28.here hx rfl (pc0 := 6) (pc' := 22) rfl (hb hby own_d5_6) rfl (XT.ll_lt_t hc6) (by decide) (by decide) k) ?_
    show own_G _ _ _ _ _ _ _ (T28.setTop (mkF m 22 #[.val (.ref a0), .val (.long q1), .second] []))
    refine own_by (fun _ k => XS.iconst X28.here hx rfl (hb hby own_d5_22) k) ?_
    show own_G _ _ _ _ _ _ _ (T28.setTop (mkF m 23 #[.val (.ref a0), .val (.long q1), .second] [(.int (0 : Int32))]))
    exact own_end X28 (v := some (.int (nar .boolean (0 : Int32)))) (fun h => by rw [Bd.returns] at h; cases h) (BodyLoose.notSynchronized Bd) (fun fs hr => retN X28 hx (t := .boolean) Bd.returns (by simp) (hb hby own_d5_23) hr) (by rw [e28]; exact ⟨(by simp only [own_holds, hc6, if_true, if_false, ↓reduceIte]; first | done | rfl), N0, rfl⟩) (by decide) (by decide)
  · refine own_by (fun _ k => XS.ifNo X28.here hx rfl (hb hby own_d5_6) rfl (XT.ll_lt_f hc6) k) ?_
    show own_G _ _ _ _ _ _ _ (T28.setTop (mkF m 9 #[.val (.ref a0), .val (.long q1), .second] []))
    refine own_by (fun _ k => XT.lloadN X28.here hx rfl (hb hby own_d5_9) rfl  k) ?_
    show own_G _ _ _ _ _ _ _ (T28.setTop (mkF m 10 #[.val (.ref a0), .val (.long q1), .second] [(.long q1)]))
    refine own_by (fun _ k => XS.aloadN X28.here hx rfl (hb hby own_d5_10) rfl rfl k) ?_
    show own_G _ _ _ _ _ _ _ (T28.setTop (mkF m 11 #[.val (.ref a0), .val (.long q1), .second] [(.ref a0), (.long q1)]))
    obtain ⟨T29, X29, e29, st29⟩ := getF X28 hx hZ hown (host := "") (Or.inl (hw _ (List.mem_of_getElem? (i := 16) rfl))) Via.refl e28 F_a0_toNs (g := (mkF m 11 #[.val (.ref a0), .val (.long q1), .second] [(.ref a0), (.long q1)])) rfl rfl (hb hby own_d5_11)
    refine own_by st29 ?_
    show own_G _ _ _ _ _ _ _ (T29.setTop (mkF m 14 #[.val (.ref a0), .val (.long q1), .second] [(.long x1), (.long q1)]))
    refine own_by (fun _ k => XT.lcmp X29.here hx rfl (hb hby own_d5_14) rfl k) ?_
    show own_G _ _ _ _ _ _ _ (T29.setTop (mkF m 15 #[.val (.ref a0), .val (.long q1), .second] [(.int (XT.cmpL q1 x1))]))
    by_cases hc15 : q1 < x1
    · refine own_by (fun _ k => XS.ifNo X29.here hx rfl (hb hby own_d5_15) rfl (XT.ll_ge_f hc15) k) ?_
      show own_G _ _ _ _ _ _ _ (T29.setTop (mkF m 18 #[.val (.ref a0), .val (.long q1), .second] []))
      refine own_by (fun _ k => XS.iconst X29.here hx rfl (hb hby own_d5_18) k) ?_
      show own_G _ _ _ _ _ _ _ (T29.setTop (mkF m 19 #[.val (.ref a0), .val (.long q1), .second] [(.int (1 : Int32))]))
      refine own_by (fun _ k => XS.goto X29.here hx rfl (pc0 := 19) (pc' := 23) rfl (hb hby own_d5_19) (by decide) (by decide) k) ?_
      show own_G _ _ _ _ _ _ _ (T29.setTop (mkF m 23 #[.val (.ref a0), .val (.long q1), .second] [(.int (1 : Int32))]))
      exact own_end X29 (v := some (.int (nar .boolean (1 : Int32)))) (fun h => by rw [Bd.returns] at h; cases h) (BodyLoose.notSynchronized Bd) (fun fs hr => retN X29 hx (t := .boolean) Bd.returns (by simp) (hb hby own_d5_23) hr) (by rw [e29]; exact ⟨(by simp only [own_holds, hc6, hc15, if_true, if_false, ↓reduceIte]; first | done | rfl), N0, rfl⟩) (by decide) (by decide)
    · refine own_by (fun _ k => XS.ifYes X29.here hx rfl (pc0 := 15) (pc' := 22) rfl (hb hby own_d5_15) rfl (XT.ll_ge_t hc15) (by decide) (by decide) k) ?_
      show own_G _ _ _ _ _ _ _ (T29.setTop (mkF m 22 #[.val (.ref a0), .val (.long q1), .second] []))
      refine own_by (fun _ k => XS.iconst X29.here hx rfl (hb hby own_d5_22) k) ?_
      show own_G _ _ _ _ _ _ _ (T29.setTop (mkF m 23 #[.val (.ref a0), .val (.long q1), .second] [(.int (0 : Int32))]))
      exact own_end X29 (v := some (.int (nar .boolean (0 : Int32)))) (fun h => by rw [Bd.returns] at h; cases h) (BodyLoose.notSynchronized Bd) (fun fs hr => retN X29 hx (t := .boolean) Bd.returns (by simp) (hb hby own_d5_23) hr) (by rw [e29]; exact ⟨(by simp only [own_holds, hc6, hc15, if_true, if_false, ↓reduceIte]; first | done | rfl), N0, rfl⟩) (by decide) (by decide)
theorem own_d7_0 : decode prog_205_method_7_code 0 = .ok (.aload_n 0, 1) := by decide +kernel
theorem own_d7_1 : decode prog_205_method_7_code 1 = .ok (.getfield 17, 3) := by decide +kernel
theorem own_d7_4 : decode prog_205_method_7_code 4 = .ok (.lreturn, 1) := by decide +kernel
theorem own_ef5 (m : MethodId) (x0 : Addr) : entryFrame m #[(.ref x0)] 1 = mkF m 0 #[.val (.ref x0)] [] := by first | (simp [entryFrame, mkF, argsToLocals, Value.category]; done) | rfl
def own_Q5 (Z : State) (a0 : Addr) (x0 : Int64) (h0 : Heap) (n0 : Nat) (v : Option Value) (h : Heap) (L : List Loc) : Prop := v = some (.long (x0)) ∧ Fr n0 L ∧ h = h0
set_option maxRecDepth 65536 in
set_option maxHeartbeats 40000000 in
theorem rm5 (l : Launch) (Z : State) (aw : Array Value) (hw : ∀ d ∈ tables_1, d.before aw Z = true) (ws : List Jvm.Cond) (a0 : Addr) (x0 : Int64) (h0 : Heap) (n0 : Nat) (Z0 : n0 ≤ h0.size) (F_a0_startNs : Fld Z h0 a0 "com/example/countersight/countersight/cli/TraceRecord" "startNs" "J" (.long x0)) :
    MetFree l (⟨"com/example/countersight/countersight/cli/TraceRecord", "startNs", "()J"⟩ : MethodName) (head1 (Jvm.Cond.code (⟨"com/example/countersight/countersight/cli/TraceRecord", "startNs", "()J"⟩ : MethodName) prog_205_method_7_code 1 (some .long) :: ws) ({ frames := 0, cells := 0, slots := 0, locals := 0 } : Room)) (fun a U => a = #[(.ref a0)] ∧ Z.Warmed39 U.vm ∧ U.heap = h0) (fun _ _ _ _ _ => True) (fun _ U o U' => ∃ v L, o = .returned v ∧ own_Q5 Z a0 x0 h0 n0 v U'.heap L ∧ FrameEnd U o U' L ({ frames := 0, cells := 0, slots := 0, locals := 0 } : Room).cells ({ frames := 0, cells := 0, slots := 0, locals := 0 } : Room).slots) := by
  refine MetFree.of_bodySF (plainFor_of_name own_pn2) hisR ?_
  intro p e s m args below meth c s₁ Bd hml0 hP hK
  obtain ⟨rfl, hZ, hh⟩ := hP
  have hx := Bd.exec
  have hby := Bd.bytes
  have hml : c.maxLocals = 1 := hml0
  have hown : s.vm.findClass "com/example/countersight/countersight/cli/TraceRecord" = some m.cls := findClass_of_methodNamed Bd.named
  have hnm := (name_of_methodNamed Bd.named Bd.method).1
  have X0 : Stand p l e ({ frames := 0, cells := 0, slots := 0, locals := 0 } : Room) s m #[(.ref a0)] below meth c s₁ [] 0 0 := Stand.of_body Bd
  have e0 : s₁.heap = h0 := by rw [← hh, Bd.state]; rfl
  have N0 := Fr.nil n0
  show own_G p.tables e below s (own_Q5 Z a0 x0 h0 n0) ({ frames := 0, cells := 0, slots := 0, locals := 0 } : Room).cells ({ frames := 0, cells := 0, slots := 0, locals := 0 } : Room).slots (s₁.setTop (entryFrame m #[(.ref a0)] 1))
  refine own_by (fun _ k => castTop (own_ef5 m a0) k) ?_
  show own_G _ _ _ _ _ _ _ (s₁.setTop (mkF m 0 #[.val (.ref a0)] []))
  refine own_by (fun _ k => XS.aloadN X0.here hx rfl (hb hby own_d7_0) rfl rfl k) ?_
  show own_G _ _ _ _ _ _ _ (s₁.setTop (mkF m 1 #[.val (.ref a0)] [(.ref a0)]))
  obtain ⟨T30, X30, e30, st30⟩ := getF X0 hx hZ hown (host := "") (Or.inl (hw _ (List.mem_of_getElem? (i := 30) rfl))) Via.refl e0 F_a0_startNs (g := (mkF m 1 #[.val (.ref a0)] [(.ref a0)])) rfl rfl (hb hby own_d7_1)
  refine own_by st30 ?_
  show own_G _ _ _ _ _ _ _ (T30.setTop (mkF m 4 #[.val (.ref a0)] [(.long x0)]))
  exact own_end X30 (v := some (.long x0)) (fun h => by rw [Bd.returns] at h; cases h) (BodyLoose.notSynchronized Bd) (fun fs hr => X30.lreturnOut hx Bd.returns (hb hby own_d7_4) hr) (by rw [e30]; exact ⟨rfl, N0, rfl⟩) (by decide) (by decide)
theorem own_d9_0 : decode prog_205_method_8_code 0 = .ok (.aload_n 0, 1) := by decide +kernel
theorem own_d9_1 : decode prog_205_method_8_code 1 = .ok (.getfield 20, 3) := by decide +kernel
theorem own_d9_4 : decode prog_205_method_8_code 4 = .ok (.lreturn, 1) := by decide +kernel
theorem own_ef6 (m : MethodId) (x0 : Addr) : entryFrame m #[(.ref x0)] 1 = mkF m 0 #[.val (.ref x0)] [] := by first | (simp [entryFrame, mkF, argsToLocals, Value.category]; done) | rfl
def own_Q6 (Z : State) (a0 : Addr) (x0 : Int64) (h0 : Heap) (n0 : Nat) (v : Option Value) (h : Heap) (L : List Loc) : Prop := v = some (.long (x0)) ∧ Fr n0 L ∧ h = h0
set_option maxRecDepth 65536 in
set_option maxHeartbeats 40000000 in
theorem rm6 (l : Launch) (Z : State) (aw : Array Value) (hw : ∀ d ∈ tables_1, d.before aw Z = true) (ws : List Jvm.Cond) (a0 : Addr) (x0 : Int64) (h0 : Heap) (n0 : Nat) (Z0 : n0 ≤ h0.size) (F_a0_durationNs : Fld Z h0 a0 "com/example/countersight/countersight/cli/TraceRecord" "durationNs" "J" (.long x0)) :
    MetFree l (⟨"com/example/countersight/countersight/cli/TraceRecord", "durationNs", "()J"⟩ : MethodName) (head1 (Jvm.Cond.code (⟨"com/example/countersight/countersight/cli/TraceRecord", "durationNs", "()J"⟩ : MethodName) prog_205_method_8_code 1 (some .long) :: ws) ({ frames := 0, cells := 0, slots := 0, locals := 0 } : Room)) (fun a U => a = #[(.ref a0)] ∧ Z.Warmed39 U.vm ∧ U.heap = h0) (fun _ _ _ _ _ => True) (fun _ U o U' => ∃ v L, o = .returned v ∧ own_Q6 Z a0 x0 h0 n0 v U'.heap L ∧ FrameEnd U o U' L ({ frames := 0, cells := 0, slots := 0, locals := 0 } : Room).cells ({ frames := 0, cells := 0, slots := 0, locals := 0 } : Room).slots) := by
  refine MetFree.of_bodySF (plainFor_of_name own_pn2) hisR ?_
  intro p e s m args below meth c s₁ Bd hml0 hP hK
  obtain ⟨rfl, hZ, hh⟩ := hP
  have hx := Bd.exec
  have hby := Bd.bytes
  have hml : c.maxLocals = 1 := hml0
  have hown : s.vm.findClass "com/example/countersight/countersight/cli/TraceRecord" = some m.cls := findClass_of_methodNamed Bd.named
  have hnm := (name_of_methodNamed Bd.named Bd.method).1
  have X0 : Stand p l e ({ frames := 0, cells := 0, slots := 0, locals := 0 } : Room) s m #[(.ref a0)] below meth c s₁ [] 0 0 := Stand.of_body Bd
  have e0 : s₁.heap = h0 := by rw [← hh, Bd.state]; rfl
  have N0 := Fr.nil n0
  show own_G p.tables e below s (own_Q6 Z a0 x0 h0 n0) ({ frames := 0, cells := 0, slots := 0, locals := 0 } : Room).cells ({ frames := 0, cells := 0, slots := 0, locals := 0 } : Room).slots (s₁.setTop (entryFrame m #[(.ref a0)] 1))
  refine own_by (fun _ k => castTop (own_ef6 m a0) k) ?_
  show own_G _ _ _ _ _ _ _ (s₁.setTop (mkF m 0 #[.val (.ref a0)] []))
  refine own_by (fun _ k => XS.aloadN X0.here hx rfl (hb hby own_d9_0) rfl rfl k) ?_
  show own_G _ _ _ _ _ _ _ (s₁.setTop (mkF m 1 #[.val (.ref a0)] [(.ref a0)]))
  obtain ⟨T31, X31, e31, st31⟩ := getF X0 hx hZ hown (host := "") (Or.inl (hw _ (List.mem_of_getElem? (i := 32) rfl))) Via.refl e0 F_a0_durationNs (g := (mkF m 1 #[.val (.ref a0)] [(.ref a0)])) rfl rfl (hb hby own_d9_1)
  refine own_by st31 ?_
  show own_G _ _ _ _ _ _ _ (T31.setTop (mkF m 4 #[.val (.ref a0)] [(.long x0)]))
  exact own_end X31 (v := some (.long x0)) (fun h => by rw [Bd.returns] at h; cases h) (BodyLoose.notSynchronized Bd) (fun fs hr => X31.lreturnOut hx Bd.returns (hb hby own_d9_4) hr) (by rw [e31]; exact ⟨rfl, N0, rfl⟩) (by decide) (by decide)
theorem own_d8_0 : decode prog_210_method_11_code 0 = .ok (.aload_n 0, 1) := by decide +kernel
theorem own_d8_1 : decode prog_210_method_11_code 1 = .ok (.invokevirtual 16, 3) := by decide +kernel
theorem own_pd1 : parseMethodDescriptor "()J" = some ⟨[], some .long⟩ := by decide +kernel
theorem own_d8_4 : decode prog_210_method_11_code 4 = .ok (.aload_n 0, 1) := by decide +kernel
theorem own_d8_5 : decode prog_210_method_11_code 5 = .ok (.invokevirtual 60, 3) := by decide +kernel
theorem own_d8_8 : decode prog_210_method_11_code 8 = .ok (.ladd, 1) := by decide +kernel
theorem own_d8_9 : decode prog_210_method_11_code 9 = .ok (.lstore_n 1, 1) := by decide +kernel
theorem own_d8_10 : decode prog_210_method_11_code 10 = .ok (.lload_n 1, 1) := by decide +kernel
theorem own_d8_11 : decode prog_210_method_11_code 11 = .ok (.lconst 0, 1) := by decide +kernel
theorem own_d8_12 : decode prog_210_method_11_code 12 = .ok (.lcmp, 1) := by decide +kernel
theorem own_d8_13 : decode prog_210_method_11_code 13 = .ok (.ifCond .ge 9, 3) := by decide +kernel
theorem own_d8_16 : decode prog_210_method_11_code 16 = .ok (.ldc2_w 43, 3) := by decide +kernel
theorem own_d8_19 : decode prog_210_method_11_code 19 = .ok (.goto 4, 3) := by decide +kernel
theorem own_d8_23 : decode prog_210_method_11_code 23 = .ok (.lreturn, 1) := by decide +kernel
theorem own_d8_22 : decode prog_210_method_11_code 22 = .ok (.lload_n 1, 1) := by decide +kernel
theorem own_ef7 (m : MethodId) (x0 : Addr) : entryFrame m #[(.ref x0)] 3 = mkF m 0 #[.val (.ref x0), .unset, .unset] [] := by first | (simp [entryFrame, mkF, argsToLocals, Value.category]; done) | rfl
def own_Q7 (Z : State) (a0 : Addr) (x0 : Int64) (x1 : Int64) (h0 : Heap) (n0 : Nat) (v : Option Value) (h : Heap) (L : List Loc) : Prop := v = some (.long (own_endv x0 x1)) ∧ Fr n0 L ∧ h = h0
set_option maxRecDepth 65536 in
set_option maxHeartbeats 40000000 in
theorem rm7 (l : Launch) (Z : State) (aw : Array Value) (hw : ∀ d ∈ tables_1, d.before aw Z = true) (ws : List Jvm.Cond) (a0 : Addr) (x0 : Int64) (x1 : Int64) (h0 : Heap) (n0 : Nat) (Z0 : n0 ≤ h0.size) (E_a0 : Exa Z h0 a0 "com/example/countersight/countersight/cli/TraceRecord") (F_a0_startNs : Fld Z h0 a0 "com/example/countersight/countersight/cli/TraceRecord" "startNs" "J" (.long x0)) (F_a0_durationNs : Fld Z h0 a0 "com/example/countersight/countersight/cli/TraceRecord" "durationNs" "J" (.long x1)) :
    MetFree l (⟨"com/example/countersight/countersight/cli/Window", "end", "(Lcom/example/countersight/countersight/cli/TraceRecord;)J"⟩ : MethodName) (head1 (Jvm.Cond.code (⟨"com/example/countersight/countersight/cli/Window", "end", "(Lcom/example/countersight/countersight/cli/TraceRecord;)J"⟩ : MethodName) prog_210_method_11_code 3 (some .long) :: ws) ({ frames := 1, cells := 0, slots := 0, locals := 14 } : Room)) (fun a U => a = #[(.ref a0)] ∧ Z.Warmed39 U.vm ∧ U.heap = h0) (fun _ _ _ _ _ => True) (fun _ U o U' => ∃ v L, o = .returned v ∧ own_Q7 Z a0 x0 x1 h0 n0 v U'.heap L ∧ FrameEnd U o U' L ({ frames := 1, cells := 0, slots := 0, locals := 14 } : Room).cells ({ frames := 1, cells := 0, slots := 0, locals := 14 } : Room).slots) := by
  refine MetFree.of_bodySF (plainFor_of_name own_pn1) hisR ?_
  intro p e s m args below meth c s₁ Bd hml0 hP hK
  obtain ⟨rfl, hZ, hh⟩ := hP
  have hx := Bd.exec
  have hby := Bd.bytes
  have hml : c.maxLocals = 3 := hml0
  have hown : s.vm.findClass "com/example/countersight/countersight/cli/Window" = some m.cls := findClass_of_methodNamed Bd.named
  have hnm := (name_of_methodNamed Bd.named Bd.method).1
  have X0 : Stand p l e ({ frames := 1, cells := 0, slots := 0, locals := 14 } : Room) s m #[(.ref a0)] below meth c s₁ [] 0 0 := Stand.of_body Bd
  have e0 : s₁.heap = h0 := by rw [← hh, Bd.state]; rfl
  have N0 := Fr.nil n0
  show own_G p.tables e below s (own_Q7 Z a0 x0 x1 h0 n0) ({ frames := 1, cells := 0, slots := 0, locals := 14 } : Room).cells ({ frames := 1, cells := 0, slots := 0, locals := 14 } : Room).slots (s₁.setTop (entryFrame m #[(.ref a0)] 3))
  refine own_by (fun _ k => castTop (own_ef7 m a0) k) ?_
  show own_G _ _ _ _ _ _ _ (s₁.setTop (mkF m 0 #[.val (.ref a0), .unset, .unset] []))
  refine own_by (fun _ k => XS.aloadN X0.here hx rfl (hb hby own_d8_0) rfl rfl k) ?_
  show own_G _ _ _ _ _ _ _ (s₁.setTop (mkF m 1 #[.val (.ref a0), .unset, .unset] [(.ref a0)]))
  obtain ⟨cq32, kq32, q32a, q32b, q32c⟩ := isOf hZ e0 E_a0
  obtain ⟨_, _, ⟨T32, L32, k32, n32⟩, -, X32, ⟨Lc32, hQ32, l32, y32, z32⟩, st32⟩ := X0.virtualBack hx (y := (⟨"com/example/countersight/countersight/cli/TraceRecord", "startNs", "()J"⟩ : MethodName)) (z := (⟨"com/example/countersight/countersight/cli/TraceRecord", "startNs", "()J"⟩ : MethodName)) hown (mvT hZ (hw _ (List.mem_of_getElem? (i := 48) rfl))) (mvT hZ (hw _ (List.mem_of_getElem? (i := 49) rfl))) (notFace_of_selects (args := #[]) (mvT hZ (hw _ (List.mem_of_getElem? (i := 51) rfl)))) (mvT hZ (hw _ (List.mem_of_getElem? (i := 51) rfl))) (mvT hZ (hw _ (List.mem_of_getElem? (i := 50) rfl))) (by decide) (backOf (W := 0) (rm5 l Z aw hw [] a0 x0 h0 n0 Z0 F_a0_startNs) hZ (hw _ (List.mem_of_getElem? (i := 52) rfl)) (hw _ (List.mem_of_getElem? (i := 21) rfl)) (by decide) (by decide)) q32a q32c (g := (mkF m 1 #[.val (.ref a0), .unset, .unset] [(.ref a0)])) rfl (by rw [hml]; rfl) (Steps.refl _) (argsL := []) (rest := []) (lenOf own_pd1 rfl) rfl (by show 2 * 0 + _ ≤ _; exact Nat.le_of_eq rfl) (hb hby own_d8_1) (fun _ _ => ⟨rfl, e0, (by decide : 0 + 0 ≤ _), (by decide : 0 + 0 ≤ _)⟩)
  dsimp only [Pt.U, Pt.locs, Pt.cells, Pt.slots] at X32 l32 y32 z32 st32 hQ32
  subst l32 y32 z32
  obtain ⟨rfl, Nq32, e32⟩ := hQ32
  have N32 := Fr.app N0 Nq32
  refine own_by (fun _ k => st32.trans k) ?_
  show own_G _ _ _ _ _ _ _ (T32.setTop (mkF m 4 #[.val (.ref a0), .unset, .unset] [(.long (x0))]))
  refine own_by (fun _ k => XS.aloadN X32.here hx rfl (hb hby own_d8_4) rfl rfl k) ?_
  show own_G _ _ _ _ _ _ _ (T32.setTop (mkF m 5 #[.val (.ref a0), .unset, .unset] [(.ref a0), (.long (x0))]))
  obtain ⟨cq33, kq33, q33a, q33b, q33c⟩ := isOf hZ e32 E_a0
  obtain ⟨_, _, ⟨T33, L33, k33, n33⟩, -, X33, ⟨Lc33, hQ33, l33, y33, z33⟩, st33⟩ := X32.virtualBack hx (y := (⟨"com/example/countersight/countersight/cli/TraceRecord", "durationNs", "()J"⟩ : MethodName)) (z := (⟨"com/example/countersight/countersight/cli/TraceRecord", "durationNs", "()J"⟩ : MethodName)) hown (mvT hZ (hw _ (List.mem_of_getElem? (i := 57) rfl))) (mvT hZ (hw _ (List.mem_of_getElem? (i := 58) rfl))) (notFace_of_selects (args := #[]) (mvT hZ (hw _ (List.mem_of_getElem? (i := 60) rfl)))) (mvT hZ (hw _ (List.mem_of_getElem? (i := 60) rfl))) (mvT hZ (hw _ (List.mem_of_getElem? (i := 59) rfl))) (by decide) (backOf (W := 2) (rm6 l Z aw hw [] a0 x1 h0 n0 Z0 F_a0_durationNs) hZ (hw _ (List.mem_of_getElem? (i := 61) rfl)) (hw _ (List.mem_of_getElem? (i := 21) rfl)) (by decide) (by decide)) q33a q33c (g := (mkF m 5 #[.val (.ref a0), .unset, .unset] [(.ref a0), (.long (x0))])) rfl (by rw [hml]; rfl) (Steps.refl _) (argsL := []) (rest := [(.long (x0))]) (lenOf own_pd1 rfl) rfl (by show 2 * 0 + _ ≤ _; exact Nat.le_of_eq rfl) (hb hby own_d8_5) (fun _ _ => ⟨rfl, e32, (by decide : 0 + 0 ≤ _), (by decide : 0 + 0 ≤ _)⟩)
  dsimp only [Pt.U, Pt.locs, Pt.cells, Pt.slots] at X33 l33 y33 z33 st33 hQ33
  subst l33 y33 z33
  obtain ⟨rfl, Nq33, e33⟩ := hQ33
  have N33 := Fr.app N32 Nq33
  refine own_by (fun _ k => st33.trans k) ?_
  show own_G _ _ _ _ _ _ _ (T33.setTop (mkF m 8 #[.val (.ref a0), .unset, .unset] [(.long (x1)), (.long (x0))]))
  refine own_by (fun _ k => XT.ladd X33.here hx rfl (hb hby own_d8_8) rfl k) ?_
  show own_G _ _ _ _ _ _ _ (T33.setTop (mkF m 9 #[.val (.ref a0), .unset, .unset] [(.long ((x0) + (x1)))]))
  refine own_by (fun _ k => XT.lstoreN X33.here hx rfl (hb hby own_d8_9) rfl (l' := #[.val (.ref a0), .val (.long ((x0) + (x1))), .second]) rfl k) ?_
  show own_G _ _ _ _ _ _ _ (T33.setTop (mkF m 10 #[.val (.ref a0), .val (.long ((x0) + (x1))), .second] []))
  refine own_by (fun _ k => XT.lloadN X33.here hx rfl (hb hby own_d8_10) rfl  k) ?_
  show own_G _ _ _ _ _ _ _ (T33.setTop (mkF m 11 #[.val (.ref a0), .val (.long ((x0) + (x1))), .second] [(.long ((x0) + (x1)))]))
  refine own_by (fun _ k => XT.lconst X33.here hx rfl (hb hby own_d8_11) k) ?_
  show own_G _ _ _ _ _ _ _ (T33.setTop (mkF m 12 #[.val (.ref a0), .val (.long ((x0) + (x1))), .second] [(.long (0 : Int64)), (.long ((x0) + (x1)))]))
  refine own_by (fun _ k => XT.lcmp X33.here hx rfl (hb hby own_d8_12) rfl k) ?_
  show own_G _ _ _ _ _ _ _ (T33.setTop (mkF m 13 #[.val (.ref a0), .val (.long ((x0) + (x1))), .second] [(.int (XT.cmpL ((x0) + (x1)) (0 : Int64)))]))
  by_cases hc13 : ((x0) + (x1)) < (0 : Int64)
  · refine own_by (fun _ k => XS.ifNo X33.here hx rfl (hb hby own_d8_13) rfl (XT.ll_ge_f hc13) k) ?_
    show own_G _ _ _ _ _ _ _ (T33.setTop (mkF m 16 #[.val (.ref a0), .val (.long ((x0) + (x1))), .second] []))
    refine own_by (X33.ldc2Long hx hown (mvT hZ (hw _ (List.mem_of_getElem? (i := 63) rfl))) (g := (mkF m 16 #[.val (.ref a0), .val (.long ((x0) + (x1))), .second] [])) rfl (hb hby own_d8_16)) ?_
    show own_G _ _ _ _ _ _ _ (T33.setTop (mkF m 19 #[.val (.ref a0), .val (.long ((x0) + (x1))), .second] [(.long (9223372036854775807 : Int64))]))
    refine own_by (fun _ k => XS.goto X33.here hx rfl (pc0 := 19) (pc' := 23) rfl (hb hby own_d8_19) (by decide) (by decide) k) ?_
    show own_G _ _ _ _ _ _ _ (T33.setTop (mkF m 23 #[.val (.ref a0), .val (.long ((x0) + (x1))), .second] [(.long (9223372036854775807 : Int64))]))
    exact own_end X33 (v := some (.long (9223372036854775807 : Int64))) (fun h => by rw [Bd.returns] at h; cases h) (BodyLoose.notSynchronized Bd) (fun fs hr => X33.lreturnOut hx Bd.returns (hb hby own_d8_23) hr) (by rw [e33]; exact ⟨(by simp only [own_endv, hc13, if_true, if_false, ↓reduceIte]; first | done | rfl), N33, rfl⟩) (by decide) (by decide)
  · refine own_by (fun _ k => XS.ifYes X33.here hx rfl (pc0 := 13) (pc' := 22) rfl (hb hby own_d8_13) rfl (XT.ll_ge_t hc13) (by decide) (by decide) k) ?_
    show own_G _ _ _ _ _ _ _ (T33.setTop (mkF m 22 #[.val (.ref a0), .val (.long ((x0) + (x1))), .second] []))
    refine own_by (fun _ k => XT.lloadN X33.here hx rfl (hb hby own_d8_22) rfl  k) ?_
    show own_G _ _ _ _ _ _ _ (T33.setTop (mkF m 23 #[.val (.ref a0), .val (.long ((x0) + (x1))), .second] [(.long ((x0) + (x1)))]))
    exact own_end X33 (v := some (.long ((x0) + (x1)))) (fun h => by rw [Bd.returns] at h; cases h) (BodyLoose.notSynchronized Bd) (fun fs hr => X33.lreturnOut hx Bd.returns (hb hby own_d8_23) hr) (by rw [e33]; exact ⟨(by simp only [own_endv, hc13, if_true, if_false, ↓reduceIte]; first | done | rfl), N33, rfl⟩) (by decide) (by decide)
theorem own_d6_0 : decode prog_210_method_3_code 0 = .ok (.aload_n 1, 1) := by decide +kernel
theorem own_d6_1 : decode prog_210_method_3_code 1 = .ok (.invokevirtual 16, 3) := by decide +kernel
theorem own_d6_4 : decode prog_210_method_3_code 4 = .ok (.aload_n 0, 1) := by decide +kernel
theorem own_d6_5 : decode prog_210_method_3_code 5 = .ok (.getfield 13, 3) := by decide +kernel
theorem own_d6_8 : decode prog_210_method_3_code 8 = .ok (.lcmp, 1) := by decide +kernel
theorem own_d6_9 : decode prog_210_method_3_code 9 = .ok (.ifCond .ge 19, 3) := by decide +kernel
theorem own_d6_12 : decode prog_210_method_3_code 12 = .ok (.aload_n 1, 1) := by decide +kernel
theorem own_d6_13 : decode prog_210_method_3_code 13 = .ok (.invokestatic 22, 3) := by decide +kernel
theorem own_pd2 : parseMethodDescriptor "(Lcom/example/countersight/countersight/cli/TraceRecord;)J" = some ⟨[(.object "com/example/countersight/countersight/cli/TraceRecord")], some .long⟩ := by decide +kernel
theorem own_d6_16 : decode prog_210_method_3_code 16 = .ok (.aload_n 0, 1) := by decide +kernel
theorem own_d6_17 : decode prog_210_method_3_code 17 = .ok (.getfield 7, 3) := by decide +kernel
theorem own_d6_20 : decode prog_210_method_3_code 20 = .ok (.lcmp, 1) := by decide +kernel
theorem own_d6_21 : decode prog_210_method_3_code 21 = .ok (.ifCond .le 7, 3) := by decide +kernel
theorem own_d6_24 : decode prog_210_method_3_code 24 = .ok (.iconst 1, 1) := by decide +kernel
theorem own_d6_25 : decode prog_210_method_3_code 25 = .ok (.goto 4, 3) := by decide +kernel
theorem own_d6_29 : decode prog_210_method_3_code 29 = .ok (.ireturn, 1) := by decide +kernel
theorem own_d6_28 : decode prog_210_method_3_code 28 = .ok (.iconst 0, 1) := by decide +kernel
theorem own_ef8 (m : MethodId) (x0 : Addr) (x1 : Addr) : entryFrame m #[(.ref x0), (.ref x1)] 2 = mkF m 0 #[.val (.ref x0), .val (.ref x1)] [] := by first | (simp [entryFrame, mkF, argsToLocals, Value.category]; done) | rfl
def own_Q8 (Z : State) (a0 : Addr) (a1 : Addr) (x0 : Int64) (x1 : Int64) (y0 : Int64) (y1 : Int64) (h0 : Heap) (n0 : Nat) (v : Option Value) (h : Heap) (L : List Loc) : Prop := v = some (.int (own_over x0 x1 y0 y1)) ∧ Fr n0 L ∧ h = h0
set_option maxRecDepth 65536 in
set_option maxHeartbeats 40000000 in
theorem rm8 (l : Launch) (Z : State) (aw : Array Value) (hw : ∀ d ∈ tables_1, d.before aw Z = true) (ws : List Jvm.Cond) (a0 : Addr) (a1 : Addr) (x0 : Int64) (x1 : Int64) (y0 : Int64) (y1 : Int64) (h0 : Heap) (n0 : Nat) (Z0 : n0 ≤ h0.size) (F_a0_fromNs : Fld Z h0 a0 "com/example/countersight/countersight/cli/Window" "fromNs" "J" (.long x0)) (F_a0_toNs : Fld Z h0 a0 "com/example/countersight/countersight/cli/Window" "toNs" "J" (.long x1)) (E_a1 : Exa Z h0 a1 "com/example/countersight/countersight/cli/TraceRecord") (F_a1_startNs : Fld Z h0 a1 "com/example/countersight/countersight/cli/TraceRecord" "startNs" "J" (.long y0)) (F_a1_durationNs : Fld Z h0 a1 "com/example/countersight/countersight/cli/TraceRecord" "durationNs" "J" (.long y1)) :
    MetFree l (⟨"com/example/countersight/countersight/cli/Window", "overlaps", "(Lcom/example/countersight/countersight/cli/TraceRecord;)Z"⟩ : MethodName) (head1 (Jvm.Cond.code (⟨"com/example/countersight/countersight/cli/Window", "overlaps", "(Lcom/example/countersight/countersight/cli/TraceRecord;)Z"⟩ : MethodName) prog_210_method_3_code 2 (some .boolean) :: ws) ({ frames := 2, cells := 0, slots := 0, locals := 28 } : Room)) (fun a U => a = #[(.ref a0), (.ref a1)] ∧ Z.Warmed39 U.vm ∧ U.heap = h0) (fun _ _ _ _ _ => True) (fun _ U o U' => ∃ v L, o = .returned v ∧ own_Q8 Z a0 a1 x0 x1 y0 y1 h0 n0 v U'.heap L ∧ FrameEnd U o U' L ({ frames := 2, cells := 0, slots := 0, locals := 28 } : Room).cells ({ frames := 2, cells := 0, slots := 0, locals := 28 } : Room).slots) := by
  refine MetFree.of_bodySF (plainFor_of_name own_pn1) hisR ?_
  intro p e s m args below meth c s₁ Bd hml0 hP hK
  obtain ⟨rfl, hZ, hh⟩ := hP
  have hx := Bd.exec
  have hby := Bd.bytes
  have hml : c.maxLocals = 2 := hml0
  have hown : s.vm.findClass "com/example/countersight/countersight/cli/Window" = some m.cls := findClass_of_methodNamed Bd.named
  have hnm := (name_of_methodNamed Bd.named Bd.method).1
  have X0 : Stand p l e ({ frames := 2, cells := 0, slots := 0, locals := 28 } : Room) s m #[(.ref a0), (.ref a1)] below meth c s₁ [] 0 0 := Stand.of_body Bd
  have e0 : s₁.heap = h0 := by rw [← hh, Bd.state]; rfl
  have N0 := Fr.nil n0
  show own_G p.tables e below s (own_Q8 Z a0 a1 x0 x1 y0 y1 h0 n0) ({ frames := 2, cells := 0, slots := 0, locals := 28 } : Room).cells ({ frames := 2, cells := 0, slots := 0, locals := 28 } : Room).slots (s₁.setTop (entryFrame m #[(.ref a0), (.ref a1)] 2))
  refine own_by (fun _ k => castTop (own_ef8 m a0 a1) k) ?_
  show own_G _ _ _ _ _ _ _ (s₁.setTop (mkF m 0 #[.val (.ref a0), .val (.ref a1)] []))
  refine own_by (fun _ k => XS.aloadN X0.here hx rfl (hb hby own_d6_0) rfl rfl k) ?_
  show own_G _ _ _ _ _ _ _ (s₁.setTop (mkF m 1 #[.val (.ref a0), .val (.ref a1)] [(.ref a1)]))
  obtain ⟨cq34, kq34, q34a, q34b, q34c⟩ := isOf hZ e0 E_a1
  obtain ⟨_, _, ⟨T34, L34, k34, n34⟩, -, X34, ⟨Lc34, hQ34, l34, y34, z34⟩, st34⟩ := X0.virtualBack hx (y := (⟨"com/example/countersight/countersight/cli/TraceRecord", "startNs", "()J"⟩ : MethodName)) (z := (⟨"com/example/countersight/countersight/cli/TraceRecord", "startNs", "()J"⟩ : MethodName)) hown (mvT hZ (hw _ (List.mem_of_getElem? (i := 48) rfl))) (mvT hZ (hw _ (List.mem_of_getElem? (i := 49) rfl))) (notFace_of_selects (args := #[]) (mvT hZ (hw _ (List.mem_of_getElem? (i := 51) rfl)))) (mvT hZ (hw _ (List.mem_of_getElem? (i := 51) rfl))) (mvT hZ (hw _ (List.mem_of_getElem? (i := 50) rfl))) (by decide) (backOf (W := 0) (rm5 l Z aw hw [] a1 y0 h0 n0 Z0 F_a1_startNs) hZ (hw _ (List.mem_of_getElem? (i := 52) rfl)) (hw _ (List.mem_of_getElem? (i := 21) rfl)) (by decide) (by decide)) q34a q34c (g := (mkF m 1 #[.val (.ref a0), .val (.ref a1)] [(.ref a1)])) rfl (by rw [hml]; rfl) (Steps.refl _) (argsL := []) (rest := []) (lenOf own_pd1 rfl) rfl (by show 2 * 0 + _ ≤ _; exact Nat.le_of_eq rfl) (hb hby own_d6_1) (fun _ _ => ⟨rfl, e0, (by decide : 0 + 0 ≤ _), (by decide : 0 + 0 ≤ _)⟩)
  dsimp only [Pt.U, Pt.locs, Pt.cells, Pt.slots] at X34 l34 y34 z34 st34 hQ34
  subst l34 y34 z34
  obtain ⟨rfl, Nq34, e34⟩ := hQ34
  have N34 := Fr.app N0 Nq34
  refine own_by (fun _ k => st34.trans k) ?_
  show own_G _ _ _ _ _ _ _ (T34.setTop (mkF m 4 #[.val (.ref a0), .val (.ref a1)] [(.long (y0))]))
  refine own_by (fun _ k => XS.aloadN X34.here hx rfl (hb hby own_d6_4) rfl rfl k) ?_
  show own_G _ _ _ _ _ _ _ (T34.setTop (mkF m 5 #[.val (.ref a0), .val (.ref a1)] [(.ref a0), (.long (y0))]))
  obtain ⟨T35, X35, e35, st35⟩ := getF X34 hx hZ hown (host := "") (Or.inl (hw _ (List.mem_of_getElem? (i := 16) rfl))) Via.refl e34 F_a0_toNs (g := (mkF m 5 #[.val (.ref a0), .val (.ref a1)] [(.ref a0), (.long (y0))])) rfl rfl (hb hby own_d6_5)
  refine own_by st35 ?_
  show own_G _ _ _ _ _ _ _ (T35.setTop (mkF m 8 #[.val (.ref a0), .val (.ref a1)] [(.long x1), (.long (y0))]))
  refine own_by (fun _ k => XT.lcmp X35.here hx rfl (hb hby own_d6_8) rfl k) ?_
  show own_G _ _ _ _ _ _ _ (T35.setTop (mkF m 9 #[.val (.ref a0), .val (.ref a1)] [(.int (XT.cmpL (y0) x1))]))
  by_cases hc9 : (y0) < x1
  · refine own_by (fun _ k => XS.ifNo X35.here hx rfl (hb hby own_d6_9) rfl (XT.ll_ge_f hc9) k) ?_
    show own_G _ _ _ _ _ _ _ (T35.setTop (mkF m 12 #[.val (.ref a0), .val (.ref a1)] []))
    refine own_by (fun _ k => XS.aloadN X35.here hx rfl (hb hby own_d6_12) rfl rfl k) ?_
    show own_G _ _ _ _ _ _ _ (T35.setTop (mkF m 13 #[.val (.ref a0), .val (.ref a1)] [(.ref a1)]))
    obtain ⟨_, _, ⟨T36, L36, k36, n36⟩, -, X36, ⟨Lc36, hQ36, l36, y36, z36⟩, st36⟩ := Jvm.LawKit.callS X35 hx (y := (⟨"com/example/countersight/countersight/cli/Window", "end", "(Lcom/example/countersight/countersight/cli/TraceRecord;)J"⟩ : MethodName)) hown (mvT hZ (hw _ (List.mem_of_getElem? (i := 54) rfl))) (mvT hZ (hw _ (List.mem_of_getElem? (i := 55) rfl))) (mvT hZ (hw _ (List.mem_of_getElem? (i := 2) rfl))) (mvT hZ (hw _ (List.mem_of_getElem? (i := 56) rfl))) (by decide) (backOf (W := 0) (rm7 l Z aw hw [] a1 y0 y1 h0 n0 Z0 E_a1 F_a1_startNs F_a1_durationNs) hZ (hw _ (List.mem_of_getElem? (i := 56) rfl)) (hw _ (List.mem_of_getElem? (i := 2) rfl)) (by decide) (by decide)) (g := (mkF m 13 #[.val (.ref a0), .val (.ref a1)] [(.ref a1)])) rfl (by rw [hml]; rfl) (argsL := [(.ref a1)]) (rest := []) (lenOf own_pd2 rfl) rfl (by show 2 * 0 + _ ≤ _; exact Nat.le_of_eq rfl) (hb hby own_d6_13) (fun _ _ => ⟨rfl, e35, (by decide : 0 + 0 ≤ _), (by decide : 0 + 0 ≤ _)⟩)
    dsimp only [Pt.U, Pt.locs, Pt.cells, Pt.slots] at X36 l36 y36 z36 st36 hQ36
    subst l36 y36 z36
    obtain ⟨rfl, Nq36, e36⟩ := hQ36
    have N36 := Fr.app N34 Nq36
    refine own_by (fun _ k => st36 _ k) ?_
    show own_G _ _ _ _ _ _ _ (T36.setTop (mkF m 16 #[.val (.ref a0), .val (.ref a1)] [(.long (own_endv y0 y1))]))
    refine own_by (fun _ k => XS.aloadN X36.here hx rfl (hb hby own_d6_16) rfl rfl k) ?_
    show own_G _ _ _ _ _ _ _ (T36.setTop (mkF m 17 #[.val (.ref a0), .val (.ref a1)] [(.ref a0), (.long (own_endv y0 y1))]))
    obtain ⟨T37, X37, e37, st37⟩ := getF X36 hx hZ hown (host := "") (Or.inl (hw _ (List.mem_of_getElem? (i := 14) rfl))) Via.refl e36 F_a0_fromNs (g := (mkF m 17 #[.val (.ref a0), .val (.ref a1)] [(.ref a0), (.long (own_endv y0 y1))])) rfl rfl (hb hby own_d6_17)
    refine own_by st37 ?_
    show own_G _ _ _ _ _ _ _ (T37.setTop (mkF m 20 #[.val (.ref a0), .val (.ref a1)] [(.long x0), (.long (own_endv y0 y1))]))
    refine own_by (fun _ k => XT.lcmp X37.here hx rfl (hb hby own_d6_20) rfl k) ?_
    show own_G _ _ _ _ _ _ _ (T37.setTop (mkF m 21 #[.val (.ref a0), .val (.ref a1)] [(.int (XT.cmpL (own_endv y0 y1) x0))]))
    by_cases hc21 : x0 < (own_endv y0 y1)
    · refine own_by (fun _ k => XS.ifNo X37.here hx rfl (hb hby own_d6_21) rfl (XT.ll_le_f hc21) k) ?_
      show own_G _ _ _ _ _ _ _ (T37.setTop (mkF m 24 #[.val (.ref a0), .val (.ref a1)] []))
      refine own_by (fun _ k => XS.iconst X37.here hx rfl (hb hby own_d6_24) k) ?_
      show own_G _ _ _ _ _ _ _ (T37.setTop (mkF m 25 #[.val (.ref a0), .val (.ref a1)] [(.int (1 : Int32))]))
      refine own_by (fun _ k => XS.goto X37.here hx rfl (pc0 := 25) (pc' := 29) rfl (hb hby own_d6_25) (by decide) (by decide) k) ?_
      show own_G _ _ _ _ _ _ _ (T37.setTop (mkF m 29 #[.val (.ref a0), .val (.ref a1)] [(.int (1 : Int32))]))
      exact own_end X37 (v := some (.int (nar .boolean (1 : Int32)))) (fun h => by rw [Bd.returns] at h; cases h) (BodyLoose.notSynchronized Bd) (fun fs hr => retN X37 hx (t := .boolean) Bd.returns (by simp) (hb hby own_d6_29) hr) (by rw [e37]; exact ⟨(by simp only [own_over, hc9, hc21, if_true, if_false, ↓reduceIte]; first | done | rfl), N36, rfl⟩) (by decide) (by decide)
    · refine own_by (fun _ k => XS.ifYes X37.here hx rfl (pc0 := 21) (pc' := 28) rfl (hb hby own_d6_21) rfl (XT.ll_le_t hc21) (by decide) (by decide) k) ?_
      show own_G _ _ _ _ _ _ _ (T37.setTop (mkF m 28 #[.val (.ref a0), .val (.ref a1)] []))
      refine own_by (fun _ k => XS.iconst X37.here hx rfl (hb hby own_d6_28) k) ?_
      show own_G _ _ _ _ _ _ _ (T37.setTop (mkF m 29 #[.val (.ref a0), .val (.ref a1)] [(.int (0 : Int32))]))
      exact own_end X37 (v := some (.int (nar .boolean (0 : Int32)))) (fun h => by rw [Bd.returns] at h; cases h) (BodyLoose.notSynchronized Bd) (fun fs hr => retN X37 hx (t := .boolean) Bd.returns (by simp) (hb hby own_d6_29) hr) (by rw [e37]; exact ⟨(by simp only [own_over, hc9, hc21, if_true, if_false, ↓reduceIte]; first | done | rfl), N36, rfl⟩) (by decide) (by decide)
  · refine own_by (fun _ k => XS.ifYes X35.here hx rfl (pc0 := 9) (pc' := 28) rfl (hb hby own_d6_9) rfl (XT.ll_ge_t hc9) (by decide) (by decide) k) ?_
    show own_G _ _ _ _ _ _ _ (T35.setTop (mkF m 28 #[.val (.ref a0), .val (.ref a1)] []))
    refine own_by (fun _ k => XS.iconst X35.here hx rfl (hb hby own_d6_28) k) ?_
    show own_G _ _ _ _ _ _ _ (T35.setTop (mkF m 29 #[.val (.ref a0), .val (.ref a1)] [(.int (0 : Int32))]))
    exact own_end X35 (v := some (.int (nar .boolean (0 : Int32)))) (fun h => by rw [Bd.returns] at h; cases h) (BodyLoose.notSynchronized Bd) (fun fs hr => retN X35 hx (t := .boolean) Bd.returns (by simp) (hb hby own_d6_29) hr) (by rw [e35]; exact ⟨(by simp only [own_over, hc9, if_true, if_false, ↓reduceIte]; first | done | rfl), N34, rfl⟩) (by decide) (by decide)
theorem own_pd3 : parseMethodDescriptor "(JJ)V" = some ⟨[.long, .long], none⟩ := by decide +kernel
theorem own_pd4 : parseMethodDescriptor "(Lcom/example/countersight/countersight/cli/TraceThread;JJJLjava/lang/String;[J)V" = some ⟨[(.object "com/example/countersight/countersight/cli/TraceThread"), .long, .long, .long, (.object "java/lang/String"), (.array .long)], none⟩ := by decide +kernel
theorem own_pd5 : parseMethodDescriptor "(J)Z" = some ⟨[.long], some .boolean⟩ := by decide +kernel
theorem own_pd6 : parseMethodDescriptor "(Lcom/example/countersight/countersight/cli/TraceRecord;)Z" = some ⟨[(.object "com/example/countersight/countersight/cli/TraceRecord")], some .boolean⟩ := by decide +kernel
theorem own_pn3 : plainName "com/example/countersight/countersight/cli/WindowHoldsPinLaw" = true := by first | (simp [plainName, overriddenIn]; done) | decide +kernel
theorem own_ef0 (m : MethodId) (x0 : Int64) (x1 : Int64) (x2 : Int64) : entryFrame m #[(.long x0), (.long x1), (.long x2)] maxLocals = mkF m 0 #[.val (.long x0), .second, .val (.long x1), .second, .val (.long x2), .second, .unset, .unset, .unset, .unset, .unset] [] := by first | (simp [entryFrame, mkF, argsToLocals, Value.category, maxLocals]; done) | rfl
def own_Q0 (Z : State) (fr : Int64) (to : Int64) (t : Int64) (h0 : Heap) (n0 : Nat) (v : Option Value) (h : Heap) (L : List Loc) : Prop := v = some (.int 1) ∧ Fr n0 L
set_option maxRecDepth 65536 in
set_option maxHeartbeats 40000000 in
theorem rm0 (l : Launch) (Z : State) (aw : Array Value) (hw : ∀ d ∈ tables_1, d.before aw Z = true) (ws : List Jvm.Cond) (fr : Int64) (to : Int64) (t : Int64) (h0 : Heap) (n0 : Nat) (Z0 : n0 ≤ h0.size) :
    MetFree l x (head1 (Jvm.Cond.code x code maxLocals ret :: ws) room_1) (fun a U => a = #[(.long fr), (.long to), (.long t)] ∧ Z.Warmed39 U.vm ∧ U.heap = h0) (fun _ _ _ _ _ => True) (fun _ U o U' => ∃ v L, o = .returned v ∧ own_Q0 Z fr to t h0 n0 v U'.heap L ∧ FrameEnd U o U' L room_1.cells room_1.slots) := by
  refine MetFree.of_bodySF (plainFor_of_name own_pn3) hisR ?_
  intro p e s m args below meth c s₁ Bd hml0 hP hK
  obtain ⟨rfl, hZ, hh⟩ := hP
  have hx := Bd.exec
  have hby := Bd.bytes
  have hml : c.maxLocals = 11 := hml0
  have hown : s.vm.findClass "com/example/countersight/countersight/cli/WindowHoldsPinLaw" = some m.cls := findClass_of_methodNamed Bd.named
  have hnm := (name_of_methodNamed Bd.named Bd.method).1
  have X0 : Stand p l e room_1 s m #[(.long fr), (.long to), (.long t)] below meth c s₁ [] 0 0 := Stand.of_body Bd
  have e0 : s₁.heap = h0 := by rw [← hh, Bd.state]; rfl
  have N0 := Fr.nil n0
  show own_G p.tables e below s (own_Q0 Z fr to t h0 n0) room_1.cells room_1.slots (s₁.setTop (entryFrame m #[(.long fr), (.long to), (.long t)] maxLocals))
  refine own_by (fun _ k => castTop (own_ef0 m fr to t) k) ?_
  show own_G _ _ _ _ _ _ _ (s₁.setTop (mkF m 0 #[.val (.long fr), .second, .val (.long to), .second, .val (.long t), .second, .unset, .unset, .unset, .unset, .unset] []))
  obtain ⟨T38, h38, X38, e38, E38, A38, D38, -, st38⟩ := newO X0 hx hZ hown (hw _ (List.mem_of_getElem? (i := 0) rfl)) (hw _ (List.mem_of_getElem? (i := 1) rfl)) (hw _ (List.mem_of_getElem? (i := 2) rfl)) e0 (g := (mkF m 0 #[.val (.long fr), .second, .val (.long to), .second, .val (.long t), .second, .unset, .unset, .unset, .unset, .unset] [])) rfl (hb hby at_0) (by decide) (by decide)
  obtain ⟨b38, g38⟩ : ∃ z, z = h0.size := ⟨_, rfl⟩
  rw [← g38] at A38 D38 st38
  have g_b38 : n0 ≤ b38 := Nat.le_trans Z0 (Nat.le_of_eq g38.symm)
  refine own_by st38 ?_
  have Z40 : n0 ≤ h38.size := Nat.le_trans Z0 E38.1
  have F38_fromNs : Fld Z h38 b38 "com/example/countersight/countersight/cli/Window" "fromNs" "J" (.long (0 : Int64)) := D38 (Or.inr (hw _ (List.mem_of_getElem? (i := 15) rfl))) (ty := .long) (by decide)
  have F38_toNs : Fld Z h38 b38 "com/example/countersight/countersight/cli/Window" "toNs" "J" (.long (0 : Int64)) := D38 (Or.inr (hw _ (List.mem_of_getElem? (i := 17) rfl))) (ty := .long) (by decide)
  show own_G _ _ _ _ _ _ _ (T38.setTop (mkF m 3 #[.val (.long fr), .second, .val (.long to), .second, .val (.long t), .second, .unset, .unset, .unset, .unset, .unset] [(.ref b38)]))
  refine own_by (fun _ k => XS.dup X38.here hx rfl (hb hby at_3) rfl rfl k) ?_
  show own_G _ _ _ _ _ _ _ (T38.setTop (mkF m 4 #[.val (.long fr), .second, .val (.long to), .second, .val (.long t), .second, .unset, .unset, .unset, .unset, .unset] [(.ref b38), (.ref b38)]))
  refine own_by (fun _ k => XT.lloadN X38.here hx rfl (hb hby at_4) rfl  k) ?_
  show own_G _ _ _ _ _ _ _ (T38.setTop (mkF m 5 #[.val (.long fr), .second, .val (.long to), .second, .val (.long t), .second, .unset, .unset, .unset, .unset, .unset] [(.long fr), (.ref b38), (.ref b38)]))
  refine own_by (fun _ k => XT.lloadN X38.here hx rfl (hb hby at_5) rfl  k) ?_
  show own_G _ _ _ _ _ _ _ (T38.setTop (mkF m 6 #[.val (.long fr), .second, .val (.long to), .second, .val (.long t), .second, .unset, .unset, .unset, .unset, .unset] [(.long to), (.long fr), (.ref b38), (.ref b38)]))
  obtain ⟨_, _, ⟨T41, L41, k41, n41⟩, -, X41, ⟨Lc41, hQ41, l41, y41, z41⟩, st41⟩ := X38.specialBack hx (y := (⟨"com/example/countersight/countersight/cli/Window", "<init>", "(JJ)V"⟩ : MethodName)) rfl hown (mvT hZ (hw _ (List.mem_of_getElem? (i := 3) rfl))) (mvT hZ (hw _ (List.mem_of_getElem? (i := 4) rfl))) (mvT hZ (hw _ (List.mem_of_getElem? (i := 5) rfl))) (by decide) (backOf (W := 1) (rm2 l Z aw hw [] b38 fr to h38 n0 Z40 A38 F38_fromNs F38_toNs g_b38) hZ (hw _ (List.mem_of_getElem? (i := 5) rfl)) (hw _ (List.mem_of_getElem? (i := 2) rfl)) (by decide) (by decide)) (g := (mkF m 6 #[.val (.long fr), .second, .val (.long to), .second, .val (.long t), .second, .unset, .unset, .unset, .unset, .unset] [(.long to), (.long fr), (.ref b38), (.ref b38)])) rfl (by rw [hml]; rfl) (Steps.refl _) (a := b38) (argsL := [(.long fr), (.long to)]) (rest := [(.ref b38)]) (lenOf own_pd3 rfl) rfl (by show 2 * 0 + _ ≤ _; exact Nat.le_of_eq rfl) (hb hby at_6) (fun _ _ => ⟨rfl, e38, (by decide : 1 + 0 ≤ _), (by decide : 2 + 0 ≤ _)⟩)
  dsimp only [Pt.U, Pt.locs, Pt.cells, Pt.slots] at X41 l41 y41 z41 st41 hQ41
  subst l41 y41 z41
  obtain ⟨h41, e41⟩ : ∃ h, T41.heap = h := ⟨_, rfl⟩
  rw [e41] at hQ41
  obtain ⟨rfl, Nq41, K41, E41, G41_0, G41_1⟩ := hQ41
  have N41 := Fr.app N0 Nq41
  have F42_0 := A38.keep K41
  have Z43 : n0 ≤ h41.size := Nat.le_trans Z40 K41.1
  refine own_by (fun _ k => st41.trans k) ?_
  show own_G _ _ _ _ _ _ _ (T41.setTop (mkF m 9 #[.val (.long fr), .second, .val (.long to), .second, .val (.long t), .second, .unset, .unset, .unset, .unset, .unset] [(.ref b38)]))
  refine own_by (fun _ k => XS.astore X41.here hx rfl (hb hby at_9) rfl rfl (l' := #[.val (.long fr), .second, .val (.long to), .second, .val (.long t), .second, .val (.ref b38), .unset, .unset, .unset, .unset]) rfl k) ?_
  show own_G _ _ _ _ _ _ _ (T41.setTop (mkF m 11 #[.val (.long fr), .second, .val (.long to), .second, .val (.long t), .second, .val (.ref b38), .unset, .unset, .unset, .unset] []))
  refine own_by (fun _ k => XT.lload X41.here hx rfl (hb hby at_11) rfl  k) ?_
  show own_G _ _ _ _ _ _ _ (T41.setTop (mkF m 13 #[.val (.long fr), .second, .val (.long to), .second, .val (.long t), .second, .val (.ref b38), .unset, .unset, .unset, .unset] [(.long t)]))
  refine own_by (X41.ldc2Long hx hown (mvT hZ (hw _ (List.mem_of_getElem? (i := 18) rfl))) (g := (mkF m 13 #[.val (.long fr), .second, .val (.long to), .second, .val (.long t), .second, .val (.ref b38), .unset, .unset, .unset, .unset] [(.long t)])) rfl (hb hby at_13)) ?_
  show own_G _ _ _ _ _ _ _ (T41.setTop (mkF m 16 #[.val (.long fr), .second, .val (.long to), .second, .val (.long t), .second, .val (.ref b38), .unset, .unset, .unset, .unset] [(.long (9223372036854775807 : Int64)), (.long t)]))
  refine own_by (fun _ k => XT.land X41.here hx rfl (hb hby at_16) rfl k) ?_
  show own_G _ _ _ _ _ _ _ (T41.setTop (mkF m 17 #[.val (.long fr), .second, .val (.long to), .second, .val (.long t), .second, .val (.ref b38), .unset, .unset, .unset, .unset] [(.long (t &&& (9223372036854775807 : Int64)))]))
  refine own_by (fun _ k => XT.lstore X41.here hx rfl (hb hby at_17) rfl (l' := #[.val (.long fr), .second, .val (.long to), .second, .val (.long t), .second, .val (.ref b38), .val (.long (t &&& (9223372036854775807 : Int64))), .second, .unset, .unset]) rfl k) ?_
  have J33 : ∀ (Tj44 : State) (lj44 : List Loc) (Xj44 : Stand p l e room_1 s m #[(.long fr), (.long to), (.long t)] below meth c Tj44 lj44 1 2) (Nj44 : Fr n0 lj44) (ej44 : Tj44.heap = h41) (pt : Int64) (hpt : 0 ≤ pt.toInt ∧ pt.toInt ≤ 9223372036854775806), own_G p.tables e below s (own_Q0 Z fr to t h0 n0) room_1.cells room_1.slots (Tj44.setTop (mkF m 33 #[.val (.long fr), .second, .val (.long to), .second, .val (.long t), .second, .val (.ref b38), .val (.long pt), .second, .unset, .unset] [])) := by
    intro Tj44 lj44 Xj44 Nj44 ej44 pt hpt
    show own_G _ _ _ _ _ _ _ (Tj44.setTop (mkF m 33 #[.val (.long fr), .second, .val (.long to), .second, .val (.long t), .second, .val (.ref b38), .val (.long pt), .second, .unset, .unset] []))
    obtain ⟨T45, h45, X45, e45, E45, A45, D45, -, st45⟩ := newO Xj44 hx hZ hown (hw _ (List.mem_of_getElem? (i := 19) rfl)) (hw _ (List.mem_of_getElem? (i := 20) rfl)) (hw _ (List.mem_of_getElem? (i := 21) rfl)) ej44 (g := (mkF m 33 #[.val (.long fr), .second, .val (.long to), .second, .val (.long t), .second, .val (.ref b38), .val (.long pt), .second, .unset, .unset] [])) rfl (hb hby at_33) (by decide) (by decide)
    obtain ⟨b45, g45⟩ : ∃ z, z = h41.size := ⟨_, rfl⟩
    rw [← g45] at A45 D45 st45
    have ne_b38_b45 : b38 ≠ b45 := Nat.ne_of_lt (Nat.lt_of_lt_of_le E41.lt (Nat.le_of_eq g45.symm))
    have g_b45 : n0 ≤ b45 := Nat.le_trans Z43 (Nat.le_of_eq g45.symm)
    refine own_by st45 ?_
    have F46_0 := E41.ext E45
    have F46_1 := G41_0.ext E45
    have F46_2 := G41_1.ext E45
    have Z47 : n0 ≤ h45.size := Nat.le_trans Z43 E45.1
    have F45_thread : Fld Z h45 b45 "com/example/countersight/countersight/cli/TraceRecord" "thread" "Lcom/example/countersight/countersight/cli/TraceThread;" .null := D45 (Or.inr (hw _ (List.mem_of_getElem? (i := 27) rfl))) (ty := (.object "com/example/countersight/countersight/cli/TraceThread")) (by decide)
    have F45_cpu : Fld Z h45 b45 "com/example/countersight/countersight/cli/TraceRecord" "cpu" "J" (.long (0 : Int64)) := D45 (Or.inr (hw _ (List.mem_of_getElem? (i := 29) rfl))) (ty := .long) (by decide)
    have F45_startNs : Fld Z h45 b45 "com/example/countersight/countersight/cli/TraceRecord" "startNs" "J" (.long (0 : Int64)) := D45 (Or.inr (hw _ (List.mem_of_getElem? (i := 31) rfl))) (ty := .long) (by decide)
    have F45_durationNs : Fld Z h45 b45 "com/example/countersight/countersight/cli/TraceRecord" "durationNs" "J" (.long (0 : Int64)) := D45 (Or.inr (hw _ (List.mem_of_getElem? (i := 33) rfl))) (ty := .long) (by decide)
    have F45_method : Fld Z h45 b45 "com/example/countersight/countersight/cli/TraceRecord" "method" "Ljava/lang/String;" .null := D45 (Or.inr (hw _ (List.mem_of_getElem? (i := 35) rfl))) (ty := (.object "java/lang/String")) (by decide)
    have F45_deltas : Fld Z h45 b45 "com/example/countersight/countersight/cli/TraceRecord" "deltas" "[J" .null := D45 (Or.inr (hw _ (List.mem_of_getElem? (i := 37) rfl))) (ty := (.array .long)) (by decide)
    show own_G _ _ _ _ _ _ _ (T45.setTop (mkF m 36 #[.val (.long fr), .second, .val (.long to), .second, .val (.long t), .second, .val (.ref b38), .val (.long pt), .second, .unset, .unset] [(.ref b45)]))
    refine own_by (fun _ k => XS.dup X45.here hx rfl (hb hby at_36) rfl rfl k) ?_
    show own_G _ _ _ _ _ _ _ (T45.setTop (mkF m 37 #[.val (.long fr), .second, .val (.long to), .second, .val (.long t), .second, .val (.ref b38), .val (.long pt), .second, .unset, .unset] [(.ref b45), (.ref b45)]))
    refine own_by (fun _ k => XS.aconstNull X45.here hx rfl (hb hby at_37) k) ?_
    show own_G _ _ _ _ _ _ _ (T45.setTop (mkF m 38 #[.val (.long fr), .second, .val (.long to), .second, .val (.long t), .second, .val (.ref b38), .val (.long pt), .second, .unset, .unset] [.null, (.ref b45), (.ref b45)]))
    refine own_by (fun _ k => XT.lconst X45.here hx rfl (hb hby at_38) k) ?_
    show own_G _ _ _ _ _ _ _ (T45.setTop (mkF m 39 #[.val (.long fr), .second, .val (.long to), .second, .val (.long t), .second, .val (.ref b38), .val (.long pt), .second, .unset, .unset] [(.long (0 : Int64)), .null, (.ref b45), (.ref b45)]))
    refine own_by (fun _ k => XT.lload X45.here hx rfl (hb hby at_39) rfl  k) ?_
    show own_G _ _ _ _ _ _ _ (T45.setTop (mkF m 41 #[.val (.long fr), .second, .val (.long to), .second, .val (.long t), .second, .val (.ref b38), .val (.long pt), .second, .unset, .unset] [(.long pt), (.long (0 : Int64)), .null, (.ref b45), (.ref b45)]))
    refine own_by (fun _ k => XT.lconst X45.here hx rfl (hb hby at_41) k) ?_
    show own_G _ _ _ _ _ _ _ (T45.setTop (mkF m 42 #[.val (.long fr), .second, .val (.long to), .second, .val (.long t), .second, .val (.ref b38), .val (.long pt), .second, .unset, .unset] [(.long (1 : Int64)), (.long pt), (.long (0 : Int64)), .null, (.ref b45), (.ref b45)]))
    refine own_by (fun _ k => XS.aconstNull X45.here hx rfl (hb hby at_42) k) ?_
    show own_G _ _ _ _ _ _ _ (T45.setTop (mkF m 43 #[.val (.long fr), .second, .val (.long to), .second, .val (.long t), .second, .val (.ref b38), .val (.long pt), .second, .unset, .unset] [.null, (.long (1 : Int64)), (.long pt), (.long (0 : Int64)), .null, (.ref b45), (.ref b45)]))
    refine own_by (fun _ k => XS.aconstNull X45.here hx rfl (hb hby at_43) k) ?_
    show own_G _ _ _ _ _ _ _ (T45.setTop (mkF m 44 #[.val (.long fr), .second, .val (.long to), .second, .val (.long t), .second, .val (.ref b38), .val (.long pt), .second, .unset, .unset] [.null, .null, (.long (1 : Int64)), (.long pt), (.long (0 : Int64)), .null, (.ref b45), (.ref b45)]))
    obtain ⟨_, _, ⟨T48, L48, k48, n48⟩, -, X48, ⟨Lc48, hQ48, l48, y48, z48⟩, st48⟩ := X45.specialBack hx (y := (⟨"com/example/countersight/countersight/cli/TraceRecord", "<init>", "(Lcom/example/countersight/countersight/cli/TraceThread;JJJLjava/lang/String;[J)V"⟩ : MethodName)) rfl hown (mvT hZ (hw _ (List.mem_of_getElem? (i := 22) rfl))) (mvT hZ (hw _ (List.mem_of_getElem? (i := 23) rfl))) (mvT hZ (hw _ (List.mem_of_getElem? (i := 24) rfl))) (by decide) (backOf (W := 1) (rm3 l Z aw hw [] b45 (0 : Int64) pt (1 : Int64) h45 n0 Z47 A45 F45_thread F45_cpu F45_startNs F45_durationNs F45_method F45_deltas g_b45) hZ (hw _ (List.mem_of_getElem? (i := 24) rfl)) (hw _ (List.mem_of_getElem? (i := 21) rfl)) (by decide) (by decide)) (g := (mkF m 44 #[.val (.long fr), .second, .val (.long to), .second, .val (.long t), .second, .val (.ref b38), .val (.long pt), .second, .unset, .unset] [.null, .null, (.long (1 : Int64)), (.long pt), (.long (0 : Int64)), .null, (.ref b45), (.ref b45)])) rfl (by rw [hml]; rfl) (Steps.refl _) (a := b45) (argsL := [.null, (.long (0 : Int64)), (.long pt), (.long (1 : Int64)), .null, .null]) (rest := [(.ref b45)]) (lenOf own_pd4 rfl) rfl (by show 2 * 0 + _ ≤ _; exact Nat.le_of_eq rfl) (hb hby at_44) (fun _ _ => ⟨rfl, e45, (by decide : 2 + 0 ≤ _), (by decide : 8 + 0 ≤ _)⟩)
    dsimp only [Pt.U, Pt.locs, Pt.cells, Pt.slots] at X48 l48 y48 z48 st48 hQ48
    subst l48 y48 z48
    obtain ⟨h48, e48⟩ : ∃ h, T48.heap = h := ⟨_, rfl⟩
    rw [e48] at hQ48
    obtain ⟨rfl, Nq48, K48, E48, G48_0, G48_1, G48_2, G48_3, G48_4, G48_5⟩ := hQ48
    have N48 := Fr.app Nj44 Nq48
    have F49_0 := F46_0.keep K48
    have F49_1 := F46_1.keep K48 (ninS ne_b38_b45 nin0)
    have F49_2 := F46_2.keep K48 (ninS ne_b38_b45 nin0)
    have F49_3 := A45.keep K48
    have Z50 : n0 ≤ h48.size := Nat.le_trans Z47 K48.1
    refine own_by (fun _ k => st48.trans k) ?_
    show own_G _ _ _ _ _ _ _ (T48.setTop (mkF m 47 #[.val (.long fr), .second, .val (.long to), .second, .val (.long t), .second, .val (.ref b38), .val (.long pt), .second, .unset, .unset] [(.ref b45)]))
    refine own_by (fun _ k => XS.astore X48.here hx rfl (hb hby at_47) rfl rfl (l' := #[.val (.long fr), .second, .val (.long to), .second, .val (.long t), .second, .val (.ref b38), .val (.long pt), .second, .val (.ref b45), .unset]) rfl k) ?_
    show own_G _ _ _ _ _ _ _ (T48.setTop (mkF m 49 #[.val (.long fr), .second, .val (.long to), .second, .val (.long t), .second, .val (.ref b38), .val (.long pt), .second, .val (.ref b45), .unset] []))
    refine own_by (fun _ k => XS.aload X48.here hx rfl (hb hby at_49) rfl rfl k) ?_
    show own_G _ _ _ _ _ _ _ (T48.setTop (mkF m 51 #[.val (.long fr), .second, .val (.long to), .second, .val (.long t), .second, .val (.ref b38), .val (.long pt), .second, .val (.ref b45), .unset] [(.ref b38)]))
    refine own_by (fun _ k => XT.lload X48.here hx rfl (hb hby at_51) rfl  k) ?_
    show own_G _ _ _ _ _ _ _ (T48.setTop (mkF m 53 #[.val (.long fr), .second, .val (.long to), .second, .val (.long t), .second, .val (.ref b38), .val (.long pt), .second, .val (.ref b45), .unset] [(.long pt), (.ref b38)]))
    obtain ⟨cq51, kq51, q51a, q51b, q51c⟩ := isOf hZ e48 F49_0
    obtain ⟨_, _, ⟨T51, L51, k51, n51⟩, -, X51, ⟨Lc51, hQ51, l51, y51, z51⟩, st51⟩ := X48.virtualBack hx (y := (⟨"com/example/countersight/countersight/cli/Window", "holds", "(J)Z"⟩ : MethodName)) (z := (⟨"com/example/countersight/countersight/cli/Window", "holds", "(J)Z"⟩ : MethodName)) hown (mvT hZ (hw _ (List.mem_of_getElem? (i := 38) rfl))) (mvT hZ (hw _ (List.mem_of_getElem? (i := 39) rfl))) (notFace_of_selects (args := #[]) (mvT hZ (hw _ (List.mem_of_getElem? (i := 41) rfl)))) (mvT hZ (hw _ (List.mem_of_getElem? (i := 41) rfl))) (mvT hZ (hw _ (List.mem_of_getElem? (i := 40) rfl))) (by decide) (backOf (W := 0) (rm4 l Z aw hw [] b38 pt fr to h48 n0 Z50 F49_1 F49_2) hZ (hw _ (List.mem_of_getElem? (i := 42) rfl)) (hw _ (List.mem_of_getElem? (i := 2) rfl)) (by decide) (by decide)) q51a q51c (g := (mkF m 53 #[.val (.long fr), .second, .val (.long to), .second, .val (.long t), .second, .val (.ref b38), .val (.long pt), .second, .val (.ref b45), .unset] [(.long pt), (.ref b38)])) rfl (by rw [hml]; rfl) (Steps.refl _) (argsL := [(.long pt)]) (rest := []) (lenOf own_pd5 rfl) rfl (by show 2 * 0 + _ ≤ _; exact Nat.le_of_eq rfl) (hb hby at_53) (fun _ _ => ⟨rfl, e48, (by decide : 2 + 0 ≤ _), (by decide : 8 + 0 ≤ _)⟩)
    dsimp only [Pt.U, Pt.locs, Pt.cells, Pt.slots] at X51 l51 y51 z51 st51 hQ51
    subst l51 y51 z51
    obtain ⟨rfl, Nq51, e51⟩ := hQ51
    have N51 := Fr.app N48 Nq51
    refine own_by (fun _ k => st51.trans k) ?_
    show own_G _ _ _ _ _ _ _ (T51.setTop (mkF m 56 #[.val (.long fr), .second, .val (.long to), .second, .val (.long t), .second, .val (.ref b38), .val (.long pt), .second, .val (.ref b45), .unset] [(.int (own_holds pt fr to))]))
    refine own_by (fun _ k => XS.aload X51.here hx rfl (hb hby at_56) rfl rfl k) ?_
    show own_G _ _ _ _ _ _ _ (T51.setTop (mkF m 58 #[.val (.long fr), .second, .val (.long to), .second, .val (.long t), .second, .val (.ref b38), .val (.long pt), .second, .val (.ref b45), .unset] [(.ref b38), (.int (own_holds pt fr to))]))
    refine own_by (fun _ k => XS.aload X51.here hx rfl (hb hby at_58) rfl rfl k) ?_
    show own_G _ _ _ _ _ _ _ (T51.setTop (mkF m 60 #[.val (.long fr), .second, .val (.long to), .second, .val (.long t), .second, .val (.ref b38), .val (.long pt), .second, .val (.ref b45), .unset] [(.ref b45), (.ref b38), (.int (own_holds pt fr to))]))
    obtain ⟨cq52, kq52, q52a, q52b, q52c⟩ := isOf hZ e51 F49_0
    obtain ⟨_, _, ⟨T52, L52, k52, n52⟩, -, X52, ⟨Lc52, hQ52, l52, y52, z52⟩, st52⟩ := X51.virtualBack hx (y := (⟨"com/example/countersight/countersight/cli/Window", "overlaps", "(Lcom/example/countersight/countersight/cli/TraceRecord;)Z"⟩ : MethodName)) (z := (⟨"com/example/countersight/countersight/cli/Window", "overlaps", "(Lcom/example/countersight/countersight/cli/TraceRecord;)Z"⟩ : MethodName)) hown (mvT hZ (hw _ (List.mem_of_getElem? (i := 43) rfl))) (mvT hZ (hw _ (List.mem_of_getElem? (i := 44) rfl))) (notFace_of_selects (args := #[]) (mvT hZ (hw _ (List.mem_of_getElem? (i := 46) rfl)))) (mvT hZ (hw _ (List.mem_of_getElem? (i := 46) rfl))) (mvT hZ (hw _ (List.mem_of_getElem? (i := 45) rfl))) (by decide) (backOf (W := 1) (rm8 l Z aw hw [] b38 b45 fr to pt (1 : Int64) h48 n0 Z50 F49_1 F49_2 E48 G48_2 G48_3) hZ (hw _ (List.mem_of_getElem? (i := 47) rfl)) (hw _ (List.mem_of_getElem? (i := 2) rfl)) (by decide) (by decide)) q52a q52c (g := (mkF m 60 #[.val (.long fr), .second, .val (.long to), .second, .val (.long t), .second, .val (.ref b38), .val (.long pt), .second, .val (.ref b45), .unset] [(.ref b45), (.ref b38), (.int (own_holds pt fr to))])) rfl (by rw [hml]; rfl) (Steps.refl _) (argsL := [(.ref b45)]) (rest := [(.int (own_holds pt fr to))]) (lenOf own_pd6 rfl) rfl (by show 2 * 0 + _ ≤ _; exact Nat.le_of_eq rfl) (hb hby at_60) (fun _ _ => ⟨rfl, e51, (by decide : 2 + 0 ≤ _), (by decide : 8 + 0 ≤ _)⟩)
    dsimp only [Pt.U, Pt.locs, Pt.cells, Pt.slots] at X52 l52 y52 z52 st52 hQ52
    subst l52 y52 z52
    obtain ⟨rfl, Nq52, e52⟩ := hQ52
    have N52 := Fr.app N51 Nq52
    refine own_by (fun _ k => st52.trans k) ?_
    show own_G _ _ _ _ _ _ _ (T52.setTop (mkF m 63 #[.val (.long fr), .second, .val (.long to), .second, .val (.long t), .second, .val (.ref b38), .val (.long pt), .second, .val (.ref b45), .unset] [(.int (own_over fr to pt (1 : Int64))), (.int (own_holds pt fr to))]))
    have hc63 : (own_holds pt fr to) = (own_over fr to pt (1 : Int64)) := (own_1 pt fr to hpt)
    refine own_by (fun _ k => XS.icmpNo X52.here hx rfl (hb hby at_63) rfl (XT.ii_ne_f hc63) k) ?_
    show own_G _ _ _ _ _ _ _ (T52.setTop (mkF m 66 #[.val (.long fr), .second, .val (.long to), .second, .val (.long t), .second, .val (.ref b38), .val (.long pt), .second, .val (.ref b45), .unset] []))
    refine own_by (fun _ k => XS.iconst X52.here hx rfl (hb hby at_66) k) ?_
    show own_G _ _ _ _ _ _ _ (T52.setTop (mkF m 67 #[.val (.long fr), .second, .val (.long to), .second, .val (.long t), .second, .val (.ref b38), .val (.long pt), .second, .val (.ref b45), .unset] [(.int (1 : Int32))]))
    refine own_by (fun _ k => XS.goto X52.here hx rfl (pc0 := 67) (pc' := 71) rfl (hb hby at_67) (by decide) (by decide) k) ?_
    show own_G _ _ _ _ _ _ _ (T52.setTop (mkF m 71 #[.val (.long fr), .second, .val (.long to), .second, .val (.long t), .second, .val (.ref b38), .val (.long pt), .second, .val (.ref b45), .unset] [(.int (1 : Int32))]))
    refine own_by (fun _ k => XS.istore X52.here hx rfl (hb hby at_71) rfl (l' := #[.val (.long fr), .second, .val (.long to), .second, .val (.long t), .second, .val (.ref b38), .val (.long pt), .second, .val (.ref b45), .val (.int (1 : Int32))]) rfl k) ?_
    show own_G _ _ _ _ _ _ _ (T52.setTop (mkF m 73 #[.val (.long fr), .second, .val (.long to), .second, .val (.long t), .second, .val (.ref b38), .val (.long pt), .second, .val (.ref b45), .val (.int (1 : Int32))] []))
    refine own_by (fun _ k => XS.iload X52.here hx rfl (hb hby at_73) rfl  k) ?_
    show own_G _ _ _ _ _ _ _ (T52.setTop (mkF m 75 #[.val (.long fr), .second, .val (.long to), .second, .val (.long t), .second, .val (.ref b38), .val (.long pt), .second, .val (.ref b45), .val (.int (1 : Int32))] [(.int (1 : Int32))]))
    have hc75 : ¬ ((1 : Int32) = (0 : Int32)) := (by decide)
    refine own_by (fun _ k => XS.ifNo X52.here hx rfl (hb hby at_75) rfl (XT.i0_eq_f hc75) k) ?_
    show own_G _ _ _ _ _ _ _ (T52.setTop (mkF m 78 #[.val (.long fr), .second, .val (.long to), .second, .val (.long t), .second, .val (.ref b38), .val (.long pt), .second, .val (.ref b45), .val (.int (1 : Int32))] []))
    refine own_by (fun _ k => XS.aload X52.here hx rfl (hb hby at_78) rfl rfl k) ?_
    show own_G _ _ _ _ _ _ _ (T52.setTop (mkF m 80 #[.val (.long fr), .second, .val (.long to), .second, .val (.long t), .second, .val (.ref b38), .val (.long pt), .second, .val (.ref b45), .val (.int (1 : Int32))] [(.ref b38)]))
    refine own_by (fun _ k => XT.lloadN X52.here hx rfl (hb hby at_80) rfl  k) ?_
    show own_G _ _ _ _ _ _ _ (T52.setTop (mkF m 81 #[.val (.long fr), .second, .val (.long to), .second, .val (.long t), .second, .val (.ref b38), .val (.long pt), .second, .val (.ref b45), .val (.int (1 : Int32))] [(.long to), (.ref b38)]))
    obtain ⟨cq53, kq53, q53a, q53b, q53c⟩ := isOf hZ e52 F49_0
    obtain ⟨_, _, ⟨T53, L53, k53, n53⟩, -, X53, ⟨Lc53, hQ53, l53, y53, z53⟩, st53⟩ := X52.virtualBack hx (y := (⟨"com/example/countersight/countersight/cli/Window", "holds", "(J)Z"⟩ : MethodName)) (z := (⟨"com/example/countersight/countersight/cli/Window", "holds", "(J)Z"⟩ : MethodName)) hown (mvT hZ (hw _ (List.mem_of_getElem? (i := 38) rfl))) (mvT hZ (hw _ (List.mem_of_getElem? (i := 39) rfl))) (notFace_of_selects (args := #[]) (mvT hZ (hw _ (List.mem_of_getElem? (i := 41) rfl)))) (mvT hZ (hw _ (List.mem_of_getElem? (i := 41) rfl))) (mvT hZ (hw _ (List.mem_of_getElem? (i := 40) rfl))) (by decide) (backOf (W := 0) (rm4 l Z aw hw [] b38 to fr to h48 n0 Z50 F49_1 F49_2) hZ (hw _ (List.mem_of_getElem? (i := 42) rfl)) (hw _ (List.mem_of_getElem? (i := 2) rfl)) (by decide) (by decide)) q53a q53c (g := (mkF m 81 #[.val (.long fr), .second, .val (.long to), .second, .val (.long t), .second, .val (.ref b38), .val (.long pt), .second, .val (.ref b45), .val (.int (1 : Int32))] [(.long to), (.ref b38)])) rfl (by rw [hml]; rfl) (Steps.refl _) (argsL := [(.long to)]) (rest := []) (lenOf own_pd5 rfl) rfl (by show 2 * 0 + _ ≤ _; exact Nat.le_of_eq rfl) (hb hby at_81) (fun _ _ => ⟨rfl, e52, (by decide : 2 + 0 ≤ _), (by decide : 8 + 0 ≤ _)⟩)
    dsimp only [Pt.U, Pt.locs, Pt.cells, Pt.slots] at X53 l53 y53 z53 st53 hQ53
    subst l53 y53 z53
    obtain ⟨rfl, Nq53, e53⟩ := hQ53
    have N53 := Fr.app N52 Nq53
    refine own_by (fun _ k => st53.trans k) ?_
    show own_G _ _ _ _ _ _ _ (T53.setTop (mkF m 84 #[.val (.long fr), .second, .val (.long to), .second, .val (.long t), .second, .val (.ref b38), .val (.long pt), .second, .val (.ref b45), .val (.int (1 : Int32))] [(.int (own_holds to fr to))]))
    have hc84 : (own_holds to fr to) = (0 : Int32) := (own_2 fr to)
    refine own_by (fun _ k => XS.ifNo X53.here hx rfl (hb hby at_84) rfl (XT.i0_ne_f hc84) k) ?_
    show own_G _ _ _ _ _ _ _ (T53.setTop (mkF m 87 #[.val (.long fr), .second, .val (.long to), .second, .val (.long t), .second, .val (.ref b38), .val (.long pt), .second, .val (.ref b45), .val (.int (1 : Int32))] []))
    refine own_by (fun _ k => XS.iconst X53.here hx rfl (hb hby at_87) k) ?_
    show own_G _ _ _ _ _ _ _ (T53.setTop (mkF m 88 #[.val (.long fr), .second, .val (.long to), .second, .val (.long t), .second, .val (.ref b38), .val (.long pt), .second, .val (.ref b45), .val (.int (1 : Int32))] [(.int (1 : Int32))]))
    refine own_by (fun _ k => XS.goto X53.here hx rfl (pc0 := 88) (pc' := 92) rfl (hb hby at_88) (by decide) (by decide) k) ?_
    show own_G _ _ _ _ _ _ _ (T53.setTop (mkF m 92 #[.val (.long fr), .second, .val (.long to), .second, .val (.long t), .second, .val (.ref b38), .val (.long pt), .second, .val (.ref b45), .val (.int (1 : Int32))] [(.int (1 : Int32))]))
    refine own_by (fun _ k => XS.istore X53.here hx rfl (hb hby at_92) rfl (l' := #[.val (.long fr), .second, .val (.long to), .second, .val (.long t), .second, .val (.ref b38), .val (.long pt), .second, .val (.ref b45), .val (.int (1 : Int32))]) rfl k) ?_
    show own_G _ _ _ _ _ _ _ (T53.setTop (mkF m 94 #[.val (.long fr), .second, .val (.long to), .second, .val (.long t), .second, .val (.ref b38), .val (.long pt), .second, .val (.ref b45), .val (.int (1 : Int32))] []))
    refine own_by (fun _ k => XS.iload X53.here hx rfl (hb hby at_94) rfl  k) ?_
    show own_G _ _ _ _ _ _ _ (T53.setTop (mkF m 96 #[.val (.long fr), .second, .val (.long to), .second, .val (.long t), .second, .val (.ref b38), .val (.long pt), .second, .val (.ref b45), .val (.int (1 : Int32))] [(.int (1 : Int32))]))
    have hc96 : ¬ ((1 : Int32) = (0 : Int32)) := (by decide)
    refine own_by (fun _ k => XS.ifNo X53.here hx rfl (hb hby at_96) rfl (XT.i0_eq_f hc96) k) ?_
    show own_G _ _ _ _ _ _ _ (T53.setTop (mkF m 99 #[.val (.long fr), .second, .val (.long to), .second, .val (.long t), .second, .val (.ref b38), .val (.long pt), .second, .val (.ref b45), .val (.int (1 : Int32))] []))
    refine own_by (fun _ k => XS.aload X53.here hx rfl (hb hby at_99) rfl rfl k) ?_
    show own_G _ _ _ _ _ _ _ (T53.setTop (mkF m 101 #[.val (.long fr), .second, .val (.long to), .second, .val (.long t), .second, .val (.ref b38), .val (.long pt), .second, .val (.ref b45), .val (.int (1 : Int32))] [(.ref b38)]))
    refine own_by (fun _ k => XT.lloadN X53.here hx rfl (hb hby at_101) rfl  k) ?_
    show own_G _ _ _ _ _ _ _ (T53.setTop (mkF m 102 #[.val (.long fr), .second, .val (.long to), .second, .val (.long t), .second, .val (.ref b38), .val (.long pt), .second, .val (.ref b45), .val (.int (1 : Int32))] [(.long fr), (.ref b38)]))
    obtain ⟨cq54, kq54, q54a, q54b, q54c⟩ := isOf hZ e53 F49_0
    obtain ⟨_, _, ⟨T54, L54, k54, n54⟩, -, X54, ⟨Lc54, hQ54, l54, y54, z54⟩, st54⟩ := X53.virtualBack hx (y := (⟨"com/example/countersight/countersight/cli/Window", "holds", "(J)Z"⟩ : MethodName)) (z := (⟨"com/example/countersight/countersight/cli/Window", "holds", "(J)Z"⟩ : MethodName)) hown (mvT hZ (hw _ (List.mem_of_getElem? (i := 38) rfl))) (mvT hZ (hw _ (List.mem_of_getElem? (i := 39) rfl))) (notFace_of_selects (args := #[]) (mvT hZ (hw _ (List.mem_of_getElem? (i := 41) rfl)))) (mvT hZ (hw _ (List.mem_of_getElem? (i := 41) rfl))) (mvT hZ (hw _ (List.mem_of_getElem? (i := 40) rfl))) (by decide) (backOf (W := 0) (rm4 l Z aw hw [] b38 fr fr to h48 n0 Z50 F49_1 F49_2) hZ (hw _ (List.mem_of_getElem? (i := 42) rfl)) (hw _ (List.mem_of_getElem? (i := 2) rfl)) (by decide) (by decide)) q54a q54c (g := (mkF m 102 #[.val (.long fr), .second, .val (.long to), .second, .val (.long t), .second, .val (.ref b38), .val (.long pt), .second, .val (.ref b45), .val (.int (1 : Int32))] [(.long fr), (.ref b38)])) rfl (by rw [hml]; rfl) (Steps.refl _) (argsL := [(.long fr)]) (rest := []) (lenOf own_pd5 rfl) rfl (by show 2 * 0 + _ ≤ _; exact Nat.le_of_eq rfl) (hb hby at_102) (fun _ _ => ⟨rfl, e53, (by decide : 2 + 0 ≤ _), (by decide : 8 + 0 ≤ _)⟩)
    dsimp only [Pt.U, Pt.locs, Pt.cells, Pt.slots] at X54 l54 y54 z54 st54 hQ54
    subst l54 y54 z54
    obtain ⟨rfl, Nq54, e54⟩ := hQ54
    have N54 := Fr.app N53 Nq54
    refine own_by (fun _ k => st54.trans k) ?_
    have J116 : ∀ (Tj55 : State) (lj55 : List Loc) (Xj55 : Stand p l e room_1 s m #[(.long fr), (.long to), (.long t)] below meth c Tj55 lj55 2 8) (Nj55 : Fr n0 lj55) (ej55 : Tj55.heap = h48) (b1 : Int32) (hb1 : b1 = if fr < to then 1 else 0), own_G p.tables e below s (own_Q0 Z fr to t h0 n0) room_1.cells room_1.slots (Tj55.setTop (mkF m 116 #[.val (.long fr), .second, .val (.long to), .second, .val (.long t), .second, .val (.ref b38), .val (.long pt), .second, .val (.ref b45), .val (.int (1 : Int32))] [(.int b1), (.int (own_holds fr fr to))])) := by
      intro Tj55 lj55 Xj55 Nj55 ej55 b1 hb1
      show own_G _ _ _ _ _ _ _ (Tj55.setTop (mkF m 116 #[.val (.long fr), .second, .val (.long to), .second, .val (.long t), .second, .val (.ref b38), .val (.long pt), .second, .val (.ref b45), .val (.int (1 : Int32))] [(.int b1), (.int (own_holds fr fr to))]))
      have hc116 : (own_holds fr fr to) = b1 := (by rw [hb1]; exact own_3 fr to)
      refine own_by (fun _ k => XS.icmpNo Xj55.here hx rfl (hb hby at_116) rfl (XT.ii_ne_f hc116) k) ?_
      show own_G _ _ _ _ _ _ _ (Tj55.setTop (mkF m 119 #[.val (.long fr), .second, .val (.long to), .second, .val (.long t), .second, .val (.ref b38), .val (.long pt), .second, .val (.ref b45), .val (.int (1 : Int32))] []))
      refine own_by (fun _ k => XS.iconst Xj55.here hx rfl (hb hby at_119) k) ?_
      show own_G _ _ _ _ _ _ _ (Tj55.setTop (mkF m 120 #[.val (.long fr), .second, .val (.long to), .second, .val (.long t), .second, .val (.ref b38), .val (.long pt), .second, .val (.ref b45), .val (.int (1 : Int32))] [(.int (1 : Int32))]))
      refine own_by (fun _ k => XS.goto Xj55.here hx rfl (pc0 := 120) (pc' := 124) rfl (hb hby at_120) (by decide) (by decide) k) ?_
      show own_G _ _ _ _ _ _ _ (Tj55.setTop (mkF m 124 #[.val (.long fr), .second, .val (.long to), .second, .val (.long t), .second, .val (.ref b38), .val (.long pt), .second, .val (.ref b45), .val (.int (1 : Int32))] [(.int (1 : Int32))]))
      refine own_by (fun _ k => XS.istore Xj55.here hx rfl (hb hby at_124) rfl (l' := #[.val (.long fr), .second, .val (.long to), .second, .val (.long t), .second, .val (.ref b38), .val (.long pt), .second, .val (.ref b45), .val (.int (1 : Int32))]) rfl k) ?_
      show own_G _ _ _ _ _ _ _ (Tj55.setTop (mkF m 126 #[.val (.long fr), .second, .val (.long to), .second, .val (.long t), .second, .val (.ref b38), .val (.long pt), .second, .val (.ref b45), .val (.int (1 : Int32))] []))
      refine own_by (fun _ k => XS.iload Xj55.here hx rfl (hb hby at_126) rfl  k) ?_
      show own_G _ _ _ _ _ _ _ (Tj55.setTop (mkF m 128 #[.val (.long fr), .second, .val (.long to), .second, .val (.long t), .second, .val (.ref b38), .val (.long pt), .second, .val (.ref b45), .val (.int (1 : Int32))] [(.int (1 : Int32))]))
      have hc128 : ¬ ((1 : Int32) = (0 : Int32)) := (by decide)
      refine own_by (fun _ k => XS.ifNo Xj55.here hx rfl (hb hby at_128) rfl (XT.i0_eq_f hc128) k) ?_
      have J155 : ∀ (Tj56 : State) (lj56 : List Loc) (Xj56 : Stand p l e room_1 s m #[(.long fr), (.long to), (.long t)] below meth c Tj56 lj56 2 8) (Nj56 : Fr n0 lj56) (ej56 : Tj56.heap = h48), own_G p.tables e below s (own_Q0 Z fr to t h0 n0) room_1.cells room_1.slots (Tj56.setTop (mkF m 155 #[.val (.long fr), .second, .val (.long to), .second, .val (.long t), .second, .val (.ref b38), .val (.long pt), .second, .val (.ref b45), .val (.int (1 : Int32))] [(.int (1 : Int32))])) := by
        intro Tj56 lj56 Xj56 Nj56 ej56
        show own_G _ _ _ _ _ _ _ (Tj56.setTop (mkF m 155 #[.val (.long fr), .second, .val (.long to), .second, .val (.long t), .second, .val (.ref b38), .val (.long pt), .second, .val (.ref b45), .val (.int (1 : Int32))] [(.int (1 : Int32))]))
        refine own_by (fun _ k => XS.istore Xj56.here hx rfl (hb hby at_155) rfl (l' := #[.val (.long fr), .second, .val (.long to), .second, .val (.long t), .second, .val (.ref b38), .val (.long pt), .second, .val (.ref b45), .val (.int (1 : Int32))]) rfl k) ?_
        show own_G _ _ _ _ _ _ _ (Tj56.setTop (mkF m 157 #[.val (.long fr), .second, .val (.long to), .second, .val (.long t), .second, .val (.ref b38), .val (.long pt), .second, .val (.ref b45), .val (.int (1 : Int32))] []))
        refine own_by (fun _ k => XS.iload Xj56.here hx rfl (hb hby at_157) rfl  k) ?_
        show own_G _ _ _ _ _ _ _ (Tj56.setTop (mkF m 159 #[.val (.long fr), .second, .val (.long to), .second, .val (.long t), .second, .val (.ref b38), .val (.long pt), .second, .val (.ref b45), .val (.int (1 : Int32))] [(.int (1 : Int32))]))
        have hc159 : ¬ ((1 : Int32) = (0 : Int32)) := (by decide)
        refine own_by (fun _ k => XS.ifNo Xj56.here hx rfl (hb hby at_159) rfl (XT.i0_eq_f hc159) k) ?_
        have J197 : ∀ (Tj57 : State) (lj57 : List Loc) (Xj57 : Stand p l e room_1 s m #[(.long fr), (.long to), (.long t)] below meth c Tj57 lj57 2 8) (Nj57 : Fr n0 lj57) (ej57 : Tj57.heap = h48), own_G p.tables e below s (own_Q0 Z fr to t h0 n0) room_1.cells room_1.slots (Tj57.setTop (mkF m 197 #[.val (.long fr), .second, .val (.long to), .second, .val (.long t), .second, .val (.ref b38), .val (.long pt), .second, .val (.ref b45), .val (.int (1 : Int32))] [(.int (1 : Int32))])) := by
          intro Tj57 lj57 Xj57 Nj57 ej57
          show own_G _ _ _ _ _ _ _ (Tj57.setTop (mkF m 197 #[.val (.long fr), .second, .val (.long to), .second, .val (.long t), .second, .val (.ref b38), .val (.long pt), .second, .val (.ref b45), .val (.int (1 : Int32))] [(.int (1 : Int32))]))
          refine own_by (fun _ k => XS.istore Xj57.here hx rfl (hb hby at_197) rfl (l' := #[.val (.long fr), .second, .val (.long to), .second, .val (.long t), .second, .val (.ref b38), .val (.long pt), .second, .val (.ref b45), .val (.int (1 : Int32))]) rfl k) ?_
          show own_G _ _ _ _ _ _ _ (Tj57.setTop (mkF m 199 #[.val (.long fr), .second, .val (.long to), .second, .val (.long t), .second, .val (.ref b38), .val (.long pt), .second, .val (.ref b45), .val (.int (1 : Int32))] []))
          refine own_by (fun _ k => XS.iload Xj57.here hx rfl (hb hby at_199) rfl  k) ?_
          show own_G _ _ _ _ _ _ _ (Tj57.setTop (mkF m 201 #[.val (.long fr), .second, .val (.long to), .second, .val (.long t), .second, .val (.ref b38), .val (.long pt), .second, .val (.ref b45), .val (.int (1 : Int32))] [(.int (1 : Int32))]))
          have hc201 : ¬ ((1 : Int32) = (0 : Int32)) := (by decide)
          refine own_by (fun _ k => XS.ifNo Xj57.here hx rfl (hb hby at_201) rfl (XT.i0_eq_f hc201) k) ?_
          show own_G _ _ _ _ _ _ _ (Tj57.setTop (mkF m 204 #[.val (.long fr), .second, .val (.long to), .second, .val (.long t), .second, .val (.ref b38), .val (.long pt), .second, .val (.ref b45), .val (.int (1 : Int32))] []))
          refine own_by (fun _ k => XS.aload Xj57.here hx rfl (hb hby at_204) rfl rfl k) ?_
          show own_G _ _ _ _ _ _ _ (Tj57.setTop (mkF m 206 #[.val (.long fr), .second, .val (.long to), .second, .val (.long t), .second, .val (.ref b38), .val (.long pt), .second, .val (.ref b45), .val (.int (1 : Int32))] [(.ref b38)]))
          refine own_by (fun _ k => XT.lload Xj57.here hx rfl (hb hby at_206) rfl  k) ?_
          show own_G _ _ _ _ _ _ _ (Tj57.setTop (mkF m 208 #[.val (.long fr), .second, .val (.long to), .second, .val (.long t), .second, .val (.ref b38), .val (.long pt), .second, .val (.ref b45), .val (.int (1 : Int32))] [(.long t), (.ref b38)]))
          obtain ⟨cq58, kq58, q58a, q58b, q58c⟩ := isOf hZ ej57 F49_0
          obtain ⟨_, _, ⟨T58, L58, k58, n58⟩, -, X58, ⟨Lc58, hQ58, l58, y58, z58⟩, st58⟩ := Xj57.virtualBack hx (y := (⟨"com/example/countersight/countersight/cli/Window", "holds", "(J)Z"⟩ : MethodName)) (z := (⟨"com/example/countersight/countersight/cli/Window", "holds", "(J)Z"⟩ : MethodName)) hown (mvT hZ (hw _ (List.mem_of_getElem? (i := 38) rfl))) (mvT hZ (hw _ (List.mem_of_getElem? (i := 39) rfl))) (notFace_of_selects (args := #[]) (mvT hZ (hw _ (List.mem_of_getElem? (i := 41) rfl)))) (mvT hZ (hw _ (List.mem_of_getElem? (i := 41) rfl))) (mvT hZ (hw _ (List.mem_of_getElem? (i := 40) rfl))) (by decide) (backOf (W := 0) (rm4 l Z aw hw [] b38 t fr to h48 n0 Z50 F49_1 F49_2) hZ (hw _ (List.mem_of_getElem? (i := 42) rfl)) (hw _ (List.mem_of_getElem? (i := 2) rfl)) (by decide) (by decide)) q58a q58c (g := (mkF m 208 #[.val (.long fr), .second, .val (.long to), .second, .val (.long t), .second, .val (.ref b38), .val (.long pt), .second, .val (.ref b45), .val (.int (1 : Int32))] [(.long t), (.ref b38)])) rfl (by rw [hml]; rfl) (Steps.refl _) (argsL := [(.long t)]) (rest := []) (lenOf own_pd5 rfl) rfl (by show 2 * 0 + _ ≤ _; exact Nat.le_of_eq rfl) (hb hby at_208) (fun _ _ => ⟨rfl, ej57, (by decide : 2 + 0 ≤ _), (by decide : 8 + 0 ≤ _)⟩)
          dsimp only [Pt.U, Pt.locs, Pt.cells, Pt.slots] at X58 l58 y58 z58 st58 hQ58
          subst l58 y58 z58
          obtain ⟨rfl, Nq58, e58⟩ := hQ58
          have N58 := Fr.app Nj57 Nq58
          refine own_by (fun _ k => st58.trans k) ?_
          show own_G _ _ _ _ _ _ _ (T58.setTop (mkF m 211 #[.val (.long fr), .second, .val (.long to), .second, .val (.long t), .second, .val (.ref b38), .val (.long pt), .second, .val (.ref b45), .val (.int (1 : Int32))] [(.int (own_holds t fr to))]))
          by_cases hc211 : (own_holds t fr to) = (0 : Int32)
          · refine own_by (fun _ k => XS.ifYes X58.here hx rfl (pc0 := 211) (pc' := 228) rfl (hb hby at_211) rfl (XT.i0_eq_t hc211) (by decide) (by decide) k) ?_
            show own_G _ _ _ _ _ _ _ (T58.setTop (mkF m 228 #[.val (.long fr), .second, .val (.long to), .second, .val (.long t), .second, .val (.ref b38), .val (.long pt), .second, .val (.ref b45), .val (.int (1 : Int32))] []))
            refine own_by (fun _ k => XS.iconst X58.here hx rfl (hb hby at_228) k) ?_
            show own_G _ _ _ _ _ _ _ (T58.setTop (mkF m 229 #[.val (.long fr), .second, .val (.long to), .second, .val (.long t), .second, .val (.ref b38), .val (.long pt), .second, .val (.ref b45), .val (.int (1 : Int32))] [(.int (1 : Int32))]))
            refine own_by (fun _ k => XS.goto X58.here hx rfl (pc0 := 229) (pc' := 233) rfl (hb hby at_229) (by decide) (by decide) k) ?_
            show own_G _ _ _ _ _ _ _ (T58.setTop (mkF m 233 #[.val (.long fr), .second, .val (.long to), .second, .val (.long t), .second, .val (.ref b38), .val (.long pt), .second, .val (.ref b45), .val (.int (1 : Int32))] [(.int (1 : Int32))]))
            refine own_by (fun _ k => XS.istore X58.here hx rfl (hb hby at_233) rfl (l' := #[.val (.long fr), .second, .val (.long to), .second, .val (.long t), .second, .val (.ref b38), .val (.long pt), .second, .val (.ref b45), .val (.int (1 : Int32))]) rfl k) ?_
            show own_G _ _ _ _ _ _ _ (T58.setTop (mkF m 235 #[.val (.long fr), .second, .val (.long to), .second, .val (.long t), .second, .val (.ref b38), .val (.long pt), .second, .val (.ref b45), .val (.int (1 : Int32))] []))
            refine own_by (fun _ k => XS.iload X58.here hx rfl (hb hby at_235) rfl  k) ?_
            show own_G _ _ _ _ _ _ _ (T58.setTop (mkF m 237 #[.val (.long fr), .second, .val (.long to), .second, .val (.long t), .second, .val (.ref b38), .val (.long pt), .second, .val (.ref b45), .val (.int (1 : Int32))] [(.int (1 : Int32))]))
            exact own_end X58 (v := some (.int (nar .boolean (1 : Int32)))) (fun h => by rw [Bd.returns] at h; cases h) (BodyLoose.notSynchronized Bd) (fun fs hr => retN X58 hx (t := .boolean) Bd.returns (by simp) (hb hby at_237) hr) (by rw [e58]; exact ⟨rfl, N58⟩) (by decide) (by decide)
          · refine own_by (fun _ k => XS.ifNo X58.here hx rfl (hb hby at_211) rfl (XT.i0_eq_f hc211) k) ?_
            show own_G _ _ _ _ _ _ _ (T58.setTop (mkF m 214 #[.val (.long fr), .second, .val (.long to), .second, .val (.long t), .second, .val (.ref b38), .val (.long pt), .second, .val (.ref b45), .val (.int (1 : Int32))] []))
            refine own_by (fun _ k => XT.lloadN X58.here hx rfl (hb hby at_214) rfl  k) ?_
            show own_G _ _ _ _ _ _ _ (T58.setTop (mkF m 215 #[.val (.long fr), .second, .val (.long to), .second, .val (.long t), .second, .val (.ref b38), .val (.long pt), .second, .val (.ref b45), .val (.int (1 : Int32))] [(.long fr)]))
            refine own_by (fun _ k => XT.lload X58.here hx rfl (hb hby at_215) rfl  k) ?_
            show own_G _ _ _ _ _ _ _ (T58.setTop (mkF m 217 #[.val (.long fr), .second, .val (.long to), .second, .val (.long t), .second, .val (.ref b38), .val (.long pt), .second, .val (.ref b45), .val (.int (1 : Int32))] [(.long t), (.long fr)]))
            refine own_by (fun _ k => XT.lcmp X58.here hx rfl (hb hby at_217) rfl k) ?_
            show own_G _ _ _ _ _ _ _ (T58.setTop (mkF m 218 #[.val (.long fr), .second, .val (.long to), .second, .val (.long t), .second, .val (.ref b38), .val (.long pt), .second, .val (.ref b45), .val (.int (1 : Int32))] [(.int (XT.cmpL fr t))]))
            have hc218 : ¬ (t < fr) := (own_6 t fr to hc211).1
            refine own_by (fun _ k => XS.ifNo X58.here hx rfl (hb hby at_218) rfl (XT.ll_gt_f hc218) k) ?_
            show own_G _ _ _ _ _ _ _ (T58.setTop (mkF m 221 #[.val (.long fr), .second, .val (.long to), .second, .val (.long t), .second, .val (.ref b38), .val (.long pt), .second, .val (.ref b45), .val (.int (1 : Int32))] []))
            refine own_by (fun _ k => XT.lload X58.here hx rfl (hb hby at_221) rfl  k) ?_
            show own_G _ _ _ _ _ _ _ (T58.setTop (mkF m 223 #[.val (.long fr), .second, .val (.long to), .second, .val (.long t), .second, .val (.ref b38), .val (.long pt), .second, .val (.ref b45), .val (.int (1 : Int32))] [(.long t)]))
            refine own_by (fun _ k => XT.lloadN X58.here hx rfl (hb hby at_223) rfl  k) ?_
            show own_G _ _ _ _ _ _ _ (T58.setTop (mkF m 224 #[.val (.long fr), .second, .val (.long to), .second, .val (.long t), .second, .val (.ref b38), .val (.long pt), .second, .val (.ref b45), .val (.int (1 : Int32))] [(.long to), (.long t)]))
            refine own_by (fun _ k => XT.lcmp X58.here hx rfl (hb hby at_224) rfl k) ?_
            show own_G _ _ _ _ _ _ _ (T58.setTop (mkF m 225 #[.val (.long fr), .second, .val (.long to), .second, .val (.long t), .second, .val (.ref b38), .val (.long pt), .second, .val (.ref b45), .val (.int (1 : Int32))] [(.int (XT.cmpL t to))]))
            have hc225 : t < to := (own_6 t fr to hc211).2
            refine own_by (fun _ k => XS.ifNo X58.here hx rfl (hb hby at_225) rfl (XT.ll_ge_f hc225) k) ?_
            show own_G _ _ _ _ _ _ _ (T58.setTop (mkF m 228 #[.val (.long fr), .second, .val (.long to), .second, .val (.long t), .second, .val (.ref b38), .val (.long pt), .second, .val (.ref b45), .val (.int (1 : Int32))] []))
            refine own_by (fun _ k => XS.iconst X58.here hx rfl (hb hby at_228) k) ?_
            show own_G _ _ _ _ _ _ _ (T58.setTop (mkF m 229 #[.val (.long fr), .second, .val (.long to), .second, .val (.long t), .second, .val (.ref b38), .val (.long pt), .second, .val (.ref b45), .val (.int (1 : Int32))] [(.int (1 : Int32))]))
            refine own_by (fun _ k => XS.goto X58.here hx rfl (pc0 := 229) (pc' := 233) rfl (hb hby at_229) (by decide) (by decide) k) ?_
            show own_G _ _ _ _ _ _ _ (T58.setTop (mkF m 233 #[.val (.long fr), .second, .val (.long to), .second, .val (.long t), .second, .val (.ref b38), .val (.long pt), .second, .val (.ref b45), .val (.int (1 : Int32))] [(.int (1 : Int32))]))
            refine own_by (fun _ k => XS.istore X58.here hx rfl (hb hby at_233) rfl (l' := #[.val (.long fr), .second, .val (.long to), .second, .val (.long t), .second, .val (.ref b38), .val (.long pt), .second, .val (.ref b45), .val (.int (1 : Int32))]) rfl k) ?_
            show own_G _ _ _ _ _ _ _ (T58.setTop (mkF m 235 #[.val (.long fr), .second, .val (.long to), .second, .val (.long t), .second, .val (.ref b38), .val (.long pt), .second, .val (.ref b45), .val (.int (1 : Int32))] []))
            refine own_by (fun _ k => XS.iload X58.here hx rfl (hb hby at_235) rfl  k) ?_
            show own_G _ _ _ _ _ _ _ (T58.setTop (mkF m 237 #[.val (.long fr), .second, .val (.long to), .second, .val (.long t), .second, .val (.ref b38), .val (.long pt), .second, .val (.ref b45), .val (.int (1 : Int32))] [(.int (1 : Int32))]))
            exact own_end X58 (v := some (.int (nar .boolean (1 : Int32)))) (fun h => by rw [Bd.returns] at h; cases h) (BodyLoose.notSynchronized Bd) (fun fs hr => retN X58 hx (t := .boolean) Bd.returns (by simp) (hb hby at_237) hr) (by rw [e58]; exact ⟨rfl, N58⟩) (by decide) (by decide)
        show own_G _ _ _ _ _ _ _ (Tj56.setTop (mkF m 162 #[.val (.long fr), .second, .val (.long to), .second, .val (.long t), .second, .val (.ref b38), .val (.long pt), .second, .val (.ref b45), .val (.int (1 : Int32))] []))
        refine own_by (fun _ k => XT.lloadN Xj56.here hx rfl (hb hby at_162) rfl  k) ?_
        show own_G _ _ _ _ _ _ _ (Tj56.setTop (mkF m 163 #[.val (.long fr), .second, .val (.long to), .second, .val (.long t), .second, .val (.ref b38), .val (.long pt), .second, .val (.ref b45), .val (.int (1 : Int32))] [(.long to)]))
        refine own_by (Xj56.ldc2Long hx hown (mvT hZ (hw _ (List.mem_of_getElem? (i := 53) rfl))) (g := (mkF m 163 #[.val (.long fr), .second, .val (.long to), .second, .val (.long t), .second, .val (.ref b38), .val (.long pt), .second, .val (.ref b45), .val (.int (1 : Int32))] [(.long to)])) rfl (hb hby at_163)) ?_
        show own_G _ _ _ _ _ _ _ (Tj56.setTop (mkF m 166 #[.val (.long fr), .second, .val (.long to), .second, .val (.long t), .second, .val (.ref b38), .val (.long pt), .second, .val (.ref b45), .val (.int (1 : Int32))] [(.long (-9223372036854775808 : Int64)), (.long to)]))
        refine own_by (fun _ k => XT.lcmp Xj56.here hx rfl (hb hby at_166) rfl k) ?_
        show own_G _ _ _ _ _ _ _ (Tj56.setTop (mkF m 167 #[.val (.long fr), .second, .val (.long to), .second, .val (.long t), .second, .val (.ref b38), .val (.long pt), .second, .val (.ref b45), .val (.int (1 : Int32))] [(.int (XT.cmpL to (-9223372036854775808 : Int64)))]))
        by_cases hc167 : to = (-9223372036854775808 : Int64)
        · refine own_by (fun _ k => XS.ifYes Xj56.here hx rfl (pc0 := 167) (pc' := 192) rfl (hb hby at_167) rfl (XT.ll_eq_t hc167) (by decide) (by decide) k) ?_
          show own_G _ _ _ _ _ _ _ (Tj56.setTop (mkF m 192 #[.val (.long fr), .second, .val (.long to), .second, .val (.long t), .second, .val (.ref b38), .val (.long pt), .second, .val (.ref b45), .val (.int (1 : Int32))] []))
          refine own_by (fun _ k => XS.iconst Xj56.here hx rfl (hb hby at_192) k) ?_
          show own_G _ _ _ _ _ _ _ (Tj56.setTop (mkF m 193 #[.val (.long fr), .second, .val (.long to), .second, .val (.long t), .second, .val (.ref b38), .val (.long pt), .second, .val (.ref b45), .val (.int (1 : Int32))] [(.int (1 : Int32))]))
          refine own_by (fun _ k => XS.goto Xj56.here hx rfl (pc0 := 193) (pc' := 197) rfl (hb hby at_193) (by decide) (by decide) k) ?_
          exact J197 Tj56 _ Xj56 Nj56 ej56 
        · refine own_by (fun _ k => XS.ifNo Xj56.here hx rfl (hb hby at_167) rfl (XT.ll_eq_f hc167) k) ?_
          show own_G _ _ _ _ _ _ _ (Tj56.setTop (mkF m 170 #[.val (.long fr), .second, .val (.long to), .second, .val (.long t), .second, .val (.ref b38), .val (.long pt), .second, .val (.ref b45), .val (.int (1 : Int32))] []))
          refine own_by (fun _ k => XS.aload Xj56.here hx rfl (hb hby at_170) rfl rfl k) ?_
          show own_G _ _ _ _ _ _ _ (Tj56.setTop (mkF m 172 #[.val (.long fr), .second, .val (.long to), .second, .val (.long t), .second, .val (.ref b38), .val (.long pt), .second, .val (.ref b45), .val (.int (1 : Int32))] [(.ref b38)]))
          refine own_by (fun _ k => XT.lloadN Xj56.here hx rfl (hb hby at_172) rfl  k) ?_
          show own_G _ _ _ _ _ _ _ (Tj56.setTop (mkF m 173 #[.val (.long fr), .second, .val (.long to), .second, .val (.long t), .second, .val (.ref b38), .val (.long pt), .second, .val (.ref b45), .val (.int (1 : Int32))] [(.long to), (.ref b38)]))
          refine own_by (fun _ k => XT.lconst Xj56.here hx rfl (hb hby at_173) k) ?_
          show own_G _ _ _ _ _ _ _ (Tj56.setTop (mkF m 174 #[.val (.long fr), .second, .val (.long to), .second, .val (.long t), .second, .val (.ref b38), .val (.long pt), .second, .val (.ref b45), .val (.int (1 : Int32))] [(.long (1 : Int64)), (.long to), (.ref b38)]))
          refine own_by (fun _ k => XT.lsub Xj56.here hx rfl (hb hby at_174) rfl k) ?_
          show own_G _ _ _ _ _ _ _ (Tj56.setTop (mkF m 175 #[.val (.long fr), .second, .val (.long to), .second, .val (.long t), .second, .val (.ref b38), .val (.long pt), .second, .val (.ref b45), .val (.int (1 : Int32))] [(.long (to - (1 : Int64))), (.ref b38)]))
          obtain ⟨cq59, kq59, q59a, q59b, q59c⟩ := isOf hZ ej56 F49_0
          obtain ⟨_, _, ⟨T59, L59, k59, n59⟩, -, X59, ⟨Lc59, hQ59, l59, y59, z59⟩, st59⟩ := Xj56.virtualBack hx (y := (⟨"com/example/countersight/countersight/cli/Window", "holds", "(J)Z"⟩ : MethodName)) (z := (⟨"com/example/countersight/countersight/cli/Window", "holds", "(J)Z"⟩ : MethodName)) hown (mvT hZ (hw _ (List.mem_of_getElem? (i := 38) rfl))) (mvT hZ (hw _ (List.mem_of_getElem? (i := 39) rfl))) (notFace_of_selects (args := #[]) (mvT hZ (hw _ (List.mem_of_getElem? (i := 41) rfl)))) (mvT hZ (hw _ (List.mem_of_getElem? (i := 41) rfl))) (mvT hZ (hw _ (List.mem_of_getElem? (i := 40) rfl))) (by decide) (backOf (W := 0) (rm4 l Z aw hw [] b38 (to - (1 : Int64)) fr to h48 n0 Z50 F49_1 F49_2) hZ (hw _ (List.mem_of_getElem? (i := 42) rfl)) (hw _ (List.mem_of_getElem? (i := 2) rfl)) (by decide) (by decide)) q59a q59c (g := (mkF m 175 #[.val (.long fr), .second, .val (.long to), .second, .val (.long t), .second, .val (.ref b38), .val (.long pt), .second, .val (.ref b45), .val (.int (1 : Int32))] [(.long (to - (1 : Int64))), (.ref b38)])) rfl (by rw [hml]; rfl) (Steps.refl _) (argsL := [(.long (to - (1 : Int64)))]) (rest := []) (lenOf own_pd5 rfl) rfl (by show 2 * 0 + _ ≤ _; exact Nat.le_of_eq rfl) (hb hby at_175) (fun _ _ => ⟨rfl, ej56, (by decide : 2 + 0 ≤ _), (by decide : 8 + 0 ≤ _)⟩)
          dsimp only [Pt.U, Pt.locs, Pt.cells, Pt.slots] at X59 l59 y59 z59 st59 hQ59
          subst l59 y59 z59
          obtain ⟨rfl, Nq59, e59⟩ := hQ59
          have N59 := Fr.app Nj56 Nq59
          refine own_by (fun _ k => st59.trans k) ?_
          have J189 : ∀ (Tj60 : State) (lj60 : List Loc) (Xj60 : Stand p l e room_1 s m #[(.long fr), (.long to), (.long t)] below meth c Tj60 lj60 2 8) (Nj60 : Fr n0 lj60) (ej60 : Tj60.heap = h48) (b2 : Int32) (hb2 : b2 = if fr < to then 1 else 0), own_G p.tables e below s (own_Q0 Z fr to t h0 n0) room_1.cells room_1.slots (Tj60.setTop (mkF m 189 #[.val (.long fr), .second, .val (.long to), .second, .val (.long t), .second, .val (.ref b38), .val (.long pt), .second, .val (.ref b45), .val (.int (1 : Int32))] [(.int b2), (.int (own_holds (to - (1 : Int64)) fr to))])) := by
            intro Tj60 lj60 Xj60 Nj60 ej60 b2 hb2
            show own_G _ _ _ _ _ _ _ (Tj60.setTop (mkF m 189 #[.val (.long fr), .second, .val (.long to), .second, .val (.long t), .second, .val (.ref b38), .val (.long pt), .second, .val (.ref b45), .val (.int (1 : Int32))] [(.int b2), (.int (own_holds (to - (1 : Int64)) fr to))]))
            have hc189 : (own_holds (to - (1 : Int64)) fr to) = b2 := (by rw [hb2]; exact own_5 fr to hc167)
            refine own_by (fun _ k => XS.icmpNo Xj60.here hx rfl (hb hby at_189) rfl (XT.ii_ne_f hc189) k) ?_
            show own_G _ _ _ _ _ _ _ (Tj60.setTop (mkF m 192 #[.val (.long fr), .second, .val (.long to), .second, .val (.long t), .second, .val (.ref b38), .val (.long pt), .second, .val (.ref b45), .val (.int (1 : Int32))] []))
            refine own_by (fun _ k => XS.iconst Xj60.here hx rfl (hb hby at_192) k) ?_
            show own_G _ _ _ _ _ _ _ (Tj60.setTop (mkF m 193 #[.val (.long fr), .second, .val (.long to), .second, .val (.long t), .second, .val (.ref b38), .val (.long pt), .second, .val (.ref b45), .val (.int (1 : Int32))] [(.int (1 : Int32))]))
            refine own_by (fun _ k => XS.goto Xj60.here hx rfl (pc0 := 193) (pc' := 197) rfl (hb hby at_193) (by decide) (by decide) k) ?_
            exact J197 Tj60 _ Xj60 Nj60 ej60 
          show own_G _ _ _ _ _ _ _ (T59.setTop (mkF m 178 #[.val (.long fr), .second, .val (.long to), .second, .val (.long t), .second, .val (.ref b38), .val (.long pt), .second, .val (.ref b45), .val (.int (1 : Int32))] [(.int (own_holds (to - (1 : Int64)) fr to))]))
          refine own_by (fun _ k => XT.lloadN X59.here hx rfl (hb hby at_178) rfl  k) ?_
          show own_G _ _ _ _ _ _ _ (T59.setTop (mkF m 179 #[.val (.long fr), .second, .val (.long to), .second, .val (.long t), .second, .val (.ref b38), .val (.long pt), .second, .val (.ref b45), .val (.int (1 : Int32))] [(.long fr), (.int (own_holds (to - (1 : Int64)) fr to))]))
          refine own_by (fun _ k => XT.lloadN X59.here hx rfl (hb hby at_179) rfl  k) ?_
          show own_G _ _ _ _ _ _ _ (T59.setTop (mkF m 180 #[.val (.long fr), .second, .val (.long to), .second, .val (.long t), .second, .val (.ref b38), .val (.long pt), .second, .val (.ref b45), .val (.int (1 : Int32))] [(.long to), (.long fr), (.int (own_holds (to - (1 : Int64)) fr to))]))
          refine own_by (fun _ k => XT.lcmp X59.here hx rfl (hb hby at_180) rfl k) ?_
          show own_G _ _ _ _ _ _ _ (T59.setTop (mkF m 181 #[.val (.long fr), .second, .val (.long to), .second, .val (.long t), .second, .val (.ref b38), .val (.long pt), .second, .val (.ref b45), .val (.int (1 : Int32))] [(.int (XT.cmpL fr to)), (.int (own_holds (to - (1 : Int64)) fr to))]))
          by_cases hc181 : fr < to
          · refine own_by (fun _ k => XS.ifNo X59.here hx rfl (hb hby at_181) rfl (XT.ll_ge_f hc181) k) ?_
            show own_G _ _ _ _ _ _ _ (T59.setTop (mkF m 184 #[.val (.long fr), .second, .val (.long to), .second, .val (.long t), .second, .val (.ref b38), .val (.long pt), .second, .val (.ref b45), .val (.int (1 : Int32))] [(.int (own_holds (to - (1 : Int64)) fr to))]))
            refine own_by (fun _ k => XS.iconst X59.here hx rfl (hb hby at_184) k) ?_
            show own_G _ _ _ _ _ _ _ (T59.setTop (mkF m 185 #[.val (.long fr), .second, .val (.long to), .second, .val (.long t), .second, .val (.ref b38), .val (.long pt), .second, .val (.ref b45), .val (.int (1 : Int32))] [(.int (1 : Int32)), (.int (own_holds (to - (1 : Int64)) fr to))]))
            refine own_by (fun _ k => XS.goto X59.here hx rfl (pc0 := 185) (pc' := 189) rfl (hb hby at_185) (by decide) (by decide) k) ?_
            exact J189 T59 _ X59 N59 e59 (1 : Int32) (by simp only [hc181, if_true, if_false, ↓reduceIte])
          · refine own_by (fun _ k => XS.ifYes X59.here hx rfl (pc0 := 181) (pc' := 188) rfl (hb hby at_181) rfl (XT.ll_ge_t hc181) (by decide) (by decide) k) ?_
            show own_G _ _ _ _ _ _ _ (T59.setTop (mkF m 188 #[.val (.long fr), .second, .val (.long to), .second, .val (.long t), .second, .val (.ref b38), .val (.long pt), .second, .val (.ref b45), .val (.int (1 : Int32))] [(.int (own_holds (to - (1 : Int64)) fr to))]))
            refine own_by (fun _ k => XS.iconst X59.here hx rfl (hb hby at_188) k) ?_
            exact J189 T59 _ X59 N59 e59 (0 : Int32) (by simp only [hc181, if_true, if_false, ↓reduceIte])
      show own_G _ _ _ _ _ _ _ (Tj55.setTop (mkF m 131 #[.val (.long fr), .second, .val (.long to), .second, .val (.long t), .second, .val (.ref b38), .val (.long pt), .second, .val (.ref b45), .val (.int (1 : Int32))] []))
      refine own_by (fun _ k => XT.lloadN Xj55.here hx rfl (hb hby at_131) rfl  k) ?_
      show own_G _ _ _ _ _ _ _ (Tj55.setTop (mkF m 132 #[.val (.long fr), .second, .val (.long to), .second, .val (.long t), .second, .val (.ref b38), .val (.long pt), .second, .val (.ref b45), .val (.int (1 : Int32))] [(.long fr)]))
      refine own_by (Xj55.ldc2Long hx hown (mvT hZ (hw _ (List.mem_of_getElem? (i := 53) rfl))) (g := (mkF m 132 #[.val (.long fr), .second, .val (.long to), .second, .val (.long t), .second, .val (.ref b38), .val (.long pt), .second, .val (.ref b45), .val (.int (1 : Int32))] [(.long fr)])) rfl (hb hby at_132)) ?_
      show own_G _ _ _ _ _ _ _ (Tj55.setTop (mkF m 135 #[.val (.long fr), .second, .val (.long to), .second, .val (.long t), .second, .val (.ref b38), .val (.long pt), .second, .val (.ref b45), .val (.int (1 : Int32))] [(.long (-9223372036854775808 : Int64)), (.long fr)]))
      refine own_by (fun _ k => XT.lcmp Xj55.here hx rfl (hb hby at_135) rfl k) ?_
      show own_G _ _ _ _ _ _ _ (Tj55.setTop (mkF m 136 #[.val (.long fr), .second, .val (.long to), .second, .val (.long t), .second, .val (.ref b38), .val (.long pt), .second, .val (.ref b45), .val (.int (1 : Int32))] [(.int (XT.cmpL fr (-9223372036854775808 : Int64)))]))
      by_cases hc136 : fr = (-9223372036854775808 : Int64)
      · refine own_by (fun _ k => XS.ifYes Xj55.here hx rfl (pc0 := 136) (pc' := 150) rfl (hb hby at_136) rfl (XT.ll_eq_t hc136) (by decide) (by decide) k) ?_
        show own_G _ _ _ _ _ _ _ (Tj55.setTop (mkF m 150 #[.val (.long fr), .second, .val (.long to), .second, .val (.long t), .second, .val (.ref b38), .val (.long pt), .second, .val (.ref b45), .val (.int (1 : Int32))] []))
        refine own_by (fun _ k => XS.iconst Xj55.here hx rfl (hb hby at_150) k) ?_
        show own_G _ _ _ _ _ _ _ (Tj55.setTop (mkF m 151 #[.val (.long fr), .second, .val (.long to), .second, .val (.long t), .second, .val (.ref b38), .val (.long pt), .second, .val (.ref b45), .val (.int (1 : Int32))] [(.int (1 : Int32))]))
        refine own_by (fun _ k => XS.goto Xj55.here hx rfl (pc0 := 151) (pc' := 155) rfl (hb hby at_151) (by decide) (by decide) k) ?_
        exact J155 Tj55 _ Xj55 Nj55 ej55 
      · refine own_by (fun _ k => XS.ifNo Xj55.here hx rfl (hb hby at_136) rfl (XT.ll_eq_f hc136) k) ?_
        show own_G _ _ _ _ _ _ _ (Tj55.setTop (mkF m 139 #[.val (.long fr), .second, .val (.long to), .second, .val (.long t), .second, .val (.ref b38), .val (.long pt), .second, .val (.ref b45), .val (.int (1 : Int32))] []))
        refine own_by (fun _ k => XS.aload Xj55.here hx rfl (hb hby at_139) rfl rfl k) ?_
        show own_G _ _ _ _ _ _ _ (Tj55.setTop (mkF m 141 #[.val (.long fr), .second, .val (.long to), .second, .val (.long t), .second, .val (.ref b38), .val (.long pt), .second, .val (.ref b45), .val (.int (1 : Int32))] [(.ref b38)]))
        refine own_by (fun _ k => XT.lloadN Xj55.here hx rfl (hb hby at_141) rfl  k) ?_
        show own_G _ _ _ _ _ _ _ (Tj55.setTop (mkF m 142 #[.val (.long fr), .second, .val (.long to), .second, .val (.long t), .second, .val (.ref b38), .val (.long pt), .second, .val (.ref b45), .val (.int (1 : Int32))] [(.long fr), (.ref b38)]))
        refine own_by (fun _ k => XT.lconst Xj55.here hx rfl (hb hby at_142) k) ?_
        show own_G _ _ _ _ _ _ _ (Tj55.setTop (mkF m 143 #[.val (.long fr), .second, .val (.long to), .second, .val (.long t), .second, .val (.ref b38), .val (.long pt), .second, .val (.ref b45), .val (.int (1 : Int32))] [(.long (1 : Int64)), (.long fr), (.ref b38)]))
        refine own_by (fun _ k => XT.lsub Xj55.here hx rfl (hb hby at_143) rfl k) ?_
        show own_G _ _ _ _ _ _ _ (Tj55.setTop (mkF m 144 #[.val (.long fr), .second, .val (.long to), .second, .val (.long t), .second, .val (.ref b38), .val (.long pt), .second, .val (.ref b45), .val (.int (1 : Int32))] [(.long (fr - (1 : Int64))), (.ref b38)]))
        obtain ⟨cq61, kq61, q61a, q61b, q61c⟩ := isOf hZ ej55 F49_0
        obtain ⟨_, _, ⟨T61, L61, k61, n61⟩, -, X61, ⟨Lc61, hQ61, l61, y61, z61⟩, st61⟩ := Xj55.virtualBack hx (y := (⟨"com/example/countersight/countersight/cli/Window", "holds", "(J)Z"⟩ : MethodName)) (z := (⟨"com/example/countersight/countersight/cli/Window", "holds", "(J)Z"⟩ : MethodName)) hown (mvT hZ (hw _ (List.mem_of_getElem? (i := 38) rfl))) (mvT hZ (hw _ (List.mem_of_getElem? (i := 39) rfl))) (notFace_of_selects (args := #[]) (mvT hZ (hw _ (List.mem_of_getElem? (i := 41) rfl)))) (mvT hZ (hw _ (List.mem_of_getElem? (i := 41) rfl))) (mvT hZ (hw _ (List.mem_of_getElem? (i := 40) rfl))) (by decide) (backOf (W := 0) (rm4 l Z aw hw [] b38 (fr - (1 : Int64)) fr to h48 n0 Z50 F49_1 F49_2) hZ (hw _ (List.mem_of_getElem? (i := 42) rfl)) (hw _ (List.mem_of_getElem? (i := 2) rfl)) (by decide) (by decide)) q61a q61c (g := (mkF m 144 #[.val (.long fr), .second, .val (.long to), .second, .val (.long t), .second, .val (.ref b38), .val (.long pt), .second, .val (.ref b45), .val (.int (1 : Int32))] [(.long (fr - (1 : Int64))), (.ref b38)])) rfl (by rw [hml]; rfl) (Steps.refl _) (argsL := [(.long (fr - (1 : Int64)))]) (rest := []) (lenOf own_pd5 rfl) rfl (by show 2 * 0 + _ ≤ _; exact Nat.le_of_eq rfl) (hb hby at_144) (fun _ _ => ⟨rfl, ej55, (by decide : 2 + 0 ≤ _), (by decide : 8 + 0 ≤ _)⟩)
        dsimp only [Pt.U, Pt.locs, Pt.cells, Pt.slots] at X61 l61 y61 z61 st61 hQ61
        subst l61 y61 z61
        obtain ⟨rfl, Nq61, e61⟩ := hQ61
        have N61 := Fr.app Nj55 Nq61
        refine own_by (fun _ k => st61.trans k) ?_
        show own_G _ _ _ _ _ _ _ (T61.setTop (mkF m 147 #[.val (.long fr), .second, .val (.long to), .second, .val (.long t), .second, .val (.ref b38), .val (.long pt), .second, .val (.ref b45), .val (.int (1 : Int32))] [(.int (own_holds (fr - (1 : Int64)) fr to))]))
        have hc147 : (own_holds (fr - (1 : Int64)) fr to) = (0 : Int32) := (own_4 fr to hc136)
        refine own_by (fun _ k => XS.ifNo X61.here hx rfl (hb hby at_147) rfl (XT.i0_ne_f hc147) k) ?_
        show own_G _ _ _ _ _ _ _ (T61.setTop (mkF m 150 #[.val (.long fr), .second, .val (.long to), .second, .val (.long t), .second, .val (.ref b38), .val (.long pt), .second, .val (.ref b45), .val (.int (1 : Int32))] []))
        refine own_by (fun _ k => XS.iconst X61.here hx rfl (hb hby at_150) k) ?_
        show own_G _ _ _ _ _ _ _ (T61.setTop (mkF m 151 #[.val (.long fr), .second, .val (.long to), .second, .val (.long t), .second, .val (.ref b38), .val (.long pt), .second, .val (.ref b45), .val (.int (1 : Int32))] [(.int (1 : Int32))]))
        refine own_by (fun _ k => XS.goto X61.here hx rfl (pc0 := 151) (pc' := 155) rfl (hb hby at_151) (by decide) (by decide) k) ?_
        exact J155 T61 _ X61 N61 e61 
    show own_G _ _ _ _ _ _ _ (T54.setTop (mkF m 105 #[.val (.long fr), .second, .val (.long to), .second, .val (.long t), .second, .val (.ref b38), .val (.long pt), .second, .val (.ref b45), .val (.int (1 : Int32))] [(.int (own_holds fr fr to))]))
    refine own_by (fun _ k => XT.lloadN X54.here hx rfl (hb hby at_105) rfl  k) ?_
    show own_G _ _ _ _ _ _ _ (T54.setTop (mkF m 106 #[.val (.long fr), .second, .val (.long to), .second, .val (.long t), .second, .val (.ref b38), .val (.long pt), .second, .val (.ref b45), .val (.int (1 : Int32))] [(.long fr), (.int (own_holds fr fr to))]))
    refine own_by (fun _ k => XT.lloadN X54.here hx rfl (hb hby at_106) rfl  k) ?_
    show own_G _ _ _ _ _ _ _ (T54.setTop (mkF m 107 #[.val (.long fr), .second, .val (.long to), .second, .val (.long t), .second, .val (.ref b38), .val (.long pt), .second, .val (.ref b45), .val (.int (1 : Int32))] [(.long to), (.long fr), (.int (own_holds fr fr to))]))
    refine own_by (fun _ k => XT.lcmp X54.here hx rfl (hb hby at_107) rfl k) ?_
    show own_G _ _ _ _ _ _ _ (T54.setTop (mkF m 108 #[.val (.long fr), .second, .val (.long to), .second, .val (.long t), .second, .val (.ref b38), .val (.long pt), .second, .val (.ref b45), .val (.int (1 : Int32))] [(.int (XT.cmpL fr to)), (.int (own_holds fr fr to))]))
    by_cases hc108 : fr < to
    · refine own_by (fun _ k => XS.ifNo X54.here hx rfl (hb hby at_108) rfl (XT.ll_ge_f hc108) k) ?_
      show own_G _ _ _ _ _ _ _ (T54.setTop (mkF m 111 #[.val (.long fr), .second, .val (.long to), .second, .val (.long t), .second, .val (.ref b38), .val (.long pt), .second, .val (.ref b45), .val (.int (1 : Int32))] [(.int (own_holds fr fr to))]))
      refine own_by (fun _ k => XS.iconst X54.here hx rfl (hb hby at_111) k) ?_
      show own_G _ _ _ _ _ _ _ (T54.setTop (mkF m 112 #[.val (.long fr), .second, .val (.long to), .second, .val (.long t), .second, .val (.ref b38), .val (.long pt), .second, .val (.ref b45), .val (.int (1 : Int32))] [(.int (1 : Int32)), (.int (own_holds fr fr to))]))
      refine own_by (fun _ k => XS.goto X54.here hx rfl (pc0 := 112) (pc' := 116) rfl (hb hby at_112) (by decide) (by decide) k) ?_
      exact J116 T54 _ X54 N54 e54 (1 : Int32) (by simp only [hc108, if_true, if_false, ↓reduceIte])
    · refine own_by (fun _ k => XS.ifYes X54.here hx rfl (pc0 := 108) (pc' := 115) rfl (hb hby at_108) rfl (XT.ll_ge_t hc108) (by decide) (by decide) k) ?_
      show own_G _ _ _ _ _ _ _ (T54.setTop (mkF m 115 #[.val (.long fr), .second, .val (.long to), .second, .val (.long t), .second, .val (.ref b38), .val (.long pt), .second, .val (.ref b45), .val (.int (1 : Int32))] [(.int (own_holds fr fr to))]))
      refine own_by (fun _ k => XS.iconst X54.here hx rfl (hb hby at_115) k) ?_
      exact J116 T54 _ X54 N54 e54 (0 : Int32) (by simp only [hc108, if_true, if_false, ↓reduceIte])
  show own_G _ _ _ _ _ _ _ (T41.setTop (mkF m 19 #[.val (.long fr), .second, .val (.long to), .second, .val (.long t), .second, .val (.ref b38), .val (.long (t &&& (9223372036854775807 : Int64))), .second, .unset, .unset] []))
  refine own_by (fun _ k => XT.lload X41.here hx rfl (hb hby at_19) rfl  k) ?_
  show own_G _ _ _ _ _ _ _ (T41.setTop (mkF m 21 #[.val (.long fr), .second, .val (.long to), .second, .val (.long t), .second, .val (.ref b38), .val (.long (t &&& (9223372036854775807 : Int64))), .second, .unset, .unset] [(.long (t &&& (9223372036854775807 : Int64)))]))
  refine own_by (X41.ldc2Long hx hown (mvT hZ (hw _ (List.mem_of_getElem? (i := 18) rfl))) (g := (mkF m 21 #[.val (.long fr), .second, .val (.long to), .second, .val (.long t), .second, .val (.ref b38), .val (.long (t &&& (9223372036854775807 : Int64))), .second, .unset, .unset] [(.long (t &&& (9223372036854775807 : Int64)))])) rfl (hb hby at_21)) ?_
  show own_G _ _ _ _ _ _ _ (T41.setTop (mkF m 24 #[.val (.long fr), .second, .val (.long to), .second, .val (.long t), .second, .val (.ref b38), .val (.long (t &&& (9223372036854775807 : Int64))), .second, .unset, .unset] [(.long (9223372036854775807 : Int64)), (.long (t &&& (9223372036854775807 : Int64)))]))
  refine own_by (fun _ k => XT.lcmp X41.here hx rfl (hb hby at_24) rfl k) ?_
  show own_G _ _ _ _ _ _ _ (T41.setTop (mkF m 25 #[.val (.long fr), .second, .val (.long to), .second, .val (.long t), .second, .val (.ref b38), .val (.long (t &&& (9223372036854775807 : Int64))), .second, .unset, .unset] [(.int (XT.cmpL (t &&& (9223372036854775807 : Int64)) (9223372036854775807 : Int64)))]))
  by_cases hc25 : (t &&& (9223372036854775807 : Int64)) = (9223372036854775807 : Int64)
  · refine own_by (fun _ k => XS.ifNo X41.here hx rfl (hb hby at_25) rfl (XT.ll_ne_f hc25) k) ?_
    show own_G _ _ _ _ _ _ _ (T41.setTop (mkF m 28 #[.val (.long fr), .second, .val (.long to), .second, .val (.long t), .second, .val (.ref b38), .val (.long (t &&& (9223372036854775807 : Int64))), .second, .unset, .unset] []))
    refine own_by (X41.ldc2Long hx hown (mvT hZ (hw _ (List.mem_of_getElem? (i := 62) rfl))) (g := (mkF m 28 #[.val (.long fr), .second, .val (.long to), .second, .val (.long t), .second, .val (.ref b38), .val (.long (t &&& (9223372036854775807 : Int64))), .second, .unset, .unset] [])) rfl (hb hby at_28)) ?_
    show own_G _ _ _ _ _ _ _ (T41.setTop (mkF m 31 #[.val (.long fr), .second, .val (.long to), .second, .val (.long t), .second, .val (.ref b38), .val (.long (t &&& (9223372036854775807 : Int64))), .second, .unset, .unset] [(.long (9223372036854775806 : Int64))]))
    refine own_by (fun _ k => XT.lstore X41.here hx rfl (hb hby at_31) rfl (l' := #[.val (.long fr), .second, .val (.long to), .second, .val (.long t), .second, .val (.ref b38), .val (.long (9223372036854775806 : Int64)), .second, .unset, .unset]) rfl k) ?_
    exact J33 T41 _ X41 N41 e41 (9223372036854775806 : Int64) (by first | exact own_pt2 | exact own_pt _ hc25)
  · refine own_by (fun _ k => XS.ifYes X41.here hx rfl (pc0 := 25) (pc' := 33) rfl (hb hby at_25) rfl (XT.ll_ne_t hc25) (by decide) (by decide) k) ?_
    exact J33 T41 _ X41 N41 e41 (t &&& (9223372036854775807 : Int64)) (by first | exact own_pt2 | exact own_pt _ hc25)
set_option maxRecDepth 65536 in
set_option maxHeartbeats 40000000 in
theorem comes_1 {Post : Tables → Env → Array Value → State → Outcome → State → Prop} (hpost : ∀ tb e args s v u, (limb_1_1.after args s (.returned v) u = true ∧ limb_1_2.after args s (.returned v) u = true ∧ True) → FrameEnd s (.returned v) u (Jvm.fieldLocs frame_1_writes args s ++ Jvm.arrayLocs frame_1_arrays args s ++ Jvm.staticLocs frame_1_statics s) 16 128 → Post tb e args s (.returned v) u) :
    ArmFor flags0 classFile x code maxLocals ret World_1 tables_1 room_1 Calls_1 rest_1 Pre_1 Post := by
  intro l hfl _ _ p e ha hc hk s m args below hf hA hF happ hP
  obtain ⟨hcalls, hrest, hpre⟩ := hP
  obtain ⟨-, -, -, hnamed, -, -, -, hat⟩ := (Spec.applies_iff hf).mp happ
  obtain ⟨hg, hn⟩ := and_e (Cond.before_iff.mp (show (Jvm.Cond.and given_1 narrow_1).before args s = true from hpre))
  obtain ⟨gc, hg⟩ := and_e hg
  obtain ⟨g0, hg⟩ := and_e hg
  obtain ⟨g1, hg⟩ := and_e hg
  have g2 := hg
  obtain ⟨w0, w1, w2, rfl⟩ : ∃ w0 w1 w2 : Value, args = #[w0, w1, w2] := by
    have hs : args.size = 3 := by simpa [Cond.value, given_1] using gc
    obtain ⟨L⟩ := args
    match L, hs with
    | [w0, w1, w2], _ => exact ⟨w0, w1, w2, rfl⟩
  have hw := fun d (hd : d ∈ tables_1) => atoms_spec (ws := Jvm.Cond.code x code maxLocals ret :: tables_1) hat d (List.mem_cons_of_mem _ hd)
  obtain ⟨i0, ei0⟩ := isL_v g0
  obtain rfl : w0 = (.long i0) := Option.some.inj ei0
  obtain ⟨i1, ei1⟩ := isL_v g1
  obtain rfl : w1 = (.long i1) := Option.some.inj ei1
  obtain ⟨i2, ei2⟩ := isL_v g2
  obtain rfl : w2 = (.long i2) := Option.some.inj ei2
  obtain ⟨n, o, h1, h2, h3, _, L, rfl, ⟨rfl, N⟩, hq⟩ := rm0 l s _ hw tables_1 i0 i1 i2  s.heap s.heap.size (Nat.le_refl _)  p e ha hc hk s m _ below hf ((Spec.applies_iff_loose hf).mp happ).1 ⟨rfl, State.Warmed39.refl s, rfl⟩ trivial
  refine ⟨n, _, h1, h2, h3, hpost _ _ _ _ _ _ ⟨Cond.after_iff.mpr rfl, Cond.after_iff.mpr (eq_i res_at (Term.int_eval (1)) rfl), trivial⟩ ⟨hq.1, hq.2.1, (hq.2.2.sift fun y hy => Or.inr (N y hy)).mono (by decide) (by decide)⟩⟩
theorem main_1_1 : Claimed_1_1 := comes_1 fun _ _ _ _ _ _ h hF => ⟨h.1, hF⟩
theorem main_1_2 : Claimed_1_2 := comes_1 fun _ _ _ _ _ _ h hF => ⟨h.2.1, hF⟩
end Jvm.Pilot.@@N@@
namespace Jvm.Pilot.@@N@@
open Jvm Jvm.ClassFile Sem Op Lib Jvm.Free Jvm.Stand Jvm.Pilot.@@N@@.Jvm.D
/-! MADE BY PROGRAM (witnessworld.py) out of the Statement's table words and the real class files: 12 classes; the members and pool entries that the words name. The judged class is class 1, her method 1. -/
namespace start1
open Jvm.ClassFile
def u (s : String) : CpInfo := .utf8 (stringToUtf16 s)
/-- a pool by its gaps: so many unusable entries, then the entry; so many at the end -/
def gap : Nat → List CpInfo → List CpInfo
  | 0, r => r
  | n + 1, r => .unusable :: gap n r
def poolList (es : List (Nat × CpInfo)) (last : Nat) : List CpInfo := es.foldr (fun e r => gap e.1 (e.2 :: r)) (gap last [])
def pool (es : List (Nat × CpInfo)) (last : Nat) : Array CpInfo := ⟨poolList es last⟩
def fileOf (pool : Array CpInfo) (this : Nat) (attrs : Array Attribute := #[]) (ms : Array MethodInfo := #[]) (fl : Nat := 33) (sup : Nat := 0) (ifs : Array Nat := #[]) (fds : Array FieldInfo := #[]) : ClassFile where
  minorVersion := 0
  majorVersion := 65
  constantPool := pool
  accessFlags := fl
  thisClass := this
  superClass := sup
  interfaces := ifs
  fields := fds
  methods := ms
  attributes := attrs
def plain (name : String) (sup : Option ClassId) : Class where
  name := name
  kind := .ordinary
  loader := none
  accessFlags := 33
  super := sup
  interfaces := #[]
  cf := none
  fields := #[]
  methods := #[]
  instanceTypes := #[]
  staticTypes := #[]
  resolved := #[]
  callSites := []
  init := .initialized
  statics := none
  mirror := none

def pool0 : Array CpInfo := pool [(5, u "<init>"), (0, u "()V"), (1, .class_ 10), (1, u "java/lang/Object")] 113

def k0c0 : Code := { maxStack := 0, maxLocals := 1, code := object_method_1_code, exceptionTable := #[], attributes := #[] }
def k0m0 : Method := { name := "<init>", desc := "()V", sig := { parameters := [], returnType := none }, accessFlags := 1, code := some k0c0 }
/-- java/lang/Object -/
def k0 : Class := { plain "java/lang/Object" none with
  accessFlags := 33
  interfaces := #[]
  cf := some (fileOf pool0 8 #[] #[{ accessFlags := 1, nameIndex := 5, descriptorIndex := 6, attributes := #[] }] 33 0 #[] #[])
  fields := #[]
  methods := #[k0m0]
  instanceTypes := #[]
  staticTypes := #[]
  resolved := Array.replicate 124 none
  statics := none }

def pool1 : Array CpInfo := pool [(2, .class_ 4), (1, u "java/lang/Object"), (0, u "<init>"), (0, u "()V"), (0, .class_ 8), (0, u "com/example/countersight/countersight/cli/Window"), (0, .methodref 7 10), (0, .nameAndType 5 11), (0, u "(JJ)V"), (2, .long 9223372036854775807), (1, .long 9223372036854775806), (1, .class_ 19), (0, u "com/example/countersight/countersight/cli/TraceRecord"), (0, .methodref 18 21), (0, .nameAndType 5 22), (0, u "(Lcom/example/countersight/countersight/cli/TraceThread;JJJLjava/lang/String;[J)V"), (0, .methodref 7 24), (0, .nameAndType 25 26), (0, u "holds"), (0, u "(J)Z"), (0, .methodref 7 28), (0, .nameAndType 29 30), (0, u "overlaps"), (0, u "(Lcom/example/countersight/countersight/cli/TraceRecord;)Z"), (0, .long 9223372036854775808), (1, .class_ 34), (0, u "com/example/countersight/countersight/cli/WindowHoldsPinLaw"), (2, u "law"), (0, u "(JJJ)Z")] 3

def k1m0 : Method := { name := "<init>", desc := "()V", sig := { parameters := [], returnType := none }, accessFlags := 2, code := none }
def k1c1 : Code := { maxStack := 11, maxLocals := 11, code := code, exceptionTable := #[], attributes := #[] }
def k1m1 : Method := { name := "law", desc := "(JJJ)Z", sig := { parameters := [.long, .long, .long], returnType := some .boolean }, accessFlags := 9, code := some k1c1 }
/-- com/example/countersight/countersight/cli/WindowHoldsPinLaw -/
def k1 : Class := { plain "com/example/countersight/countersight/cli/WindowHoldsPinLaw" (some 0) with
  accessFlags := 49
  interfaces := #[]
  cf := some (fileOf pool1 33 #[] #[{ accessFlags := 2, nameIndex := 5, descriptorIndex := 6, attributes := #[] }, { accessFlags := 9, nameIndex := 37, descriptorIndex := 38, attributes := #[] }] 49 2 #[] #[])
  fields := #[]
  methods := #[k1m0, k1m1]
  instanceTypes := #[]
  staticTypes := #[]
  resolved := Array.replicate 42 none
  statics := none }

def pool2 : Array CpInfo := pool [(1, .methodref 2 3), (0, .class_ 4), (0, .nameAndType 5 6), (0, u "java/lang/Object"), (0, u "<init>"), (0, u "()V"), (0, .class_ 8), (0, u "java/lang/Record")] 13

def k2c0 : Code := { maxStack := 1, maxLocals := 1, code := jdk_30_method_1_code, exceptionTable := #[], attributes := #[] }
def k2m0 : Method := { name := "<init>", desc := "()V", sig := { parameters := [], returnType := none }, accessFlags := 4, code := some k2c0 }
/-- java/lang/Record -/
def k2 : Class := { plain "java/lang/Record" (some 0) with
  accessFlags := 1057
  interfaces := #[]
  cf := some (fileOf pool2 7 #[] #[{ accessFlags := 4, nameIndex := 5, descriptorIndex := 6, attributes := #[] }] 1057 2 #[] #[])
  fields := #[]
  methods := #[k2m0]
  instanceTypes := #[]
  staticTypes := #[]
  resolved := Array.replicate 22 none
  statics := none }

def pool3 : Array CpInfo := pool [(1, .methodref 2 3), (0, .class_ 4), (0, .nameAndType 5 6), (0, u "java/lang/Record"), (0, u "<init>"), (0, u "()V"), (0, .fieldref 8 9), (0, .class_ 10), (0, .nameAndType 11 12), (0, u "com/example/countersight/countersight/cli/Window"), (0, u "fromNs"), (0, u "J"), (0, .fieldref 8 14), (0, .nameAndType 15 12), (0, u "toNs"), (0, .methodref 17 18), (0, .class_ 19), (0, .nameAndType 20 21), (0, u "com/example/countersight/countersight/cli/TraceRecord"), (0, u "startNs"), (0, u "()J"), (0, .methodref 8 23), (0, .nameAndType 24 25), (0, u "end"), (0, u "(Lcom/example/countersight/countersight/cli/TraceRecord;)J"), (17, .long 9223372036854775807), (12, u "(JJ)V"), (3, .methodref 17 61), (0, .nameAndType 62 21), (0, u "durationNs"), (15, u "overlaps"), (0, u "(Lcom/example/countersight/countersight/cli/TraceRecord;)Z"), (1, u "holds"), (0, u "(J)Z")] 33

def k3c0 : Code := { maxStack := 3, maxLocals := 5, code := prog_210_method_1_code, exceptionTable := #[], attributes := #[] }
def k3m0 : Method := { name := "<init>", desc := "(JJ)V", sig := { parameters := [.long, .long], returnType := none }, accessFlags := 0, code := some k3c0 }
def k3c1 : Code := { maxStack := 4, maxLocals := 2, code := prog_210_method_3_code, exceptionTable := #[], attributes := #[] }
def k3m1 : Method := { name := "overlaps", desc := "(Lcom/example/countersight/countersight/cli/TraceRecord;)Z", sig := { parameters := [(.object "com/example/countersight/countersight/cli/TraceRecord")], returnType := some .boolean }, accessFlags := 0, code := some k3c1 }
def k3c2 : Code := { maxStack := 4, maxLocals := 3, code := prog_210_method_4_code, exceptionTable := #[], attributes := #[] }
def k3m2 : Method := { name := "holds", desc := "(J)Z", sig := { parameters := [.long], returnType := some .boolean }, accessFlags := 0, code := some k3c2 }
def k3c3 : Code := { maxStack := 4, maxLocals := 3, code := prog_210_method_11_code, exceptionTable := #[], attributes := #[] }
def k3m3 : Method := { name := "end", desc := "(Lcom/example/countersight/countersight/cli/TraceRecord;)J", sig := { parameters := [(.object "com/example/countersight/countersight/cli/TraceRecord")], returnType := some .long }, accessFlags := 8, code := some k3c3 }
/-- com/example/countersight/countersight/cli/Window -/
def k3 : Class := { plain "com/example/countersight/countersight/cli/Window" (some 2) with
  accessFlags := 48
  interfaces := #[]
  cf := some (fileOf pool3 8 #[] #[{ accessFlags := 0, nameIndex := 5, descriptorIndex := 56, attributes := #[] }, { accessFlags := 0, nameIndex := 78, descriptorIndex := 79, attributes := #[] }, { accessFlags := 0, nameIndex := 81, descriptorIndex := 82, attributes := #[] }, { accessFlags := 8, nameIndex := 24, descriptorIndex := 25, attributes := #[] }] 48 2 #[] #[{ accessFlags := 18, nameIndex := 11, descriptorIndex := 12, attributes := #[] }, { accessFlags := 18, nameIndex := 15, descriptorIndex := 12, attributes := #[] }])
  fields := #[{ name := "fromNs", type := .long, accessFlags := 18, slot := 0, constantValue := 0 }, { name := "toNs", type := .long, accessFlags := 18, slot := 1, constantValue := 0 }]
  methods := #[k3m0, k3m1, k3m2, k3m3]
  instanceTypes := #[.long, .long]
  staticTypes := #[]
  resolved := Array.replicate 116 none
  statics := none }

def pool4 : Array CpInfo := pool [(1, .class_ 2), (0, u "com/example/countersight/countersight/cli/TraceEntry"), (0, .class_ 4), (0, u "java/lang/Object")] 9

/-- com/example/countersight/countersight/cli/TraceEntry -/
def k4 : Class := { plain "com/example/countersight/countersight/cli/TraceEntry" (some 0) with
  accessFlags := 1536
  interfaces := #[]
  cf := some (fileOf pool4 1 #[] #[] 1536 3 #[] #[])
  fields := #[]
  methods := #[]
  instanceTypes := #[]
  staticTypes := #[]
  resolved := Array.replicate 14 none
  statics := none }

def pool5 : Array CpInfo := pool [(1, .methodref 2 3), (0, .class_ 4), (0, .nameAndType 5 6), (0, u "java/lang/Record"), (0, u "<init>"), (0, u "()V"), (0, .fieldref 8 9), (0, .class_ 10), (0, .nameAndType 11 12), (0, u "com/example/countersight/countersight/cli/TraceRecord"), (0, u "thread"), (0, u "Lcom/example/countersight/countersight/cli/TraceThread;"), (0, .fieldref 8 14), (0, .nameAndType 15 16), (0, u "cpu"), (0, u "J"), (0, .fieldref 8 18), (0, .nameAndType 19 16), (0, u "startNs"), (0, .fieldref 8 21), (0, .nameAndType 22 16), (0, u "durationNs"), (0, .fieldref 8 24), (0, .nameAndType 25 26), (0, u "method"), (0, u "Ljava/lang/String;"), (0, .fieldref 8 28), (0, .nameAndType 29 30), (0, u "deltas"), (0, u "[J"), (12, .class_ 44), (0, u "com/example/countersight/countersight/cli/TraceRecord$InTime"), (3, u "ORDER"), (0, u "Ljava/util/Comparator;"), (0, .class_ 51), (0, u "com/example/countersight/countersight/cli/TraceEntry"), (2, u "(Lcom/example/countersight/countersight/cli/TraceThread;JJJLjava/lang/String;[J)V"), (7, u "()J")] 29

def k5c0 : Code := { maxStack := 3, maxLocals := 10, code := prog_205_method_1_code, exceptionTable := #[], attributes := #[] }
def k5m0 : Method := { name := "<init>", desc := "(Lcom/example/countersight/countersight/cli/TraceThread;JJJLjava/lang/String;[J)V", sig := { parameters := [(.object "com/example/countersight/countersight/cli/TraceThread"), .long, .long, .long, (.object "java/lang/String"), (.array .long)], returnType := none }, accessFlags := 0, code := some k5c0 }
def k5c1 : Code := { maxStack := 2, maxLocals := 1, code := prog_205_method_7_code, exceptionTable := #[], attributes := #[] }
def k5m1 : Method := { name := "startNs", desc := "()J", sig := { parameters := [], returnType := some .long }, accessFlags := 1, code := some k5c1 }
def k5c2 : Code := { maxStack := 2, maxLocals := 1, code := prog_205_method_8_code, exceptionTable := #[], attributes := #[] }
def k5m2 : Method := { name := "durationNs", desc := "()J", sig := { parameters := [], returnType := some .long }, accessFlags := 1, code := some k5c2 }
/-- com/example/countersight/countersight/cli/TraceRecord -/
def k5 : Class := { plain "com/example/countersight/countersight/cli/TraceRecord" (some 2) with
  accessFlags := 48
  interfaces := #[4]
  cf := some (fileOf pool5 8 #[.nestMembers #[43]] #[{ accessFlags := 0, nameIndex := 5, descriptorIndex := 54, attributes := #[] }, { accessFlags := 1, nameIndex := 19, descriptorIndex := 62, attributes := #[] }, { accessFlags := 1, nameIndex := 22, descriptorIndex := 62, attributes := #[] }] 48 2 #[50] #[{ accessFlags := 18, nameIndex := 11, descriptorIndex := 12, attributes := #[] }, { accessFlags := 18, nameIndex := 15, descriptorIndex := 16, attributes := #[] }, { accessFlags := 18, nameIndex := 19, descriptorIndex := 16, attributes := #[] }, { accessFlags := 18, nameIndex := 22, descriptorIndex := 16, attributes := #[] }, { accessFlags := 18, nameIndex := 25, descriptorIndex := 26, attributes := #[] }, { accessFlags := 18, nameIndex := 29, descriptorIndex := 30, attributes := #[] }, { accessFlags := 24, nameIndex := 48, descriptorIndex := 49, attributes := #[] }])
  fields := #[{ name := "thread", type := (.object "com/example/countersight/countersight/cli/TraceThread"), accessFlags := 18, slot := 0, constantValue := 0 }, { name := "cpu", type := .long, accessFlags := 18, slot := 1, constantValue := 0 }, { name := "startNs", type := .long, accessFlags := 18, slot := 2, constantValue := 0 }, { name := "durationNs", type := .long, accessFlags := 18, slot := 3, constantValue := 0 }, { name := "method", type := (.object "java/lang/String"), accessFlags := 18, slot := 4, constantValue := 0 }, { name := "deltas", type := (.array .long), accessFlags := 18, slot := 5, constantValue := 0 }, { name := "ORDER", type := (.object "java/util/Comparator"), accessFlags := 24, slot := 0, constantValue := 0 }]
  methods := #[k5m0, k5m1, k5m2]
  instanceTypes := #[(.object "com/example/countersight/countersight/cli/TraceThread"), .long, .long, .long, (.object "java/lang/String"), (.array .long)]
  staticTypes := #[(.object "java/util/Comparator")]
  resolved := Array.replicate 92 none
  statics := none }

def pool6 : Array CpInfo := pool [(1, u "java/lang/Cloneable"), (0, .class_ 1), (0, u "java/lang/Object"), (0, .class_ 3)] 3

/-- java/lang/Cloneable -/
def k6 : Class := { plain "java/lang/Cloneable" (some 0) with
  accessFlags := 1537
  interfaces := #[]
  cf := some (fileOf pool6 2 #[] #[] 1537 4 #[] #[])
  fields := #[]
  methods := #[]
  instanceTypes := #[]
  staticTypes := #[]
  resolved := Array.replicate 8 none
  statics := none }

def pool7 : Array CpInfo := pool [(1, u "java/io/Serializable"), (0, .class_ 1), (0, u "java/lang/Object"), (0, .class_ 3)] 3

/-- java/io/Serializable -/
def k7 : Class := { plain "java/io/Serializable" (some 0) with
  accessFlags := 1537
  interfaces := #[]
  cf := some (fileOf pool7 2 #[] #[] 1537 4 #[] #[])
  fields := #[]
  methods := #[]
  instanceTypes := #[]
  staticTypes := #[]
  resolved := Array.replicate 8 none
  statics := none }

/-- the primitive byte -/
def k8 : Class := { plain "byte" none with kind := .primitive 'B', accessFlags := 0x411 }
/-- [B -/
def k9 : Class := { plain "[B" (some 0) with kind := .array 8 .byte, interfaces := #[6, 7], accessFlags := 1041 }

/-- the primitive int -/
def k10 : Class := { plain "int" none with kind := .primitive 'I', accessFlags := 0x411 }
/-- [I -/
def k11 : Class := { plain "[I" (some 0) with kind := .array 10 .int, interfaces := #[6, 7], accessFlags := 1041 }

def heap : Heap := #[]
def classes : Array Class := #[k0, k1, k2, k3, k4, k5, k6, k7, k8, k9, k10, k11]
def interned : List (Array UInt16 × Addr) := []
def slotsUsed : Nat := 0
def theMethod : MethodId := ⟨1, 1⟩
def args0 : Array Value := #[.long 5, .long 5, .long 5]
def aboutOver (below : List Frame) : State where
  vm := { classes := classes, interned := interned.toArray }
  heap := heap
  slotsUsed := slotsUsed
  threads := #[{ frames := .invoking theMethod args0 :: below }]
def below0 : List Frame := [.native { method := ⟨0, 0⟩, args := #[] }]
def about1 : State := aboutOver below0
def p0 : Program := .bare "" "" ""
def e0 : Env := launch0.env 0 0 0
theorem w_frames : about1.frames = Frame.invoking theMethod args0 :: below0 := rfl
set_option maxRecDepth 65536 in
theorem w_args : argsFit about1.vm theMethod args0 = true := by decide +kernel
set_option maxRecDepth 65536 in
theorem w_heap : heapFits about1 = true := by decide +kernel
set_option maxRecDepth 65536 in
theorem w_runnable : about1.curStatus? = some .runnable := by decide +kernel
set_option maxRecDepth 65536 in
theorem w_alone : about1.alone = true := by decide +kernel
set_option maxRecDepth 65536 in
theorem w_named : about1.methodNamed? x = some theMethod := by decide +kernel
set_option maxRecDepth 65536 in
theorem w_hears : about1.hears theMethod below0 = true := by decide +kernel
set_option maxRecDepth 65536 in
theorem w_ripe : about1.ripe theMethod args0 below0 = true := by decide +kernel
theorem w_running : about1.status = .running := rfl
set_option maxRecDepth 65536 in
theorem w_room : about1.hasRoom e0.platform room_1 = true :=
  launch0.hasRoom_least _ room_1 (by decide +kernel) (by decide +kernel) (by decide +kernel) (by decide +kernel) (by decide +kernel) (by decide +kernel)
theorem allAtoms_all (ts : List Jvm.Cond) (a : Array Jvm.Value) (st : Jvm.State) : (allAtoms ts).before a st = ts.all (fun c => c.before a st) := by
  induction ts with
  | nil => rfl
  | cons c t ih =>
    show (Jvm.Cond.and c (allAtoms t)).before a st = _
    rw [Jvm.Cond.before_and, ih, List.all_cons]
def words1 : List Jvm.Cond := Jvm.Cond.code x code maxLocals ret :: tables_1
/-- a 'code' word, met by the world's own term for the bytes: nothing is compared byte by byte -/
theorem code_word {y : MethodName} {bytes : ByteArray} {mx : Nat} {rt : Option FieldType} {a : Array Value} {s : State} {m : MethodId} {meth : Method} {c : Code} (h1 : s.methodNamed? y = some m) (h2 : s.vm.method? m = some meth) (h3 : meth.code = some c) (h4 : c.code = bytes)
    (h5 : (c.maxLocals == mx && c.exceptionTable.isEmpty && decide (c.maxStack ≤ mostOperands) && decide (meth.sig.returnType = rt) && !meth.locks && decide (parseMethodDescriptor y.desc = some meth.sig)) = true) : (Jvm.Cond.code y bytes mx rt).before a s = true := by
  simp only [Bool.and_eq_true, beq_iff_eq, Bool.not_eq_true', decide_eq_true_eq] at h5
  obtain ⟨⟨⟨⟨⟨g1, g2⟩, g3⟩, g4⟩, g5⟩, g6⟩ := h5
  simp [Cond.before, Cond.holds, Cond.value, h1, h2, h3, h4, g1, g2, g3, g4, g5, g6]
def isCode : Jvm.Cond → Bool
  | .code _ _ _ _ => true
  | _ => false
theorem all_split {L : List Jvm.Cond} {P : Jvm.Cond → Bool} (h1 : L.all (fun c => isCode c || P c) = true) (h2 : ∀ c ∈ L.filter isCode, P c = true) : L.all P = true := by
  refine List.all_eq_true.mpr fun c hc => ?_
  have h := List.all_eq_true.mp h1 c hc
  rcases Bool.eq_false_or_eq_true (isCode c) with hi | hi
  · exact h2 c (List.mem_filter.mpr ⟨hc, hi⟩)
  · simpa [hi] using h
set_option maxRecDepth 65536 in
theorem w_c0 : (Jvm.Cond.code x code maxLocals ret).before args0 about1 = true := code_word (m := ⟨1, 1⟩) (meth := k1m1) (c := k1c1) (by decide +kernel) rfl rfl rfl (by decide +kernel)
set_option maxRecDepth 65536 in
theorem w_c1 : (Jvm.Cond.code ({ cls := "com/example/countersight/countersight/cli/Window", name := "<init>", desc := "(JJ)V" } : Jvm.MethodName) prog_210_method_1_code (5 : Nat) (Option.none : Option Jvm.ClassFile.FieldType)).before args0 about1 = true := code_word (m := ⟨3, 0⟩) (meth := k3m0) (c := k3c0) (by decide +kernel) rfl rfl rfl (by decide +kernel)
set_option maxRecDepth 65536 in
theorem w_c2 : (Jvm.Cond.code ({ cls := "java/lang/Record", name := "<init>", desc := "()V" } : Jvm.MethodName) jdk_30_method_1_code (1 : Nat) (Option.none : Option Jvm.ClassFile.FieldType)).before args0 about1 = true := code_word (m := ⟨2, 0⟩) (meth := k2m0) (c := k2c0) (by decide +kernel) rfl rfl rfl (by decide +kernel)
set_option maxRecDepth 65536 in
theorem w_c3 : (Jvm.Cond.code ({ cls := "java/lang/Object", name := "<init>", desc := "()V" } : Jvm.MethodName) object_method_1_code (1 : Nat) (Option.none : Option Jvm.ClassFile.FieldType)).before args0 about1 = true := code_word (m := ⟨0, 0⟩) (meth := k0m0) (c := k0c0) (by decide +kernel) rfl rfl rfl (by decide +kernel)
set_option maxRecDepth 65536 in
theorem w_c4 : (Jvm.Cond.code ({ cls := "com/example/countersight/countersight/cli/TraceRecord", name := "<init>", desc := "(Lcom/example/countersight/countersight/cli/TraceThread;JJJLjava/lang/String;[J)V" } : Jvm.MethodName) prog_205_method_1_code (10 : Nat) (Option.none : Option Jvm.ClassFile.FieldType)).before args0 about1 = true := code_word (m := ⟨5, 0⟩) (meth := k5m0) (c := k5c0) (by decide +kernel) rfl rfl rfl (by decide +kernel)
set_option maxRecDepth 65536 in
theorem w_c5 : (Jvm.Cond.code ({ cls := "com/example/countersight/countersight/cli/Window", name := "holds", desc := "(J)Z" } : Jvm.MethodName) prog_210_method_4_code (3 : Nat) (Option.some Jvm.ClassFile.FieldType.boolean)).before args0 about1 = true := code_word (m := ⟨3, 2⟩) (meth := k3m2) (c := k3c2) (by decide +kernel) rfl rfl rfl (by decide +kernel)
set_option maxRecDepth 65536 in
theorem w_c6 : (Jvm.Cond.code ({ cls := "com/example/countersight/countersight/cli/Window", name := "overlaps", desc := "(Lcom/example/countersight/countersight/cli/TraceRecord;)Z" } : Jvm.MethodName) prog_210_method_3_code (2 : Nat) (Option.some Jvm.ClassFile.FieldType.boolean)).before args0 about1 = true := code_word (m := ⟨3, 1⟩) (meth := k3m1) (c := k3c1) (by decide +kernel) rfl rfl rfl (by decide +kernel)
set_option maxRecDepth 65536 in
theorem w_c7 : (Jvm.Cond.code ({ cls := "com/example/countersight/countersight/cli/TraceRecord", name := "startNs", desc := "()J" } : Jvm.MethodName) prog_205_method_7_code (1 : Nat) (Option.some Jvm.ClassFile.FieldType.long)).before args0 about1 = true := code_word (m := ⟨5, 1⟩) (meth := k5m1) (c := k5c1) (by decide +kernel) rfl rfl rfl (by decide +kernel)
set_option maxRecDepth 65536 in
theorem w_c8 : (Jvm.Cond.code ({ cls := "com/example/countersight/countersight/cli/Window", name := "end", desc := "(Lcom/example/countersight/countersight/cli/TraceRecord;)J" } : Jvm.MethodName) prog_210_method_11_code (3 : Nat) (Option.some Jvm.ClassFile.FieldType.long)).before args0 about1 = true := code_word (m := ⟨3, 3⟩) (meth := k3m3) (c := k3c3) (by decide +kernel) rfl rfl rfl (by decide +kernel)
set_option maxRecDepth 65536 in
theorem w_c9 : (Jvm.Cond.code ({ cls := "com/example/countersight/countersight/cli/TraceRecord", name := "durationNs", desc := "()J" } : Jvm.MethodName) prog_205_method_8_code (1 : Nat) (Option.some Jvm.ClassFile.FieldType.long)).before args0 about1 = true := code_word (m := ⟨5, 2⟩) (meth := k5m2) (c := k5c2) (by decide +kernel) rfl rfl rfl (by decide +kernel)
def codes1 : List Jvm.Cond := [Jvm.Cond.code x code maxLocals ret, Jvm.Cond.code ({ cls := "com/example/countersight/countersight/cli/Window", name := "<init>", desc := "(JJ)V" } : Jvm.MethodName) prog_210_method_1_code (5 : Nat) (Option.none : Option Jvm.ClassFile.FieldType), Jvm.Cond.code ({ cls := "java/lang/Record", name := "<init>", desc := "()V" } : Jvm.MethodName) jdk_30_method_1_code (1 : Nat) (Option.none : Option Jvm.ClassFile.FieldType), Jvm.Cond.code ({ cls := "java/lang/Object", name := "<init>", desc := "()V" } : Jvm.MethodName) object_method_1_code (1 : Nat) (Option.none : Option Jvm.ClassFile.FieldType), Jvm.Cond.code ({ cls := "com/example/countersight/countersight/cli/TraceRecord", name := "<init>", desc := "(Lcom/example/countersight/countersight/cli/TraceThread;JJJLjava/lang/String;[J)V" } : Jvm.MethodName) prog_205_method_1_code (10 : Nat) (Option.none : Option Jvm.ClassFile.FieldType), Jvm.Cond.code ({ cls := "com/example/countersight/countersight/cli/Window", name := "holds", desc := "(J)Z" } : Jvm.MethodName) prog_210_method_4_code (3 : Nat) (Option.some Jvm.ClassFile.FieldType.boolean), Jvm.Cond.code ({ cls := "com/example/countersight/countersight/cli/Window", name := "overlaps", desc := "(Lcom/example/countersight/countersight/cli/TraceRecord;)Z" } : Jvm.MethodName) prog_210_method_3_code (2 : Nat) (Option.some Jvm.ClassFile.FieldType.boolean), Jvm.Cond.code ({ cls := "com/example/countersight/countersight/cli/TraceRecord", name := "startNs", desc := "()J" } : Jvm.MethodName) prog_205_method_7_code (1 : Nat) (Option.some Jvm.ClassFile.FieldType.long), Jvm.Cond.code ({ cls := "com/example/countersight/countersight/cli/Window", name := "end", desc := "(Lcom/example/countersight/countersight/cli/TraceRecord;)J" } : Jvm.MethodName) prog_210_method_11_code (3 : Nat) (Option.some Jvm.ClassFile.FieldType.long), Jvm.Cond.code ({ cls := "com/example/countersight/countersight/cli/TraceRecord", name := "durationNs", desc := "()J" } : Jvm.MethodName) prog_205_method_8_code (1 : Nat) (Option.some Jvm.ClassFile.FieldType.long)]
set_option maxRecDepth 65536 in
theorem codes_eq : words1.filter isCode = codes1 := rfl
theorem w_codes : ∀ c ∈ words1.filter isCode, c.before args0 about1 = true := by
  rw [codes_eq]
  intro c hc
  simp only [codes1, List.mem_cons, List.not_mem_nil, or_false] at hc
  rcases hc with rfl | rfl | rfl | rfl | rfl | rfl | rfl | rfl | rfl | rfl
  · exact w_c0
  · exact w_c1
  · exact w_c2
  · exact w_c3
  · exact w_c4
  · exact w_c5
  · exact w_c6
  · exact w_c7
  · exact w_c8
  · exact w_c9
set_option maxRecDepth 65536 in
theorem w_t1 : (words1.take 24).all (fun c => isCode c || c.before args0 about1) = true := by decide +kernel
set_option maxRecDepth 65536 in
theorem w_t2 : ((words1.drop 24).take 24).all (fun c => isCode c || c.before args0 about1) = true := by decide +kernel
set_option maxRecDepth 65536 in
theorem w_t3 : ((words1.drop 24).drop 24).all (fun c => isCode c || c.before args0 about1) = true := by decide +kernel
theorem w_tables : (allAtoms (Jvm.Cond.code x code maxLocals ret :: tables_1)).before args0 about1 = true := by
  rw [allAtoms_all]
  show words1.all (fun c => c.before args0 about1) = true
  refine all_split ?_ w_codes
  rw [← List.take_append_drop 24 words1, List.all_append, w_t1, ← List.take_append_drop 24 (words1.drop 24), List.all_append, w_t2, w_t3]
  rfl
set_option maxRecDepth 65536 in
theorem w_case : (Jvm.Cond.and given_1 narrow_1).before args0 about1 = true := by decide +kernel
theorem w_applies : (headSpec (Jvm.Cond.code x code maxLocals ret :: tables_1) room_1).applies x e0.platform about1 = true :=
  (Spec.applies_iff w_frames).mpr ⟨w_running, w_runnable, w_alone, w_named, w_hears, w_ripe, w_room, w_tables⟩
theorem atStart : AtStart classFile x code maxLocals ret World_1 tables_1 room_1 Calls_1 rest_1 Pre_1 launch0 p0 e0 about1 theMethod args0 below0 :=
  ⟨lists_1, trivial, launch0.admits_env _ _ _, launch0.least_env, fairChoices_fair.cas, fairChoices_fair.clock, w_frames, w_args, w_heap, w_applies, trivial, trivial, w_case⟩
end start1
theorem witness_1 : WitnessClaimed_1 := ⟨start1.p0, start1.e0, start1.about1, start1.theMethod, start1.args0, start1.below0, start1.atStart⟩
end Jvm.Pilot.@@N@@
