import JvmDerived
import JvmDerived.Pilot.@@N@@Statement
import JvmDerived.Pilot.@@N@@Code
set_option linter.unusedVariables false
set_option linter.unusedSimpArgs false
namespace Jvm.RoadKit
open Sem ClassFile Op Lib Jvm.Stand Jvm.Free Jvm.LawKit
section New
variable {p : Program} {l : Launch} {e : Env} {R : Room} {s : State} {m : MethodId} {args : Array Value} {below : List Frame} {meth : Method} {c : Code} {T : State} {locs : List Loc} {cells slots : Nat}
theorem retI (X : Stand p l e R s m args below meth c T locs cells slots) (hx : p.tables.exec = Jvm.exec) {pc : Nat} {Ls : Array Slot} {z : Int32} {rest : List Value} (hret : meth.sig.returnType = some .int) (hd : decode c.code pc = .ok (.ireturn, 1)) {fs : List Frame}
    (hl : ∀ (f : JFrame) (acts : List Action), f.method = m → f.locked = none → f.entered = [] → (doReturn e (T.setTop f) acts (some (.int z))).1 = T.setFrames fs) : Steps p.tables e below (T.setTop (mkF m pc Ls (.int z :: rest))) (T.setFrames fs) := by
  have hm' : T.vm.method? m = some meth := X.method'
  have hn : narrow .int (.int z) = .int z := rfl
  show Steps p.tables e below (T.setTop { method := m, pc := pc, locals := Ls, stack := _ :: rest, locked := none }) _
  jvm_step X.here [X.here.top, hx, hd, hm', hret, hn]
  first | (intro acts; rw [hl _ acts rfl rfl rfl]) | rw [hl _ _ rfl rfl rfl]
  exact Steps.refl _
/-- the run from A comes to its end, and there Q holds -/
def own_G (tb : Tables) (e : Env) (below : List Frame) (s : State) (Q : Option Value → Heap → List Loc → Prop) (C S : Nat) (A : State) : Prop :=
  ∃ s₂ o, Steps tb e below A s₂ ∧ s₂.status = .running ∧ Ended s₂ below o ∧ ∃ v L, o = .returned v ∧ Q v s₂.heap L ∧ FrameEnd s o s₂ L C S
theorem own_by {tb : Tables} {Q : Option Value → Heap → List Loc → Prop} {C S : Nat} {A B : State} (st : ∀ t, Steps tb e below B t → Steps tb e below A t) (k : own_G tb e below s Q C S B) : own_G tb e below s Q C S A := by
  obtain ⟨s₂, o, h, r⟩ := k
  exact ⟨s₂, o, st _ h, r⟩
theorem own_end (X : Stand p l e R s m args below meth c T locs cells slots) {v : Option Value} (hv : meth.sig.returnType = none → v = none) (hlk : meth.locks = false) {Q : Option Value → Heap → List Loc → Prop} {C S : Nat} {A : State}
    (st : ∀ fs, (∀ (f : JFrame) (acts : List Action), f.method = m → f.locked = none → f.entered = [] → (doReturn e (T.setTop f) acts v).1 = T.setFrames fs) → Steps p.tables e below A (T.setFrames fs))
    (hQ : Q v T.heap locs) (hc : cells ≤ C) (hs : slots ≤ S) : own_G p.tables e below s Q C S A := by
  obtain ⟨fs, hr, hrun, hended, hW, hsame⟩ := X.leave hv hlk
  exact ⟨_, _, st fs hr, hrun, hended, _, _, rfl, hQ, ⟨_, rfl⟩, hW, hsame.mono hc hs⟩
theorem own_lremM {tb : Tables} [Ours tb] {target : State} {g : JFrame} (h : At T m c below) (hx : tb.exec = Jvm.exec) (hg : g.method = m) {x y : Int64} {rest : List Value} (hd : decode c.code g.pc = .ok (.lrem, 1)) (hs : g.stack = .long y :: .long x :: rest) (hy : y ≠ 0)
    (hr : Steps tb e below (T.setTop { g with pc := g.pc + 1, stack := .long (x % y) :: rest }) target) : Steps tb e below (T.setTop g) target := by
  have q : x - x / y * y = x % y := lrem_mod x y
  exact XT.lrem h hx hg hd hs hy (by rw [q]; exact hr)
end New
end Jvm.RoadKit
namespace Jvm.Pilot.@@N@@
open Jvm Jvm.ClassFile Sem Op Lib Jvm.Free Jvm.Stand Jvm.LawKit Jvm.RoadKit Bundle Jvm.Pilot.@@N@@.Jvm.D
def own_pick (k raw base : Int32) : Int32 := if k = (0 : Int32) then 0 else if k = (1 : Int32) then 2147483647 else if k = (2 : Int32) then raw &&& 2147483647 else if k = (3 : Int32) then base else if k = (4 : Int32) then (if base = (2147483647 : Int32) then 0 else base + 1) else if k = (5 : Int32) then (if (0 : Int32) < base then base - 1 else 0) else if k = (6 : Int32) then 1 else raw &&& 2147483647
def own_passes (pos : Int64) (idx : Int32) (sp : Int64) (si : Int32) : Int32 := if sp < pos then 1 else if sp = pos then (if idx = (2147483647 : Int32) then 1 else if (0 : Int32) < si then (if idx < si then 0 else 1) else 0) else 0
def own_last (si : Int32) : Int32 := if si = (0 : Int32) then 2147483647 else si
def own_exp (pos : Int64) (idx : Int32) (sp : Int64) (la : Int32) : Int32 := if sp < pos then 1 else if sp = pos then (if idx < la then 0 else 1) else 0
theorem own_mx : (2147483647 : Int32).toInt = 2147483647 := by decide
theorem own_k0 : (0 : Int32).toInt = 0 := by decide
theorem own_k1 : (1 : Int32).toInt = 1 := by decide
theorem own_msk (x : Int32) : ¬ (x &&& (2147483647 : Int32)) < (0 : Int32) := by
  have h := c_mask x (2147483647 : Int32) 31 (by decide) (by decide)
  rw [Int32.lt_iff_toInt_lt]; have := own_k0; omega
theorem own_pick_nn (k raw base : Int32) (h : ¬ base < (0 : Int32)) : ¬ own_pick k raw base < (0 : Int32) := by
  have m := own_msk raw
  have r := rng32 base
  have a1 := c_iadd base 1
  have a2 := c_isub base 1
  have r1 := rng32 (base + 1)
  have r2 := rng32 (base - 1)
  have q0 := own_k0
  have q1 := own_k1
  have q2 := own_mx
  unfold own_pick
  split
  · decide
  split
  · decide
  split
  · exact m
  split
  · exact h
  split
  · split
    · decide
    · rename_i z
      rw [← Int32.toInt_inj] at z
      rw [Int32.lt_iff_toInt_lt] at h ⊢; omega
  split
  · split
    · rename_i z
      rw [Int32.lt_iff_toInt_lt] at h z ⊢; omega
    · decide
  split
  · decide
  · exact m
theorem own_same (pos : Int64) (idx : Int32) (sp : Int64) (si : Int32) (h : ¬ si < (0 : Int32)) : own_passes pos idx sp si = own_exp pos idx sp (own_last si) := by
  have r := rng32 idx
  have r2 := rng32 si
  have q0 := own_k0
  have q2 := own_mx
  unfold own_passes own_exp own_last
  by_cases a : sp < pos
  · rw [if_pos a, if_pos a]
  · rw [if_neg a, if_neg a]
    by_cases b : sp = pos
    · rw [if_pos b, if_pos b]
      simp only [← Int32.toInt_inj, Int32.lt_iff_toInt_lt, q0, q2] at h ⊢
      by_cases d : si.toInt = 0
      · rw [if_pos d]
        by_cases g : idx.toInt = 2147483647
        · rw [if_pos g, if_neg (by omega)]
        · rw [if_neg g, if_neg (by omega), if_pos (by omega)]
      · rw [if_neg d]
        by_cases g : idx.toInt = 2147483647
        · rw [if_pos g, if_neg (by omega)]
        · rw [if_neg g, if_pos (by omega)]
    · rw [if_neg b, if_neg b]
theorem own_d1_0 : decode method_2_code 0 = .ok (.iload_n 1, 1) := by decide +kernel
theorem own_d1_1 : decode method_2_code 1 = .ok (.ldc 7, 2) := by decide +kernel
theorem own_d1_3 : decode method_2_code 3 = .ok (.iand, 1) := by decide +kernel
theorem own_d1_4 : decode method_2_code 4 = .ok (.istore_n 3, 1) := by decide +kernel
theorem own_d1_5 : decode method_2_code 5 = .ok (.iload_n 0, 1) := by decide +kernel
theorem own_d1_6 : decode method_2_code 6 = .ok (.ifCond .ne 5, 3) := by decide +kernel
theorem own_d1_9 : decode method_2_code 9 = .ok (.iconst 0, 1) := by decide +kernel
theorem own_d1_10 : decode method_2_code 10 = .ok (.ireturn, 1) := by decide +kernel
theorem own_d1_11 : decode method_2_code 11 = .ok (.iload_n 0, 1) := by decide +kernel
theorem own_d1_12 : decode method_2_code 12 = .ok (.iconst 1, 1) := by decide +kernel
theorem own_d1_13 : decode method_2_code 13 = .ok (.if_icmp .ne 6, 3) := by decide +kernel
theorem own_d1_16 : decode method_2_code 16 = .ok (.ldc 7, 2) := by decide +kernel
theorem own_d1_18 : decode method_2_code 18 = .ok (.ireturn, 1) := by decide +kernel
theorem own_d1_19 : decode method_2_code 19 = .ok (.iload_n 0, 1) := by decide +kernel
theorem own_d1_20 : decode method_2_code 20 = .ok (.iconst 2, 1) := by decide +kernel
theorem own_d1_21 : decode method_2_code 21 = .ok (.if_icmp .ne 5, 3) := by decide +kernel
theorem own_d1_24 : decode method_2_code 24 = .ok (.iload_n 3, 1) := by decide +kernel
theorem own_d1_25 : decode method_2_code 25 = .ok (.ireturn, 1) := by decide +kernel
theorem own_d1_26 : decode method_2_code 26 = .ok (.iload_n 0, 1) := by decide +kernel
theorem own_d1_27 : decode method_2_code 27 = .ok (.iconst 3, 1) := by decide +kernel
theorem own_d1_28 : decode method_2_code 28 = .ok (.if_icmp .ne 5, 3) := by decide +kernel
theorem own_d1_31 : decode method_2_code 31 = .ok (.iload_n 2, 1) := by decide +kernel
theorem own_d1_32 : decode method_2_code 32 = .ok (.ireturn, 1) := by decide +kernel
theorem own_d1_33 : decode method_2_code 33 = .ok (.iload_n 0, 1) := by decide +kernel
theorem own_d1_34 : decode method_2_code 34 = .ok (.iconst 4, 1) := by decide +kernel
theorem own_d1_35 : decode method_2_code 35 = .ok (.if_icmp .ne 17, 3) := by decide +kernel
theorem own_d1_38 : decode method_2_code 38 = .ok (.iload_n 2, 1) := by decide +kernel
theorem own_d1_39 : decode method_2_code 39 = .ok (.ldc 7, 2) := by decide +kernel
theorem own_d1_41 : decode method_2_code 41 = .ok (.if_icmp .ne 7, 3) := by decide +kernel
theorem own_d1_44 : decode method_2_code 44 = .ok (.iconst 0, 1) := by decide +kernel
theorem own_d1_45 : decode method_2_code 45 = .ok (.goto 6, 3) := by decide +kernel
theorem own_d1_51 : decode method_2_code 51 = .ok (.ireturn, 1) := by decide +kernel
theorem own_d1_48 : decode method_2_code 48 = .ok (.iload_n 2, 1) := by decide +kernel
theorem own_d1_49 : decode method_2_code 49 = .ok (.iconst 1, 1) := by decide +kernel
theorem own_d1_50 : decode method_2_code 50 = .ok (.iadd, 1) := by decide +kernel
theorem own_d1_52 : decode method_2_code 52 = .ok (.iload_n 0, 1) := by decide +kernel
theorem own_d1_53 : decode method_2_code 53 = .ok (.iconst 5, 1) := by decide +kernel
theorem own_d1_54 : decode method_2_code 54 = .ok (.if_icmp .ne 15, 3) := by decide +kernel
theorem own_d1_57 : decode method_2_code 57 = .ok (.iload_n 2, 1) := by decide +kernel
theorem own_d1_58 : decode method_2_code 58 = .ok (.ifCond .le 9, 3) := by decide +kernel
theorem own_d1_61 : decode method_2_code 61 = .ok (.iload_n 2, 1) := by decide +kernel
theorem own_d1_62 : decode method_2_code 62 = .ok (.iconst 1, 1) := by decide +kernel
theorem own_d1_63 : decode method_2_code 63 = .ok (.isub, 1) := by decide +kernel
theorem own_d1_64 : decode method_2_code 64 = .ok (.goto 4, 3) := by decide +kernel
theorem own_d1_68 : decode method_2_code 68 = .ok (.ireturn, 1) := by decide +kernel
theorem own_d1_67 : decode method_2_code 67 = .ok (.iconst 0, 1) := by decide +kernel
theorem own_d1_69 : decode method_2_code 69 = .ok (.iload_n 0, 1) := by decide +kernel
theorem own_d1_70 : decode method_2_code 70 = .ok (.bipush 6, 2) := by decide +kernel
theorem own_d1_72 : decode method_2_code 72 = .ok (.if_icmp .ne 5, 3) := by decide +kernel
theorem own_d1_75 : decode method_2_code 75 = .ok (.iconst 1, 1) := by decide +kernel
theorem own_d1_76 : decode method_2_code 76 = .ok (.ireturn, 1) := by decide +kernel
theorem own_d1_77 : decode method_2_code 77 = .ok (.iload_n 3, 1) := by decide +kernel
theorem own_d1_78 : decode method_2_code 78 = .ok (.ireturn, 1) := by decide +kernel
theorem own_pn0 : plainName "com/example/inua/inua/ReadingPositionPassesPinLaw" = true := by first | (simp [plainName, overriddenIn]; done) | decide +kernel
theorem own_ef1 (m : MethodId) (x0 : Int32) (x1 : Int32) (x2 : Int32) : entryFrame m #[(.int x0), (.int x1), (.int x2)] 4 = mkF m 0 #[.val (.int x0), .val (.int x1), .val (.int x2), .unset] [] := by first | (simp [entryFrame, mkF, argsToLocals, Value.category]; done) | rfl
def own_Q1 (Z : State) (p0 : Int32) (p1 : Int32) (p2 : Int32) (h0 : Heap) (n0 : Nat) (v : Option Value) (h : Heap) (L : List Loc) : Prop := v = some (.int (own_pick p0 p1 p2)) ∧ Fr n0 L ∧ h = h0
set_option maxRecDepth 65536 in
set_option maxHeartbeats 40000000 in
theorem rm1 (l : Launch) (Z : State) (aw : Array Value) (hw : ∀ d ∈ tables_1, d.before aw Z = true) (ws : List Jvm.Cond) (p0 : Int32) (p1 : Int32) (p2 : Int32) (h0 : Heap) (n0 : Nat) (Z0 : n0 ≤ h0.size) :
    MetFree l (⟨"com/example/inua/inua/ReadingPositionPassesPinLaw", "pickIndex", "(III)I"⟩ : MethodName) (head1 (Jvm.Cond.code (⟨"com/example/inua/inua/ReadingPositionPassesPinLaw", "pickIndex", "(III)I"⟩ : MethodName) method_2_code 4 (some .int) :: ws) ({ frames := 0, cells := 0, slots := 0, locals := 0 } : Room)) (fun a U => a = #[(.int p0), (.int p1), (.int p2)] ∧ Z.Warmed39 U.vm ∧ U.heap = h0) (fun _ _ _ _ _ => True) (fun _ U o U' => ∃ v L, o = .returned v ∧ own_Q1 Z p0 p1 p2 h0 n0 v U'.heap L ∧ FrameEnd U o U' L ({ frames := 0, cells := 0, slots := 0, locals := 0 } : Room).cells ({ frames := 0, cells := 0, slots := 0, locals := 0 } : Room).slots) := by
  refine MetFree.of_bodySF (plainFor_of_name own_pn0) hisR ?_
  intro p e s m args below meth c s₁ Bd hml0 hP hK
  obtain ⟨rfl, hZ, hh⟩ := hP
  have hx := Bd.exec
  have hby := Bd.bytes
  have hml : c.maxLocals = 4 := hml0
  have hown : s.vm.findClass "com/example/inua/inua/ReadingPositionPassesPinLaw" = some m.cls := findClass_of_methodNamed Bd.named
  have hnm := (name_of_methodNamed Bd.named Bd.method).1
  have X0 : Stand p l e ({ frames := 0, cells := 0, slots := 0, locals := 0 } : Room) s m #[(.int p0), (.int p1), (.int p2)] below meth c s₁ [] 0 0 := Stand.of_body Bd
  have e0 : s₁.heap = h0 := by rw [← hh, Bd.state]; rfl
  have N0 := Fr.nil n0
  show own_G p.tables e below s (own_Q1 Z p0 p1 p2 h0 n0) ({ frames := 0, cells := 0, slots := 0, locals := 0 } : Room).cells ({ frames := 0, cells := 0, slots := 0, locals := 0 } : Room).slots (s₁.setTop (entryFrame m #[(.int p0), (.int p1), (.int p2)] 4))
  refine own_by (fun _ k => castTop (own_ef1 m p0 p1 p2) k) ?_
  show own_G _ _ _ _ _ _ _ (s₁.setTop (mkF m 0 #[.val (.int p0), .val (.int p1), .val (.int p2), .unset] []))
  refine own_by (fun _ k => XS.iloadN X0.here hx rfl (hb hby own_d1_0) rfl  k) ?_
  show own_G _ _ _ _ _ _ _ (s₁.setTop (mkF m 1 #[.val (.int p0), .val (.int p1), .val (.int p2), .unset] [(.int p1)]))
  refine own_by (X0.ldcInt hx hown (mvT hZ (hw _ (List.mem_of_getElem? (i := 4) rfl))) (g := (mkF m 1 #[.val (.int p0), .val (.int p1), .val (.int p2), .unset] [(.int p1)])) rfl (hb hby own_d1_1)) ?_
  show own_G _ _ _ _ _ _ _ (s₁.setTop (mkF m 3 #[.val (.int p0), .val (.int p1), .val (.int p2), .unset] [(.int (2147483647 : Int32)), (.int p1)]))
  refine own_by (fun _ k => XS.iand X0.here hx rfl (hb hby own_d1_3) rfl k) ?_
  show own_G _ _ _ _ _ _ _ (s₁.setTop (mkF m 4 #[.val (.int p0), .val (.int p1), .val (.int p2), .unset] [(.int (p1 &&& (2147483647 : Int32)))]))
  refine own_by (fun _ k => XS.istoreN X0.here hx rfl (hb hby own_d1_4) rfl (l' := #[.val (.int p0), .val (.int p1), .val (.int p2), .val (.int (p1 &&& (2147483647 : Int32)))]) rfl k) ?_
  show own_G _ _ _ _ _ _ _ (s₁.setTop (mkF m 5 #[.val (.int p0), .val (.int p1), .val (.int p2), .val (.int (p1 &&& (2147483647 : Int32)))] []))
  refine own_by (fun _ k => XS.iloadN X0.here hx rfl (hb hby own_d1_5) rfl  k) ?_
  show own_G _ _ _ _ _ _ _ (s₁.setTop (mkF m 6 #[.val (.int p0), .val (.int p1), .val (.int p2), .val (.int (p1 &&& (2147483647 : Int32)))] [(.int p0)]))
  by_cases hc6 : p0 = (0 : Int32)
  · refine own_by (fun _ k => XS.ifNo X0.here hx rfl (hb hby own_d1_6) rfl (XT.i0_ne_f hc6) k) ?_
    show own_G _ _ _ _ _ _ _ (s₁.setTop (mkF m 9 #[.val (.int p0), .val (.int p1), .val (.int p2), .val (.int (p1 &&& (2147483647 : Int32)))] []))
    refine own_by (fun _ k => XS.iconst X0.here hx rfl (hb hby own_d1_9) k) ?_
    show own_G _ _ _ _ _ _ _ (s₁.setTop (mkF m 10 #[.val (.int p0), .val (.int p1), .val (.int p2), .val (.int (p1 &&& (2147483647 : Int32)))] [(.int (0 : Int32))]))
    exact own_end X0 (v := some (.int (0 : Int32))) (fun h => by rw [Bd.returns] at h; cases h) (BodyLoose.notSynchronized Bd) (fun fs hr => retI X0 hx Bd.returns (hb hby own_d1_10) hr) (by rw [e0]; exact ⟨(by simp only [own_pick, if_pos hc6]; first | done | rfl), N0, rfl⟩) (by decide) (by decide)
  · refine own_by (fun _ k => XS.ifYes X0.here hx rfl (pc0 := 6) (pc' := 11) rfl (hb hby own_d1_6) rfl (XT.i0_ne_t hc6) (by decide) (by decide) k) ?_
    show own_G _ _ _ _ _ _ _ (s₁.setTop (mkF m 11 #[.val (.int p0), .val (.int p1), .val (.int p2), .val (.int (p1 &&& (2147483647 : Int32)))] []))
    refine own_by (fun _ k => XS.iloadN X0.here hx rfl (hb hby own_d1_11) rfl  k) ?_
    show own_G _ _ _ _ _ _ _ (s₁.setTop (mkF m 12 #[.val (.int p0), .val (.int p1), .val (.int p2), .val (.int (p1 &&& (2147483647 : Int32)))] [(.int p0)]))
    refine own_by (fun _ k => XS.iconst X0.here hx rfl (hb hby own_d1_12) k) ?_
    show own_G _ _ _ _ _ _ _ (s₁.setTop (mkF m 13 #[.val (.int p0), .val (.int p1), .val (.int p2), .val (.int (p1 &&& (2147483647 : Int32)))] [(.int (1 : Int32)), (.int p0)]))
    by_cases hc13 : p0 = (1 : Int32)
    · refine own_by (fun _ k => XS.icmpNo X0.here hx rfl (hb hby own_d1_13) rfl (XT.ii_ne_f hc13) k) ?_
      show own_G _ _ _ _ _ _ _ (s₁.setTop (mkF m 16 #[.val (.int p0), .val (.int p1), .val (.int p2), .val (.int (p1 &&& (2147483647 : Int32)))] []))
      refine own_by (X0.ldcInt hx hown (mvT hZ (hw _ (List.mem_of_getElem? (i := 4) rfl))) (g := (mkF m 16 #[.val (.int p0), .val (.int p1), .val (.int p2), .val (.int (p1 &&& (2147483647 : Int32)))] [])) rfl (hb hby own_d1_16)) ?_
      show own_G _ _ _ _ _ _ _ (s₁.setTop (mkF m 18 #[.val (.int p0), .val (.int p1), .val (.int p2), .val (.int (p1 &&& (2147483647 : Int32)))] [(.int (2147483647 : Int32))]))
      exact own_end X0 (v := some (.int (2147483647 : Int32))) (fun h => by rw [Bd.returns] at h; cases h) (BodyLoose.notSynchronized Bd) (fun fs hr => retI X0 hx Bd.returns (hb hby own_d1_18) hr) (by rw [e0]; exact ⟨(by simp only [own_pick, if_neg hc6, if_pos hc13]; first | done | rfl), N0, rfl⟩) (by decide) (by decide)
    · refine own_by (fun _ k => XS.icmpYes X0.here hx rfl (pc0 := 13) (pc' := 19) rfl (hb hby own_d1_13) rfl (XT.ii_ne_t hc13) (by decide) (by decide) k) ?_
      show own_G _ _ _ _ _ _ _ (s₁.setTop (mkF m 19 #[.val (.int p0), .val (.int p1), .val (.int p2), .val (.int (p1 &&& (2147483647 : Int32)))] []))
      refine own_by (fun _ k => XS.iloadN X0.here hx rfl (hb hby own_d1_19) rfl  k) ?_
      show own_G _ _ _ _ _ _ _ (s₁.setTop (mkF m 20 #[.val (.int p0), .val (.int p1), .val (.int p2), .val (.int (p1 &&& (2147483647 : Int32)))] [(.int p0)]))
      refine own_by (fun _ k => XS.iconst X0.here hx rfl (hb hby own_d1_20) k) ?_
      show own_G _ _ _ _ _ _ _ (s₁.setTop (mkF m 21 #[.val (.int p0), .val (.int p1), .val (.int p2), .val (.int (p1 &&& (2147483647 : Int32)))] [(.int (2 : Int32)), (.int p0)]))
      by_cases hc21 : p0 = (2 : Int32)
      · refine own_by (fun _ k => XS.icmpNo X0.here hx rfl (hb hby own_d1_21) rfl (XT.ii_ne_f hc21) k) ?_
        show own_G _ _ _ _ _ _ _ (s₁.setTop (mkF m 24 #[.val (.int p0), .val (.int p1), .val (.int p2), .val (.int (p1 &&& (2147483647 : Int32)))] []))
        refine own_by (fun _ k => XS.iloadN X0.here hx rfl (hb hby own_d1_24) rfl  k) ?_
        show own_G _ _ _ _ _ _ _ (s₁.setTop (mkF m 25 #[.val (.int p0), .val (.int p1), .val (.int p2), .val (.int (p1 &&& (2147483647 : Int32)))] [(.int (p1 &&& (2147483647 : Int32)))]))
        exact own_end X0 (v := some (.int (p1 &&& (2147483647 : Int32)))) (fun h => by rw [Bd.returns] at h; cases h) (BodyLoose.notSynchronized Bd) (fun fs hr => retI X0 hx Bd.returns (hb hby own_d1_25) hr) (by rw [e0]; exact ⟨(by simp only [own_pick, if_neg hc6, if_neg hc13, if_pos hc21]; first | done | rfl), N0, rfl⟩) (by decide) (by decide)
      · refine own_by (fun _ k => XS.icmpYes X0.here hx rfl (pc0 := 21) (pc' := 26) rfl (hb hby own_d1_21) rfl (XT.ii_ne_t hc21) (by decide) (by decide) k) ?_
        show own_G _ _ _ _ _ _ _ (s₁.setTop (mkF m 26 #[.val (.int p0), .val (.int p1), .val (.int p2), .val (.int (p1 &&& (2147483647 : Int32)))] []))
        refine own_by (fun _ k => XS.iloadN X0.here hx rfl (hb hby own_d1_26) rfl  k) ?_
        show own_G _ _ _ _ _ _ _ (s₁.setTop (mkF m 27 #[.val (.int p0), .val (.int p1), .val (.int p2), .val (.int (p1 &&& (2147483647 : Int32)))] [(.int p0)]))
        refine own_by (fun _ k => XS.iconst X0.here hx rfl (hb hby own_d1_27) k) ?_
        show own_G _ _ _ _ _ _ _ (s₁.setTop (mkF m 28 #[.val (.int p0), .val (.int p1), .val (.int p2), .val (.int (p1 &&& (2147483647 : Int32)))] [(.int (3 : Int32)), (.int p0)]))
        by_cases hc28 : p0 = (3 : Int32)
        · refine own_by (fun _ k => XS.icmpNo X0.here hx rfl (hb hby own_d1_28) rfl (XT.ii_ne_f hc28) k) ?_
          show own_G _ _ _ _ _ _ _ (s₁.setTop (mkF m 31 #[.val (.int p0), .val (.int p1), .val (.int p2), .val (.int (p1 &&& (2147483647 : Int32)))] []))
          refine own_by (fun _ k => XS.iloadN X0.here hx rfl (hb hby own_d1_31) rfl  k) ?_
          show own_G _ _ _ _ _ _ _ (s₁.setTop (mkF m 32 #[.val (.int p0), .val (.int p1), .val (.int p2), .val (.int (p1 &&& (2147483647 : Int32)))] [(.int p2)]))
          exact own_end X0 (v := some (.int p2)) (fun h => by rw [Bd.returns] at h; cases h) (BodyLoose.notSynchronized Bd) (fun fs hr => retI X0 hx Bd.returns (hb hby own_d1_32) hr) (by rw [e0]; exact ⟨(by simp only [own_pick, if_neg hc6, if_neg hc13, if_neg hc21, if_pos hc28]; first | done | rfl), N0, rfl⟩) (by decide) (by decide)
        · refine own_by (fun _ k => XS.icmpYes X0.here hx rfl (pc0 := 28) (pc' := 33) rfl (hb hby own_d1_28) rfl (XT.ii_ne_t hc28) (by decide) (by decide) k) ?_
          show own_G _ _ _ _ _ _ _ (s₁.setTop (mkF m 33 #[.val (.int p0), .val (.int p1), .val (.int p2), .val (.int (p1 &&& (2147483647 : Int32)))] []))
          refine own_by (fun _ k => XS.iloadN X0.here hx rfl (hb hby own_d1_33) rfl  k) ?_
          show own_G _ _ _ _ _ _ _ (s₁.setTop (mkF m 34 #[.val (.int p0), .val (.int p1), .val (.int p2), .val (.int (p1 &&& (2147483647 : Int32)))] [(.int p0)]))
          refine own_by (fun _ k => XS.iconst X0.here hx rfl (hb hby own_d1_34) k) ?_
          show own_G _ _ _ _ _ _ _ (s₁.setTop (mkF m 35 #[.val (.int p0), .val (.int p1), .val (.int p2), .val (.int (p1 &&& (2147483647 : Int32)))] [(.int (4 : Int32)), (.int p0)]))
          by_cases hc35 : p0 = (4 : Int32)
          · refine own_by (fun _ k => XS.icmpNo X0.here hx rfl (hb hby own_d1_35) rfl (XT.ii_ne_f hc35) k) ?_
            show own_G _ _ _ _ _ _ _ (s₁.setTop (mkF m 38 #[.val (.int p0), .val (.int p1), .val (.int p2), .val (.int (p1 &&& (2147483647 : Int32)))] []))
            refine own_by (fun _ k => XS.iloadN X0.here hx rfl (hb hby own_d1_38) rfl  k) ?_
            show own_G _ _ _ _ _ _ _ (s₁.setTop (mkF m 39 #[.val (.int p0), .val (.int p1), .val (.int p2), .val (.int (p1 &&& (2147483647 : Int32)))] [(.int p2)]))
            refine own_by (X0.ldcInt hx hown (mvT hZ (hw _ (List.mem_of_getElem? (i := 4) rfl))) (g := (mkF m 39 #[.val (.int p0), .val (.int p1), .val (.int p2), .val (.int (p1 &&& (2147483647 : Int32)))] [(.int p2)])) rfl (hb hby own_d1_39)) ?_
            show own_G _ _ _ _ _ _ _ (s₁.setTop (mkF m 41 #[.val (.int p0), .val (.int p1), .val (.int p2), .val (.int (p1 &&& (2147483647 : Int32)))] [(.int (2147483647 : Int32)), (.int p2)]))
            by_cases hc41 : p2 = (2147483647 : Int32)
            · refine own_by (fun _ k => XS.icmpNo X0.here hx rfl (hb hby own_d1_41) rfl (XT.ii_ne_f hc41) k) ?_
              show own_G _ _ _ _ _ _ _ (s₁.setTop (mkF m 44 #[.val (.int p0), .val (.int p1), .val (.int p2), .val (.int (p1 &&& (2147483647 : Int32)))] []))
              refine own_by (fun _ k => XS.iconst X0.here hx rfl (hb hby own_d1_44) k) ?_
              show own_G _ _ _ _ _ _ _ (s₁.setTop (mkF m 45 #[.val (.int p0), .val (.int p1), .val (.int p2), .val (.int (p1 &&& (2147483647 : Int32)))] [(.int (0 : Int32))]))
              refine own_by (fun _ k => XS.goto X0.here hx rfl (pc0 := 45) (pc' := 51) rfl (hb hby own_d1_45) (by decide) (by decide) k) ?_
              show own_G _ _ _ _ _ _ _ (s₁.setTop (mkF m 51 #[.val (.int p0), .val (.int p1), .val (.int p2), .val (.int (p1 &&& (2147483647 : Int32)))] [(.int (0 : Int32))]))
              exact own_end X0 (v := some (.int (0 : Int32))) (fun h => by rw [Bd.returns] at h; cases h) (BodyLoose.notSynchronized Bd) (fun fs hr => retI X0 hx Bd.returns (hb hby own_d1_51) hr) (by rw [e0]; exact ⟨(by simp only [own_pick, if_neg hc6, if_neg hc13, if_neg hc21, if_neg hc28, if_pos hc35, if_pos hc41]; first | done | rfl), N0, rfl⟩) (by decide) (by decide)
            · refine own_by (fun _ k => XS.icmpYes X0.here hx rfl (pc0 := 41) (pc' := 48) rfl (hb hby own_d1_41) rfl (XT.ii_ne_t hc41) (by decide) (by decide) k) ?_
              show own_G _ _ _ _ _ _ _ (s₁.setTop (mkF m 48 #[.val (.int p0), .val (.int p1), .val (.int p2), .val (.int (p1 &&& (2147483647 : Int32)))] []))
              refine own_by (fun _ k => XS.iloadN X0.here hx rfl (hb hby own_d1_48) rfl  k) ?_
              show own_G _ _ _ _ _ _ _ (s₁.setTop (mkF m 49 #[.val (.int p0), .val (.int p1), .val (.int p2), .val (.int (p1 &&& (2147483647 : Int32)))] [(.int p2)]))
              refine own_by (fun _ k => XS.iconst X0.here hx rfl (hb hby own_d1_49) k) ?_
              show own_G _ _ _ _ _ _ _ (s₁.setTop (mkF m 50 #[.val (.int p0), .val (.int p1), .val (.int p2), .val (.int (p1 &&& (2147483647 : Int32)))] [(.int (1 : Int32)), (.int p2)]))
              refine own_by (fun _ k => XS.iadd X0.here hx rfl (hb hby own_d1_50) rfl k) ?_
              show own_G _ _ _ _ _ _ _ (s₁.setTop (mkF m 51 #[.val (.int p0), .val (.int p1), .val (.int p2), .val (.int (p1 &&& (2147483647 : Int32)))] [(.int (p2 + (1 : Int32)))]))
              exact own_end X0 (v := some (.int (p2 + (1 : Int32)))) (fun h => by rw [Bd.returns] at h; cases h) (BodyLoose.notSynchronized Bd) (fun fs hr => retI X0 hx Bd.returns (hb hby own_d1_51) hr) (by rw [e0]; exact ⟨(by simp only [own_pick, if_neg hc6, if_neg hc13, if_neg hc21, if_neg hc28, if_pos hc35, if_neg hc41]; first | done | rfl), N0, rfl⟩) (by decide) (by decide)
          · refine own_by (fun _ k => XS.icmpYes X0.here hx rfl (pc0 := 35) (pc' := 52) rfl (hb hby own_d1_35) rfl (XT.ii_ne_t hc35) (by decide) (by decide) k) ?_
            show own_G _ _ _ _ _ _ _ (s₁.setTop (mkF m 52 #[.val (.int p0), .val (.int p1), .val (.int p2), .val (.int (p1 &&& (2147483647 : Int32)))] []))
            refine own_by (fun _ k => XS.iloadN X0.here hx rfl (hb hby own_d1_52) rfl  k) ?_
            show own_G _ _ _ _ _ _ _ (s₁.setTop (mkF m 53 #[.val (.int p0), .val (.int p1), .val (.int p2), .val (.int (p1 &&& (2147483647 : Int32)))] [(.int p0)]))
            refine own_by (fun _ k => XS.iconst X0.here hx rfl (hb hby own_d1_53) k) ?_
            show own_G _ _ _ _ _ _ _ (s₁.setTop (mkF m 54 #[.val (.int p0), .val (.int p1), .val (.int p2), .val (.int (p1 &&& (2147483647 : Int32)))] [(.int (5 : Int32)), (.int p0)]))
            by_cases hc54 : p0 = (5 : Int32)
            · refine own_by (fun _ k => XS.icmpNo X0.here hx rfl (hb hby own_d1_54) rfl (XT.ii_ne_f hc54) k) ?_
              show own_G _ _ _ _ _ _ _ (s₁.setTop (mkF m 57 #[.val (.int p0), .val (.int p1), .val (.int p2), .val (.int (p1 &&& (2147483647 : Int32)))] []))
              refine own_by (fun _ k => XS.iloadN X0.here hx rfl (hb hby own_d1_57) rfl  k) ?_
              show own_G _ _ _ _ _ _ _ (s₁.setTop (mkF m 58 #[.val (.int p0), .val (.int p1), .val (.int p2), .val (.int (p1 &&& (2147483647 : Int32)))] [(.int p2)]))
              by_cases hc58 : (0 : Int32) < p2
              · refine own_by (fun _ k => XS.ifNo X0.here hx rfl (hb hby own_d1_58) rfl (XT.i0_le_f hc58) k) ?_
                show own_G _ _ _ _ _ _ _ (s₁.setTop (mkF m 61 #[.val (.int p0), .val (.int p1), .val (.int p2), .val (.int (p1 &&& (2147483647 : Int32)))] []))
                refine own_by (fun _ k => XS.iloadN X0.here hx rfl (hb hby own_d1_61) rfl  k) ?_
                show own_G _ _ _ _ _ _ _ (s₁.setTop (mkF m 62 #[.val (.int p0), .val (.int p1), .val (.int p2), .val (.int (p1 &&& (2147483647 : Int32)))] [(.int p2)]))
                refine own_by (fun _ k => XS.iconst X0.here hx rfl (hb hby own_d1_62) k) ?_
                show own_G _ _ _ _ _ _ _ (s₁.setTop (mkF m 63 #[.val (.int p0), .val (.int p1), .val (.int p2), .val (.int (p1 &&& (2147483647 : Int32)))] [(.int (1 : Int32)), (.int p2)]))
                refine own_by (fun _ k => XS.isub X0.here hx rfl (hb hby own_d1_63) rfl k) ?_
                show own_G _ _ _ _ _ _ _ (s₁.setTop (mkF m 64 #[.val (.int p0), .val (.int p1), .val (.int p2), .val (.int (p1 &&& (2147483647 : Int32)))] [(.int (p2 - (1 : Int32)))]))
                refine own_by (fun _ k => XS.goto X0.here hx rfl (pc0 := 64) (pc' := 68) rfl (hb hby own_d1_64) (by decide) (by decide) k) ?_
                show own_G _ _ _ _ _ _ _ (s₁.setTop (mkF m 68 #[.val (.int p0), .val (.int p1), .val (.int p2), .val (.int (p1 &&& (2147483647 : Int32)))] [(.int (p2 - (1 : Int32)))]))
                exact own_end X0 (v := some (.int (p2 - (1 : Int32)))) (fun h => by rw [Bd.returns] at h; cases h) (BodyLoose.notSynchronized Bd) (fun fs hr => retI X0 hx Bd.returns (hb hby own_d1_68) hr) (by rw [e0]; exact ⟨(by simp only [own_pick, if_neg hc6, if_neg hc13, if_neg hc21, if_neg hc28, if_neg hc35, if_pos hc54, if_pos hc58]; first | done | rfl), N0, rfl⟩) (by decide) (by decide)
              · refine own_by (fun _ k => XS.ifYes X0.here hx rfl (pc0 := 58) (pc' := 67) rfl (hb hby own_d1_58) rfl (XT.i0_le_t hc58) (by decide) (by decide) k) ?_
                show own_G _ _ _ _ _ _ _ (s₁.setTop (mkF m 67 #[.val (.int p0), .val (.int p1), .val (.int p2), .val (.int (p1 &&& (2147483647 : Int32)))] []))
                refine own_by (fun _ k => XS.iconst X0.here hx rfl (hb hby own_d1_67) k) ?_
                show own_G _ _ _ _ _ _ _ (s₁.setTop (mkF m 68 #[.val (.int p0), .val (.int p1), .val (.int p2), .val (.int (p1 &&& (2147483647 : Int32)))] [(.int (0 : Int32))]))
                exact own_end X0 (v := some (.int (0 : Int32))) (fun h => by rw [Bd.returns] at h; cases h) (BodyLoose.notSynchronized Bd) (fun fs hr => retI X0 hx Bd.returns (hb hby own_d1_68) hr) (by rw [e0]; exact ⟨(by simp only [own_pick, if_neg hc6, if_neg hc13, if_neg hc21, if_neg hc28, if_neg hc35, if_pos hc54, if_neg hc58]; first | done | rfl), N0, rfl⟩) (by decide) (by decide)
            · refine own_by (fun _ k => XS.icmpYes X0.here hx rfl (pc0 := 54) (pc' := 69) rfl (hb hby own_d1_54) rfl (XT.ii_ne_t hc54) (by decide) (by decide) k) ?_
              show own_G _ _ _ _ _ _ _ (s₁.setTop (mkF m 69 #[.val (.int p0), .val (.int p1), .val (.int p2), .val (.int (p1 &&& (2147483647 : Int32)))] []))
              refine own_by (fun _ k => XS.iloadN X0.here hx rfl (hb hby own_d1_69) rfl  k) ?_
              show own_G _ _ _ _ _ _ _ (s₁.setTop (mkF m 70 #[.val (.int p0), .val (.int p1), .val (.int p2), .val (.int (p1 &&& (2147483647 : Int32)))] [(.int p0)]))
              refine own_by (fun _ k => XS.bipush X0.here hx rfl (hb hby own_d1_70) k) ?_
              show own_G _ _ _ _ _ _ _ (s₁.setTop (mkF m 72 #[.val (.int p0), .val (.int p1), .val (.int p2), .val (.int (p1 &&& (2147483647 : Int32)))] [(.int (6 : Int32)), (.int p0)]))
              by_cases hc72 : p0 = (6 : Int32)
              · refine own_by (fun _ k => XS.icmpNo X0.here hx rfl (hb hby own_d1_72) rfl (XT.ii_ne_f hc72) k) ?_
                show own_G _ _ _ _ _ _ _ (s₁.setTop (mkF m 75 #[.val (.int p0), .val (.int p1), .val (.int p2), .val (.int (p1 &&& (2147483647 : Int32)))] []))
                refine own_by (fun _ k => XS.iconst X0.here hx rfl (hb hby own_d1_75) k) ?_
                show own_G _ _ _ _ _ _ _ (s₁.setTop (mkF m 76 #[.val (.int p0), .val (.int p1), .val (.int p2), .val (.int (p1 &&& (2147483647 : Int32)))] [(.int (1 : Int32))]))
                exact own_end X0 (v := some (.int (1 : Int32))) (fun h => by rw [Bd.returns] at h; cases h) (BodyLoose.notSynchronized Bd) (fun fs hr => retI X0 hx Bd.returns (hb hby own_d1_76) hr) (by rw [e0]; exact ⟨(by simp only [own_pick, if_neg hc6, if_neg hc13, if_neg hc21, if_neg hc28, if_neg hc35, if_neg hc54, if_pos hc72]; first | done | rfl), N0, rfl⟩) (by decide) (by decide)
              · refine own_by (fun _ k => XS.icmpYes X0.here hx rfl (pc0 := 72) (pc' := 77) rfl (hb hby own_d1_72) rfl (XT.ii_ne_t hc72) (by decide) (by decide) k) ?_
                show own_G _ _ _ _ _ _ _ (s₁.setTop (mkF m 77 #[.val (.int p0), .val (.int p1), .val (.int p2), .val (.int (p1 &&& (2147483647 : Int32)))] []))
                refine own_by (fun _ k => XS.iloadN X0.here hx rfl (hb hby own_d1_77) rfl  k) ?_
                show own_G _ _ _ _ _ _ _ (s₁.setTop (mkF m 78 #[.val (.int p0), .val (.int p1), .val (.int p2), .val (.int (p1 &&& (2147483647 : Int32)))] [(.int (p1 &&& (2147483647 : Int32)))]))
                exact own_end X0 (v := some (.int (p1 &&& (2147483647 : Int32)))) (fun h => by rw [Bd.returns] at h; cases h) (BodyLoose.notSynchronized Bd) (fun fs hr => retI X0 hx Bd.returns (hb hby own_d1_78) hr) (by rw [e0]; exact ⟨(by simp only [own_pick, if_neg hc6, if_neg hc13, if_neg hc21, if_neg hc28, if_neg hc35, if_neg hc54, if_neg hc72]; first | done | rfl), N0, rfl⟩) (by decide) (by decide)
theorem own_d2_0 : decode prog_24_method_1_code 0 = .ok (.aload_n 0, 1) := by decide +kernel
theorem own_d2_1 : decode prog_24_method_1_code 1 = .ok (.invokespecial 3, 3) := by decide +kernel
theorem own_d2_4 : decode prog_24_method_1_code 4 = .ok (.iload_n 3, 1) := by decide +kernel
theorem own_d2_5 : decode prog_24_method_1_code 5 = .ok (.ifCond .ge 17, 3) := by decide +kernel
theorem own_d2_22 : decode prog_24_method_1_code 22 = .ok (.aload_n 0, 1) := by decide +kernel
theorem own_d2_23 : decode prog_24_method_1_code 23 = .ok (.lload_n 1, 1) := by decide +kernel
theorem own_d2_24 : decode prog_24_method_1_code 24 = .ok (.putfield 18, 3) := by decide +kernel
theorem own_d2_27 : decode prog_24_method_1_code 27 = .ok (.aload_n 0, 1) := by decide +kernel
theorem own_d2_28 : decode prog_24_method_1_code 28 = .ok (.iload_n 3, 1) := by decide +kernel
theorem own_d2_29 : decode prog_24_method_1_code 29 = .ok (.putfield 24, 3) := by decide +kernel
theorem own_d2_32 : decode prog_24_method_1_code 32 = .ok (.return_, 1) := by decide +kernel
theorem own_pn1 : plainName "com/example/inua/inua/StoredRecord$ReadingPosition" = true := by first | (simp [plainName, overriddenIn]; done) | decide +kernel
theorem own_ef2 (m : MethodId) (x0 : Addr) (x1 : Int64) (x2 : Int32) : entryFrame m #[(.ref x0), (.long x1), (.int x2)] 4 = mkF m 0 #[.val (.ref x0), .val (.long x1), .second, .val (.int x2)] [] := by first | (simp [entryFrame, mkF, argsToLocals, Value.category]; done) | rfl
def own_Q2 (Z : State) (a0 : Addr) (q1 : Int64) (p2 : Int32) (h0 : Heap) (n0 : Nat) (v : Option Value) (h : Heap) (L : List Loc) : Prop := v = none ∧ Fr n0 L ∧ Keep h0 h [a0] ∧ Exa Z h a0 "com/example/inua/inua/StoredRecord$ReadingPosition" ∧ Fld Z h a0 "com/example/inua/inua/StoredRecord$ReadingPosition" "position" "J" (.long q1) ∧ Fld Z h a0 "com/example/inua/inua/StoredRecord$ReadingPosition" "index" "I" (.int p2)
set_option maxRecDepth 65536 in
set_option maxHeartbeats 40000000 in
theorem rm2 (l : Launch) (Z : State) (aw : Array Value) (hw : ∀ d ∈ tables_1, d.before aw Z = true) (ws : List Jvm.Cond) (a0 : Addr) (q1 : Int64) (p2 : Int32) (h0 : Heap) (n0 : Nat) (Z0 : n0 ≤ h0.size) (E_a : Exa Z h0 a0 "com/example/inua/inua/StoredRecord$ReadingPosition") (F_position : Fld Z h0 a0 "com/example/inua/inua/StoredRecord$ReadingPosition" "position" "J" (.long (0 : Int64))) (F_index : Fld Z h0 a0 "com/example/inua/inua/StoredRecord$ReadingPosition" "index" "I" (.int (0 : Int32))) (g_a : n0 ≤ a0) (hp : ¬ (p2 < (0 : Int32))) :
    MetFree l (⟨"com/example/inua/inua/StoredRecord$ReadingPosition", "<init>", "(JI)V"⟩ : MethodName) (head1 (Jvm.Cond.code (⟨"com/example/inua/inua/StoredRecord$ReadingPosition", "<init>", "(JI)V"⟩ : MethodName) prog_24_method_1_code 4 none :: ws) ({ frames := 1, cells := 0, slots := 0, locals := 12 } : Room)) (fun a U => a = #[(.ref a0), (.long q1), (.int p2)] ∧ Z.Warmed39 U.vm ∧ U.heap = h0) (fun _ _ _ _ _ => True) (fun _ U o U' => ∃ v L, o = .returned v ∧ own_Q2 Z a0 q1 p2 h0 n0 v U'.heap L ∧ FrameEnd U o U' L ({ frames := 1, cells := 0, slots := 0, locals := 12 } : Room).cells ({ frames := 1, cells := 0, slots := 0, locals := 12 } : Room).slots) := by
  refine MetFree.of_bodySF (plainFor_of_name own_pn1) hisR ?_
  intro p e s m args below meth c s₁ Bd hml0 hP hK
  obtain ⟨rfl, hZ, hh⟩ := hP
  have hx := Bd.exec
  have hby := Bd.bytes
  have hml : c.maxLocals = 4 := hml0
  have hown : s.vm.findClass "com/example/inua/inua/StoredRecord$ReadingPosition" = some m.cls := findClass_of_methodNamed Bd.named
  have hnm := (name_of_methodNamed Bd.named Bd.method).1
  have X0 : Stand p l e ({ frames := 1, cells := 0, slots := 0, locals := 12 } : Room) s m #[(.ref a0), (.long q1), (.int p2)] below meth c s₁ [] 0 0 := Stand.of_body Bd
  have e0 : s₁.heap = h0 := by rw [← hh, Bd.state]; rfl
  have N0 := Fr.nil n0
  show own_G p.tables e below s (own_Q2 Z a0 q1 p2 h0 n0) ({ frames := 1, cells := 0, slots := 0, locals := 12 } : Room).cells ({ frames := 1, cells := 0, slots := 0, locals := 12 } : Room).slots (s₁.setTop (entryFrame m #[(.ref a0), (.long q1), (.int p2)] 4))
  refine own_by (fun _ k => castTop (own_ef2 m a0 q1 p2) k) ?_
  show own_G _ _ _ _ _ _ _ (s₁.setTop (mkF m 0 #[.val (.ref a0), .val (.long q1), .second, .val (.int p2)] []))
  refine own_by (fun _ k => XS.aloadN X0.here hx rfl (hb hby own_d2_0) rfl rfl k) ?_
  show own_G _ _ _ _ _ _ _ (s₁.setTop (mkF m 1 #[.val (.ref a0), .val (.long q1), .second, .val (.int p2)] [(.ref a0)]))
  obtain ⟨T1, X1, e1, st1⟩ := initO X0 hx hZ hown (hw _ (List.mem_of_getElem? (i := 11) rfl)) (hw _ (List.mem_of_getElem? (i := 12) rfl)) (hw _ (List.mem_of_getElem? (i := 13) rfl)) e0 (g := (mkF m 1 #[.val (.ref a0), .val (.long q1), .second, .val (.int p2)] [(.ref a0)])) rfl (by rw [hml]; rfl) rfl (hb hby own_d2_1) (by decide) (W := 0) (by show 2 * 0 + _ ≤ _; exact Nat.le_of_eq rfl) (by decide)
  refine own_by st1 ?_
  show own_G _ _ _ _ _ _ _ (T1.setTop (mkF m 4 #[.val (.ref a0), .val (.long q1), .second, .val (.int p2)] []))
  refine own_by (fun _ k => XS.iloadN X1.here hx rfl (hb hby own_d2_4) rfl  k) ?_
  show own_G _ _ _ _ _ _ _ (T1.setTop (mkF m 5 #[.val (.ref a0), .val (.long q1), .second, .val (.int p2)] [(.int p2)]))
  have hc5 : ¬ (p2 < (0 : Int32)) := hp
  refine own_by (fun _ k => XS.ifYes X1.here hx rfl (pc0 := 5) (pc' := 22) rfl (hb hby own_d2_5) rfl (XT.i0_ge_t hc5) (by decide) (by decide) k) ?_
  show own_G _ _ _ _ _ _ _ (T1.setTop (mkF m 22 #[.val (.ref a0), .val (.long q1), .second, .val (.int p2)] []))
  refine own_by (fun _ k => XS.aloadN X1.here hx rfl (hb hby own_d2_22) rfl rfl k) ?_
  show own_G _ _ _ _ _ _ _ (T1.setTop (mkF m 23 #[.val (.ref a0), .val (.long q1), .second, .val (.int p2)] [(.ref a0)]))
  refine own_by (fun _ k => XT.lloadN X1.here hx rfl (hb hby own_d2_23) rfl  k) ?_
  show own_G _ _ _ _ _ _ _ (T1.setTop (mkF m 24 #[.val (.ref a0), .val (.long q1), .second, .val (.int p2)] [(.long q1), (.ref a0)]))
  obtain ⟨T2, h2, X2, e2, W2, st2⟩ := putF X1 hx hZ hown (host := "") (Or.inl (hw _ (List.mem_of_getElem? (i := 14) rfl))) Via.refl e1 F_position E_a (Or.inr ⟨(hw _ (List.mem_of_getElem? (i := 15) rfl)), rfl, hnm⟩) (hw _ (List.mem_of_getElem? (i := 6) rfl)) (ty := .long) (by decide) rfl rfl (g := (mkF m 24 #[.val (.ref a0), .val (.long q1), .second, .val (.int p2)] [(.long q1), (.ref a0)])) rfl rfl (hb hby own_d2_24)
  refine own_by st2 ?_
  have F3_0 := E_a.wr W2
  have F3_1 := F_position.same W2
  have F3_2 := F_index.other W2 (Or.inr (slot_ne (Or.inr (hw _ (List.mem_of_getElem? (i := 17) rfl))) (Or.inr (hw _ (List.mem_of_getElem? (i := 15) rfl))) (by decide) (t := .int) (t' := .long) (by decide) (by decide)))
  have N2 := Fr.snoc X2 N0 g_a
  have Z4 : n0 ≤ h2.size := Nat.le_trans Z0 (Nat.le_of_eq W2.size.symm)
  have K2 := (Keep.refl h0 [a0]).wr W2 (Or.inl (List.mem_of_getElem? (i := 0) rfl))
  show own_G _ _ _ _ _ _ _ (T2.setTop (mkF m 27 #[.val (.ref a0), .val (.long q1), .second, .val (.int p2)] []))
  refine own_by (fun _ k => XS.aloadN X2.here hx rfl (hb hby own_d2_27) rfl rfl k) ?_
  show own_G _ _ _ _ _ _ _ (T2.setTop (mkF m 28 #[.val (.ref a0), .val (.long q1), .second, .val (.int p2)] [(.ref a0)]))
  refine own_by (fun _ k => XS.iloadN X2.here hx rfl (hb hby own_d2_28) rfl  k) ?_
  show own_G _ _ _ _ _ _ _ (T2.setTop (mkF m 29 #[.val (.ref a0), .val (.long q1), .second, .val (.int p2)] [(.int p2), (.ref a0)]))
  obtain ⟨T5, h5, X5, e5, W5, st5⟩ := putF X2 hx hZ hown (host := "") (Or.inl (hw _ (List.mem_of_getElem? (i := 16) rfl))) Via.refl e2 F3_2 F3_0 (Or.inr ⟨(hw _ (List.mem_of_getElem? (i := 17) rfl)), rfl, hnm⟩) (hw _ (List.mem_of_getElem? (i := 6) rfl)) (ty := .int) (by decide) rfl rfl (g := (mkF m 29 #[.val (.ref a0), .val (.long q1), .second, .val (.int p2)] [(.int p2), (.ref a0)])) rfl rfl (hb hby own_d2_29)
  refine own_by st5 ?_
  have F6_0 := F3_0.wr W5
  have F6_1 := F3_1.other W5 (Or.inr (slot_ne (Or.inr (hw _ (List.mem_of_getElem? (i := 15) rfl))) (Or.inr (hw _ (List.mem_of_getElem? (i := 17) rfl))) (by decide) (t := .long) (t' := .int) (by decide) (by decide)))
  have F6_2 := F3_2.same W5
  have N5 := Fr.snoc X5 N2 g_a
  have Z7 : n0 ≤ h5.size := Nat.le_trans Z4 (Nat.le_of_eq W5.size.symm)
  have K5 := K2.wr W5 (Or.inl (List.mem_of_getElem? (i := 0) rfl))
  show own_G _ _ _ _ _ _ _ (T5.setTop (mkF m 32 #[.val (.ref a0), .val (.long q1), .second, .val (.int p2)] []))
  exact own_end X5 (v := none) (fun _ => rfl) (BodyLoose.notSynchronized Bd) (fun fs hr => X5.returnOut hx Bd.returns (hb hby own_d2_32) hr) (by rw [e5]; exact ⟨rfl, N5, K5, F6_0, F6_1, F6_2⟩) (by decide) (by decide)
theorem own_d4_0 : decode prog_24_method_5_code 0 = .ok (.aload_n 1, 1) := by decide +kernel
theorem own_d4_1 : decode prog_24_method_5_code 1 = .ok (.getfield 18, 3) := by decide +kernel
theorem own_d4_4 : decode prog_24_method_5_code 4 = .ok (.aload_n 0, 1) := by decide +kernel
theorem own_d4_5 : decode prog_24_method_5_code 5 = .ok (.getfield 18, 3) := by decide +kernel
theorem own_d4_8 : decode prog_24_method_5_code 8 = .ok (.lcmp, 1) := by decide +kernel
theorem own_d4_9 : decode prog_24_method_5_code 9 = .ok (.ifCond .lt 42, 3) := by decide +kernel
theorem own_d4_51 : decode prog_24_method_5_code 51 = .ok (.iconst 1, 1) := by decide +kernel
theorem own_d4_52 : decode prog_24_method_5_code 52 = .ok (.goto 4, 3) := by decide +kernel
theorem own_d4_56 : decode prog_24_method_5_code 56 = .ok (.ireturn, 1) := by decide +kernel
theorem own_d4_12 : decode prog_24_method_5_code 12 = .ok (.aload_n 1, 1) := by decide +kernel
theorem own_d4_13 : decode prog_24_method_5_code 13 = .ok (.getfield 18, 3) := by decide +kernel
theorem own_d4_16 : decode prog_24_method_5_code 16 = .ok (.aload_n 0, 1) := by decide +kernel
theorem own_d4_17 : decode prog_24_method_5_code 17 = .ok (.getfield 18, 3) := by decide +kernel
theorem own_d4_20 : decode prog_24_method_5_code 20 = .ok (.lcmp, 1) := by decide +kernel
theorem own_d4_21 : decode prog_24_method_5_code 21 = .ok (.ifCond .ne 34, 3) := by decide +kernel
theorem own_d4_24 : decode prog_24_method_5_code 24 = .ok (.aload_n 0, 1) := by decide +kernel
theorem own_d4_25 : decode prog_24_method_5_code 25 = .ok (.getfield 24, 3) := by decide +kernel
theorem own_d4_28 : decode prog_24_method_5_code 28 = .ok (.ldc 28, 2) := by decide +kernel
theorem own_d4_30 : decode prog_24_method_5_code 30 = .ok (.if_icmp .eq 21, 3) := by decide +kernel
theorem own_d4_33 : decode prog_24_method_5_code 33 = .ok (.aload_n 1, 1) := by decide +kernel
theorem own_d4_34 : decode prog_24_method_5_code 34 = .ok (.getfield 24, 3) := by decide +kernel
theorem own_d4_37 : decode prog_24_method_5_code 37 = .ok (.ifCond .le 18, 3) := by decide +kernel
theorem own_d4_40 : decode prog_24_method_5_code 40 = .ok (.aload_n 1, 1) := by decide +kernel
theorem own_d4_41 : decode prog_24_method_5_code 41 = .ok (.getfield 24, 3) := by decide +kernel
theorem own_d4_44 : decode prog_24_method_5_code 44 = .ok (.aload_n 0, 1) := by decide +kernel
theorem own_d4_45 : decode prog_24_method_5_code 45 = .ok (.getfield 24, 3) := by decide +kernel
theorem own_d4_48 : decode prog_24_method_5_code 48 = .ok (.if_icmp .gt 7, 3) := by decide +kernel
theorem own_d4_55 : decode prog_24_method_5_code 55 = .ok (.iconst 0, 1) := by decide +kernel
theorem own_ef3 (m : MethodId) (x0 : Addr) (x1 : Addr) : entryFrame m #[(.ref x0), (.ref x1)] 2 = mkF m 0 #[.val (.ref x0), .val (.ref x1)] [] := by first | (simp [entryFrame, mkF, argsToLocals, Value.category]; done) | rfl
def own_Q3 (Z : State) (a0 : Addr) (a1 : Addr) (x0 : Int64) (x1 : Int32) (y0 : Int64) (y1 : Int32) (h0 : Heap) (n0 : Nat) (v : Option Value) (h : Heap) (L : List Loc) : Prop := v = some (.int (own_passes x0 x1 y0 y1)) ∧ Fr n0 L ∧ h = h0
set_option maxRecDepth 65536 in
set_option maxHeartbeats 40000000 in
theorem rm3 (l : Launch) (Z : State) (aw : Array Value) (hw : ∀ d ∈ tables_1, d.before aw Z = true) (ws : List Jvm.Cond) (a0 : Addr) (a1 : Addr) (x0 : Int64) (x1 : Int32) (y0 : Int64) (y1 : Int32) (h0 : Heap) (n0 : Nat) (Z0 : n0 ≤ h0.size) (F_a0_position : Fld Z h0 a0 "com/example/inua/inua/StoredRecord$ReadingPosition" "position" "J" (.long x0)) (F_a0_index : Fld Z h0 a0 "com/example/inua/inua/StoredRecord$ReadingPosition" "index" "I" (.int x1)) (F_a1_position : Fld Z h0 a1 "com/example/inua/inua/StoredRecord$ReadingPosition" "position" "J" (.long y0)) (F_a1_index : Fld Z h0 a1 "com/example/inua/inua/StoredRecord$ReadingPosition" "index" "I" (.int y1)) :
    MetFree l (⟨"com/example/inua/inua/StoredRecord$ReadingPosition", "passes", "(Lcom/example/inua/inua/StoredRecord$ReadingPosition;)Z"⟩ : MethodName) (head1 (Jvm.Cond.code (⟨"com/example/inua/inua/StoredRecord$ReadingPosition", "passes", "(Lcom/example/inua/inua/StoredRecord$ReadingPosition;)Z"⟩ : MethodName) prog_24_method_5_code 2 (some .boolean) :: ws) ({ frames := 0, cells := 0, slots := 0, locals := 0 } : Room)) (fun a U => a = #[(.ref a0), (.ref a1)] ∧ Z.Warmed39 U.vm ∧ U.heap = h0) (fun _ _ _ _ _ => True) (fun _ U o U' => ∃ v L, o = .returned v ∧ own_Q3 Z a0 a1 x0 x1 y0 y1 h0 n0 v U'.heap L ∧ FrameEnd U o U' L ({ frames := 0, cells := 0, slots := 0, locals := 0 } : Room).cells ({ frames := 0, cells := 0, slots := 0, locals := 0 } : Room).slots) := by
  refine MetFree.of_bodySF (plainFor_of_name own_pn1) hisR ?_
  intro p e s m args below meth c s₁ Bd hml0 hP hK
  obtain ⟨rfl, hZ, hh⟩ := hP
  have hx := Bd.exec
  have hby := Bd.bytes
  have hml : c.maxLocals = 2 := hml0
  have hown : s.vm.findClass "com/example/inua/inua/StoredRecord$ReadingPosition" = some m.cls := findClass_of_methodNamed Bd.named
  have hnm := (name_of_methodNamed Bd.named Bd.method).1
  have X0 : Stand p l e ({ frames := 0, cells := 0, slots := 0, locals := 0 } : Room) s m #[(.ref a0), (.ref a1)] below meth c s₁ [] 0 0 := Stand.of_body Bd
  have e0 : s₁.heap = h0 := by rw [← hh, Bd.state]; rfl
  have N0 := Fr.nil n0
  show own_G p.tables e below s (own_Q3 Z a0 a1 x0 x1 y0 y1 h0 n0) ({ frames := 0, cells := 0, slots := 0, locals := 0 } : Room).cells ({ frames := 0, cells := 0, slots := 0, locals := 0 } : Room).slots (s₁.setTop (entryFrame m #[(.ref a0), (.ref a1)] 2))
  refine own_by (fun _ k => castTop (own_ef3 m a0 a1) k) ?_
  show own_G _ _ _ _ _ _ _ (s₁.setTop (mkF m 0 #[.val (.ref a0), .val (.ref a1)] []))
  refine own_by (fun _ k => XS.aloadN X0.here hx rfl (hb hby own_d4_0) rfl rfl k) ?_
  show own_G _ _ _ _ _ _ _ (s₁.setTop (mkF m 1 #[.val (.ref a0), .val (.ref a1)] [(.ref a1)]))
  obtain ⟨T8, X8, e8, st8⟩ := getF X0 hx hZ hown (host := "") (Or.inl (hw _ (List.mem_of_getElem? (i := 14) rfl))) Via.refl e0 F_a1_position (g := (mkF m 1 #[.val (.ref a0), .val (.ref a1)] [(.ref a1)])) rfl rfl (hb hby own_d4_1)
  refine own_by st8 ?_
  show own_G _ _ _ _ _ _ _ (T8.setTop (mkF m 4 #[.val (.ref a0), .val (.ref a1)] [(.long y0)]))
  refine own_by (fun _ k => XS.aloadN X8.here hx rfl (hb hby own_d4_4) rfl rfl k) ?_
  show own_G _ _ _ _ _ _ _ (T8.setTop (mkF m 5 #[.val (.ref a0), .val (.ref a1)] [(.ref a0), (.long y0)]))
  obtain ⟨T9, X9, e9, st9⟩ := getF X8 hx hZ hown (host := "") (Or.inl (hw _ (List.mem_of_getElem? (i := 14) rfl))) Via.refl e8 F_a0_position (g := (mkF m 5 #[.val (.ref a0), .val (.ref a1)] [(.ref a0), (.long y0)])) rfl rfl (hb hby own_d4_5)
  refine own_by st9 ?_
  show own_G _ _ _ _ _ _ _ (T9.setTop (mkF m 8 #[.val (.ref a0), .val (.ref a1)] [(.long x0), (.long y0)]))
  refine own_by (fun _ k => XT.lcmp X9.here hx rfl (hb hby own_d4_8) rfl k) ?_
  show own_G _ _ _ _ _ _ _ (T9.setTop (mkF m 9 #[.val (.ref a0), .val (.ref a1)] [(.int (XT.cmpL y0 x0))]))
  by_cases hc9 : y0 < x0
  · refine own_by (fun _ k => XS.ifYes X9.here hx rfl (pc0 := 9) (pc' := 51) rfl (hb hby own_d4_9) rfl (XT.ll_lt_t hc9) (by decide) (by decide) k) ?_
    show own_G _ _ _ _ _ _ _ (T9.setTop (mkF m 51 #[.val (.ref a0), .val (.ref a1)] []))
    refine own_by (fun _ k => XS.iconst X9.here hx rfl (hb hby own_d4_51) k) ?_
    show own_G _ _ _ _ _ _ _ (T9.setTop (mkF m 52 #[.val (.ref a0), .val (.ref a1)] [(.int (1 : Int32))]))
    refine own_by (fun _ k => XS.goto X9.here hx rfl (pc0 := 52) (pc' := 56) rfl (hb hby own_d4_52) (by decide) (by decide) k) ?_
    show own_G _ _ _ _ _ _ _ (T9.setTop (mkF m 56 #[.val (.ref a0), .val (.ref a1)] [(.int (1 : Int32))]))
    exact own_end X9 (v := some (.int (nar .boolean (1 : Int32)))) (fun h => by rw [Bd.returns] at h; cases h) (BodyLoose.notSynchronized Bd) (fun fs hr => retN X9 hx (t := .boolean) Bd.returns (by simp) (hb hby own_d4_56) hr) (by rw [e9]; exact ⟨(by simp only [own_passes, if_pos hc9]; first | done | rfl), N0, rfl⟩) (by decide) (by decide)
  · refine own_by (fun _ k => XS.ifNo X9.here hx rfl (hb hby own_d4_9) rfl (XT.ll_lt_f hc9) k) ?_
    show own_G _ _ _ _ _ _ _ (T9.setTop (mkF m 12 #[.val (.ref a0), .val (.ref a1)] []))
    refine own_by (fun _ k => XS.aloadN X9.here hx rfl (hb hby own_d4_12) rfl rfl k) ?_
    show own_G _ _ _ _ _ _ _ (T9.setTop (mkF m 13 #[.val (.ref a0), .val (.ref a1)] [(.ref a1)]))
    obtain ⟨T10, X10, e10, st10⟩ := getF X9 hx hZ hown (host := "") (Or.inl (hw _ (List.mem_of_getElem? (i := 14) rfl))) Via.refl e9 F_a1_position (g := (mkF m 13 #[.val (.ref a0), .val (.ref a1)] [(.ref a1)])) rfl rfl (hb hby own_d4_13)
    refine own_by st10 ?_
    show own_G _ _ _ _ _ _ _ (T10.setTop (mkF m 16 #[.val (.ref a0), .val (.ref a1)] [(.long y0)]))
    refine own_by (fun _ k => XS.aloadN X10.here hx rfl (hb hby own_d4_16) rfl rfl k) ?_
    show own_G _ _ _ _ _ _ _ (T10.setTop (mkF m 17 #[.val (.ref a0), .val (.ref a1)] [(.ref a0), (.long y0)]))
    obtain ⟨T11, X11, e11, st11⟩ := getF X10 hx hZ hown (host := "") (Or.inl (hw _ (List.mem_of_getElem? (i := 14) rfl))) Via.refl e10 F_a0_position (g := (mkF m 17 #[.val (.ref a0), .val (.ref a1)] [(.ref a0), (.long y0)])) rfl rfl (hb hby own_d4_17)
    refine own_by st11 ?_
    show own_G _ _ _ _ _ _ _ (T11.setTop (mkF m 20 #[.val (.ref a0), .val (.ref a1)] [(.long x0), (.long y0)]))
    refine own_by (fun _ k => XT.lcmp X11.here hx rfl (hb hby own_d4_20) rfl k) ?_
    show own_G _ _ _ _ _ _ _ (T11.setTop (mkF m 21 #[.val (.ref a0), .val (.ref a1)] [(.int (XT.cmpL y0 x0))]))
    by_cases hc21 : y0 = x0
    · refine own_by (fun _ k => XS.ifNo X11.here hx rfl (hb hby own_d4_21) rfl (XT.ll_ne_f hc21) k) ?_
      show own_G _ _ _ _ _ _ _ (T11.setTop (mkF m 24 #[.val (.ref a0), .val (.ref a1)] []))
      refine own_by (fun _ k => XS.aloadN X11.here hx rfl (hb hby own_d4_24) rfl rfl k) ?_
      show own_G _ _ _ _ _ _ _ (T11.setTop (mkF m 25 #[.val (.ref a0), .val (.ref a1)] [(.ref a0)]))
      obtain ⟨T12, X12, e12, st12⟩ := getF X11 hx hZ hown (host := "") (Or.inl (hw _ (List.mem_of_getElem? (i := 16) rfl))) Via.refl e11 F_a0_index (g := (mkF m 25 #[.val (.ref a0), .val (.ref a1)] [(.ref a0)])) rfl rfl (hb hby own_d4_25)
      refine own_by st12 ?_
      show own_G _ _ _ _ _ _ _ (T12.setTop (mkF m 28 #[.val (.ref a0), .val (.ref a1)] [(.int x1)]))
      refine own_by (X12.ldcInt hx hown (mvT hZ (hw _ (List.mem_of_getElem? (i := 23) rfl))) (g := (mkF m 28 #[.val (.ref a0), .val (.ref a1)] [(.int x1)])) rfl (hb hby own_d4_28)) ?_
      show own_G _ _ _ _ _ _ _ (T12.setTop (mkF m 30 #[.val (.ref a0), .val (.ref a1)] [(.int (2147483647 : Int32)), (.int x1)]))
      by_cases hc30 : x1 = (2147483647 : Int32)
      · refine own_by (fun _ k => XS.icmpYes X12.here hx rfl (pc0 := 30) (pc' := 51) rfl (hb hby own_d4_30) rfl (XT.ii_eq_t hc30) (by decide) (by decide) k) ?_
        show own_G _ _ _ _ _ _ _ (T12.setTop (mkF m 51 #[.val (.ref a0), .val (.ref a1)] []))
        refine own_by (fun _ k => XS.iconst X12.here hx rfl (hb hby own_d4_51) k) ?_
        show own_G _ _ _ _ _ _ _ (T12.setTop (mkF m 52 #[.val (.ref a0), .val (.ref a1)] [(.int (1 : Int32))]))
        refine own_by (fun _ k => XS.goto X12.here hx rfl (pc0 := 52) (pc' := 56) rfl (hb hby own_d4_52) (by decide) (by decide) k) ?_
        show own_G _ _ _ _ _ _ _ (T12.setTop (mkF m 56 #[.val (.ref a0), .val (.ref a1)] [(.int (1 : Int32))]))
        exact own_end X12 (v := some (.int (nar .boolean (1 : Int32)))) (fun h => by rw [Bd.returns] at h; cases h) (BodyLoose.notSynchronized Bd) (fun fs hr => retN X12 hx (t := .boolean) Bd.returns (by simp) (hb hby own_d4_56) hr) (by rw [e12]; exact ⟨(by simp only [own_passes, if_neg hc9, if_pos hc21, if_pos hc30]; first | done | rfl), N0, rfl⟩) (by decide) (by decide)
      · refine own_by (fun _ k => XS.icmpNo X12.here hx rfl (hb hby own_d4_30) rfl (XT.ii_eq_f hc30) k) ?_
        show own_G _ _ _ _ _ _ _ (T12.setTop (mkF m 33 #[.val (.ref a0), .val (.ref a1)] []))
        refine own_by (fun _ k => XS.aloadN X12.here hx rfl (hb hby own_d4_33) rfl rfl k) ?_
        show own_G _ _ _ _ _ _ _ (T12.setTop (mkF m 34 #[.val (.ref a0), .val (.ref a1)] [(.ref a1)]))
        obtain ⟨T13, X13, e13, st13⟩ := getF X12 hx hZ hown (host := "") (Or.inl (hw _ (List.mem_of_getElem? (i := 16) rfl))) Via.refl e12 F_a1_index (g := (mkF m 34 #[.val (.ref a0), .val (.ref a1)] [(.ref a1)])) rfl rfl (hb hby own_d4_34)
        refine own_by st13 ?_
        show own_G _ _ _ _ _ _ _ (T13.setTop (mkF m 37 #[.val (.ref a0), .val (.ref a1)] [(.int y1)]))
        by_cases hc37 : (0 : Int32) < y1
        · refine own_by (fun _ k => XS.ifNo X13.here hx rfl (hb hby own_d4_37) rfl (XT.i0_le_f hc37) k) ?_
          show own_G _ _ _ _ _ _ _ (T13.setTop (mkF m 40 #[.val (.ref a0), .val (.ref a1)] []))
          refine own_by (fun _ k => XS.aloadN X13.here hx rfl (hb hby own_d4_40) rfl rfl k) ?_
          show own_G _ _ _ _ _ _ _ (T13.setTop (mkF m 41 #[.val (.ref a0), .val (.ref a1)] [(.ref a1)]))
          obtain ⟨T14, X14, e14, st14⟩ := getF X13 hx hZ hown (host := "") (Or.inl (hw _ (List.mem_of_getElem? (i := 16) rfl))) Via.refl e13 F_a1_index (g := (mkF m 41 #[.val (.ref a0), .val (.ref a1)] [(.ref a1)])) rfl rfl (hb hby own_d4_41)
          refine own_by st14 ?_
          show own_G _ _ _ _ _ _ _ (T14.setTop (mkF m 44 #[.val (.ref a0), .val (.ref a1)] [(.int y1)]))
          refine own_by (fun _ k => XS.aloadN X14.here hx rfl (hb hby own_d4_44) rfl rfl k) ?_
          show own_G _ _ _ _ _ _ _ (T14.setTop (mkF m 45 #[.val (.ref a0), .val (.ref a1)] [(.ref a0), (.int y1)]))
          obtain ⟨T15, X15, e15, st15⟩ := getF X14 hx hZ hown (host := "") (Or.inl (hw _ (List.mem_of_getElem? (i := 16) rfl))) Via.refl e14 F_a0_index (g := (mkF m 45 #[.val (.ref a0), .val (.ref a1)] [(.ref a0), (.int y1)])) rfl rfl (hb hby own_d4_45)
          refine own_by st15 ?_
          show own_G _ _ _ _ _ _ _ (T15.setTop (mkF m 48 #[.val (.ref a0), .val (.ref a1)] [(.int x1), (.int y1)]))
          by_cases hc48 : x1 < y1
          · refine own_by (fun _ k => XS.icmpYes X15.here hx rfl (pc0 := 48) (pc' := 55) rfl (hb hby own_d4_48) rfl (XT.ii_gt_t hc48) (by decide) (by decide) k) ?_
            show own_G _ _ _ _ _ _ _ (T15.setTop (mkF m 55 #[.val (.ref a0), .val (.ref a1)] []))
            refine own_by (fun _ k => XS.iconst X15.here hx rfl (hb hby own_d4_55) k) ?_
            show own_G _ _ _ _ _ _ _ (T15.setTop (mkF m 56 #[.val (.ref a0), .val (.ref a1)] [(.int (0 : Int32))]))
            exact own_end X15 (v := some (.int (nar .boolean (0 : Int32)))) (fun h => by rw [Bd.returns] at h; cases h) (BodyLoose.notSynchronized Bd) (fun fs hr => retN X15 hx (t := .boolean) Bd.returns (by simp) (hb hby own_d4_56) hr) (by rw [e15]; exact ⟨(by simp only [own_passes, if_neg hc9, if_pos hc21, if_neg hc30, if_pos hc37, if_pos hc48]; first | done | rfl), N0, rfl⟩) (by decide) (by decide)
          · refine own_by (fun _ k => XS.icmpNo X15.here hx rfl (hb hby own_d4_48) rfl (XT.ii_gt_f hc48) k) ?_
            show own_G _ _ _ _ _ _ _ (T15.setTop (mkF m 51 #[.val (.ref a0), .val (.ref a1)] []))
            refine own_by (fun _ k => XS.iconst X15.here hx rfl (hb hby own_d4_51) k) ?_
            show own_G _ _ _ _ _ _ _ (T15.setTop (mkF m 52 #[.val (.ref a0), .val (.ref a1)] [(.int (1 : Int32))]))
            refine own_by (fun _ k => XS.goto X15.here hx rfl (pc0 := 52) (pc' := 56) rfl (hb hby own_d4_52) (by decide) (by decide) k) ?_
            show own_G _ _ _ _ _ _ _ (T15.setTop (mkF m 56 #[.val (.ref a0), .val (.ref a1)] [(.int (1 : Int32))]))
            exact own_end X15 (v := some (.int (nar .boolean (1 : Int32)))) (fun h => by rw [Bd.returns] at h; cases h) (BodyLoose.notSynchronized Bd) (fun fs hr => retN X15 hx (t := .boolean) Bd.returns (by simp) (hb hby own_d4_56) hr) (by rw [e15]; exact ⟨(by simp only [own_passes, if_neg hc9, if_pos hc21, if_neg hc30, if_pos hc37, if_neg hc48]; first | done | rfl), N0, rfl⟩) (by decide) (by decide)
        · refine own_by (fun _ k => XS.ifYes X13.here hx rfl (pc0 := 37) (pc' := 55) rfl (hb hby own_d4_37) rfl (XT.i0_le_t hc37) (by decide) (by decide) k) ?_
          show own_G _ _ _ _ _ _ _ (T13.setTop (mkF m 55 #[.val (.ref a0), .val (.ref a1)] []))
          refine own_by (fun _ k => XS.iconst X13.here hx rfl (hb hby own_d4_55) k) ?_
          show own_G _ _ _ _ _ _ _ (T13.setTop (mkF m 56 #[.val (.ref a0), .val (.ref a1)] [(.int (0 : Int32))]))
          exact own_end X13 (v := some (.int (nar .boolean (0 : Int32)))) (fun h => by rw [Bd.returns] at h; cases h) (BodyLoose.notSynchronized Bd) (fun fs hr => retN X13 hx (t := .boolean) Bd.returns (by simp) (hb hby own_d4_56) hr) (by rw [e13]; exact ⟨(by simp only [own_passes, if_neg hc9, if_pos hc21, if_neg hc30, if_neg hc37]; first | done | rfl), N0, rfl⟩) (by decide) (by decide)
    · refine own_by (fun _ k => XS.ifYes X11.here hx rfl (pc0 := 21) (pc' := 55) rfl (hb hby own_d4_21) rfl (XT.ll_ne_t hc21) (by decide) (by decide) k) ?_
      show own_G _ _ _ _ _ _ _ (T11.setTop (mkF m 55 #[.val (.ref a0), .val (.ref a1)] []))
      refine own_by (fun _ k => XS.iconst X11.here hx rfl (hb hby own_d4_55) k) ?_
      show own_G _ _ _ _ _ _ _ (T11.setTop (mkF m 56 #[.val (.ref a0), .val (.ref a1)] [(.int (0 : Int32))]))
      exact own_end X11 (v := some (.int (nar .boolean (0 : Int32)))) (fun h => by rw [Bd.returns] at h; cases h) (BodyLoose.notSynchronized Bd) (fun fs hr => retN X11 hx (t := .boolean) Bd.returns (by simp) (hb hby own_d4_56) hr) (by rw [e11]; exact ⟨(by simp only [own_passes, if_neg hc9, if_neg hc21]; first | done | rfl), N0, rfl⟩) (by decide) (by decide)
theorem own_pd0 : parseMethodDescriptor "(III)I" = some ⟨[.int, .int, .int], some .int⟩ := by decide +kernel
theorem own_pd1 : parseMethodDescriptor "(JI)V" = some ⟨[.long, .int], none⟩ := by decide +kernel
theorem own_pd2 : parseMethodDescriptor "(Lcom/example/inua/inua/StoredRecord$ReadingPosition;)Z" = some ⟨[(.object "com/example/inua/inua/StoredRecord$ReadingPosition")], some .boolean⟩ := by decide +kernel
theorem own_ef0 (m : MethodId) (x0 : Int64) (x1 : Int64) (x2 : Int32) (x3 : Int32) (x4 : Int32) : entryFrame m #[(.long x0), (.long x1), (.int x2), (.int x3), (.int x4)] maxLocals = mkF m 0 #[.val (.long x0), .second, .val (.long x1), .second, .val (.int x2), .val (.int x3), .val (.int x4), .unset, .unset, .unset, .unset, .unset, .unset, .unset, .unset, .unset, .unset] [] := by first | (simp [entryFrame, mkF, argsToLocals, Value.category, maxLocals]; done) | rfl
def own_Q0 (Z : State) (q0 : Int64) (q1 : Int64) (p2 : Int32) (p3 : Int32) (p4 : Int32) (h0 : Heap) (n0 : Nat) (v : Option Value) (h : Heap) (L : List Loc) : Prop := v = some (.int 1) ∧ Fr n0 L
set_option maxRecDepth 65536 in
set_option maxHeartbeats 40000000 in
theorem rm0 (l : Launch) (Z : State) (aw : Array Value) (hw : ∀ d ∈ tables_1, d.before aw Z = true) (ws : List Jvm.Cond) (q0 : Int64) (q1 : Int64) (p2 : Int32) (p3 : Int32) (p4 : Int32) (h0 : Heap) (n0 : Nat) (Z0 : n0 ≤ h0.size) :
    MetFree l x (head1 (Jvm.Cond.code x code maxLocals ret :: ws) room_1) (fun a U => a = #[(.long q0), (.long q1), (.int p2), (.int p3), (.int p4)] ∧ Z.Warmed39 U.vm ∧ U.heap = h0) (fun _ _ _ _ _ => True) (fun _ U o U' => ∃ v L, o = .returned v ∧ own_Q0 Z q0 q1 p2 p3 p4 h0 n0 v U'.heap L ∧ FrameEnd U o U' L room_1.cells room_1.slots) := by
  refine MetFree.of_bodySF (plainFor_of_name own_pn0) hisR ?_
  intro p e s m args below meth c s₁ Bd hml0 hP hK
  obtain ⟨rfl, hZ, hh⟩ := hP
  have hx := Bd.exec
  have hby := Bd.bytes
  have hml : c.maxLocals = 17 := hml0
  have hown : s.vm.findClass "com/example/inua/inua/ReadingPositionPassesPinLaw" = some m.cls := findClass_of_methodNamed Bd.named
  have hnm := (name_of_methodNamed Bd.named Bd.method).1
  have X0 : Stand p l e room_1 s m #[(.long q0), (.long q1), (.int p2), (.int p3), (.int p4)] below meth c s₁ [] 0 0 := Stand.of_body Bd
  have e0 : s₁.heap = h0 := by rw [← hh, Bd.state]; rfl
  have N0 := Fr.nil n0
  show own_G p.tables e below s (own_Q0 Z q0 q1 p2 p3 p4 h0 n0) room_1.cells room_1.slots (s₁.setTop (entryFrame m #[(.long q0), (.long q1), (.int p2), (.int p3), (.int p4)] maxLocals))
  refine own_by (fun _ k => castTop (own_ef0 m q0 q1 p2 p3 p4) k) ?_
  show own_G _ _ _ _ _ _ _ (s₁.setTop (mkF m 0 #[.val (.long q0), .second, .val (.long q1), .second, .val (.int p2), .val (.int p3), .val (.int p4), .unset, .unset, .unset, .unset, .unset, .unset, .unset, .unset, .unset, .unset] []))
  refine own_by (fun _ k => XS.iload X0.here hx rfl (hb hby at_0) rfl  k) ?_
  show own_G _ _ _ _ _ _ _ (s₁.setTop (mkF m 2 #[.val (.long q0), .second, .val (.long q1), .second, .val (.int p2), .val (.int p3), .val (.int p4), .unset, .unset, .unset, .unset, .unset, .unset, .unset, .unset, .unset, .unset] [(.int p4)]))
  refine own_by (fun _ k => XS.iconst X0.here hx rfl (hb hby at_2) k) ?_
  show own_G _ _ _ _ _ _ _ (s₁.setTop (mkF m 3 #[.val (.long q0), .second, .val (.long q1), .second, .val (.int p2), .val (.int p3), .val (.int p4), .unset, .unset, .unset, .unset, .unset, .unset, .unset, .unset, .unset, .unset] [(.int (3 : Int32)), (.int p4)]))
  refine own_by (fun _ k => XS.iand X0.here hx rfl (hb hby at_3) rfl k) ?_
  show own_G _ _ _ _ _ _ _ (s₁.setTop (mkF m 4 #[.val (.long q0), .second, .val (.long q1), .second, .val (.int p2), .val (.int p3), .val (.int p4), .unset, .unset, .unset, .unset, .unset, .unset, .unset, .unset, .unset, .unset] [(.int (p4 &&& (3 : Int32)))]))
  refine own_by (fun _ k => XS.istore X0.here hx rfl (hb hby at_4) rfl (l' := #[.val (.long q0), .second, .val (.long q1), .second, .val (.int p2), .val (.int p3), .val (.int p4), .val (.int (p4 &&& (3 : Int32))), .unset, .unset, .unset, .unset, .unset, .unset, .unset, .unset, .unset]) rfl k) ?_
  show own_G _ _ _ _ _ _ _ (s₁.setTop (mkF m 6 #[.val (.long q0), .second, .val (.long q1), .second, .val (.int p2), .val (.int p3), .val (.int p4), .val (.int (p4 &&& (3 : Int32))), .unset, .unset, .unset, .unset, .unset, .unset, .unset, .unset, .unset] []))
  generalize hnsel : (p4 &&& (3 : Int32)) = sel
  have J48 : ∀ (Tj16 : State) (lj16 : List Loc) (Xj16 : Stand p l e room_1 s m #[(.long q0), (.long q1), (.int p2), (.int p3), (.int p4)] below meth c Tj16 lj16 0 0) (Nj16 : Fr n0 lj16) (ej16 : Tj16.heap = h0) (sp : Int64), own_G p.tables e below s (own_Q0 Z q0 q1 p2 p3 p4 h0 n0) room_1.cells room_1.slots (Tj16.setTop (mkF m 48 #[.val (.long q0), .second, .val (.long q1), .second, .val (.int p2), .val (.int p3), .val (.int p4), .val (.int sel), .val (.long sp), .second, .unset, .unset, .unset, .unset, .unset, .unset, .unset] [])) := by
    intro Tj16 lj16 Xj16 Nj16 ej16 sp
    show own_G _ _ _ _ _ _ _ (Tj16.setTop (mkF m 48 #[.val (.long q0), .second, .val (.long q1), .second, .val (.int p2), .val (.int p3), .val (.int p4), .val (.int sel), .val (.long sp), .second, .unset, .unset, .unset, .unset, .unset, .unset, .unset] []))
    refine own_by (fun _ k => XS.iload Xj16.here hx rfl (hb hby at_48) rfl  k) ?_
    show own_G _ _ _ _ _ _ _ (Tj16.setTop (mkF m 50 #[.val (.long q0), .second, .val (.long q1), .second, .val (.int p2), .val (.int p3), .val (.int p4), .val (.int sel), .val (.long sp), .second, .unset, .unset, .unset, .unset, .unset, .unset, .unset] [(.int p4)]))
    refine own_by (fun _ k => XS.iconst Xj16.here hx rfl (hb hby at_50) k) ?_
    show own_G _ _ _ _ _ _ _ (Tj16.setTop (mkF m 51 #[.val (.long q0), .second, .val (.long q1), .second, .val (.int p2), .val (.int p3), .val (.int p4), .val (.int sel), .val (.long sp), .second, .unset, .unset, .unset, .unset, .unset, .unset, .unset] [(.int (2 : Int32)), (.int p4)]))
    refine own_by (fun _ k => XT.iushr Xj16.here hx rfl (hb hby at_51) rfl k) ?_
    show own_G _ _ _ _ _ _ _ (Tj16.setTop (mkF m 52 #[.val (.long q0), .second, .val (.long q1), .second, .val (.int p2), .val (.int p3), .val (.int p4), .val (.int sel), .val (.long sp), .second, .unset, .unset, .unset, .unset, .unset, .unset, .unset] [(.int (XT.ushr p4 (2 : Int32)))]))
    refine own_by (fun _ k => XS.iconst Xj16.here hx rfl (hb hby at_52) k) ?_
    show own_G _ _ _ _ _ _ _ (Tj16.setTop (mkF m 53 #[.val (.long q0), .second, .val (.long q1), .second, .val (.int p2), .val (.int p3), .val (.int p4), .val (.int sel), .val (.long sp), .second, .unset, .unset, .unset, .unset, .unset, .unset, .unset] [(.int (3 : Int32)), (.int (XT.ushr p4 (2 : Int32)))]))
    refine own_by (fun _ k => XS.iand Xj16.here hx rfl (hb hby at_53) rfl k) ?_
    show own_G _ _ _ _ _ _ _ (Tj16.setTop (mkF m 54 #[.val (.long q0), .second, .val (.long q1), .second, .val (.int p2), .val (.int p3), .val (.int p4), .val (.int sel), .val (.long sp), .second, .unset, .unset, .unset, .unset, .unset, .unset, .unset] [(.int ((XT.ushr p4 (2 : Int32)) &&& (3 : Int32)))]))
    refine own_by (fun _ k => XS.istore Xj16.here hx rfl (hb hby at_54) rfl (l' := #[.val (.long q0), .second, .val (.long q1), .second, .val (.int p2), .val (.int p3), .val (.int p4), .val (.int sel), .val (.long sp), .second, .val (.int ((XT.ushr p4 (2 : Int32)) &&& (3 : Int32))), .unset, .unset, .unset, .unset, .unset, .unset]) rfl k) ?_
    show own_G _ _ _ _ _ _ _ (Tj16.setTop (mkF m 56 #[.val (.long q0), .second, .val (.long q1), .second, .val (.int p2), .val (.int p3), .val (.int p4), .val (.int sel), .val (.long sp), .second, .val (.int ((XT.ushr p4 (2 : Int32)) &&& (3 : Int32))), .unset, .unset, .unset, .unset, .unset, .unset] []))
    generalize hnka : ((XT.ushr p4 (2 : Int32)) &&& (3 : Int32)) = ka
    have J91 : ∀ (Tj17 : State) (lj17 : List Loc) (Xj17 : Stand p l e room_1 s m #[(.long q0), (.long q1), (.int p2), (.int p3), (.int p4)] below meth c Tj17 lj17 0 0) (Nj17 : Fr n0 lj17) (ej17 : Tj17.heap = h0) (ti : Int32) (hti : ¬ ti < (0 : Int32)), own_G p.tables e below s (own_Q0 Z q0 q1 p2 p3 p4 h0 n0) room_1.cells room_1.slots (Tj17.setTop (mkF m 91 #[.val (.long q0), .second, .val (.long q1), .second, .val (.int p2), .val (.int p3), .val (.int p4), .val (.int sel), .val (.long sp), .second, .val (.int ka), .unset, .unset, .unset, .unset, .unset, .unset] [(.int ti)])) := by
      intro Tj17 lj17 Xj17 Nj17 ej17 ti hti
      show own_G _ _ _ _ _ _ _ (Tj17.setTop (mkF m 91 #[.val (.long q0), .second, .val (.long q1), .second, .val (.int p2), .val (.int p3), .val (.int p4), .val (.int sel), .val (.long sp), .second, .val (.int ka), .unset, .unset, .unset, .unset, .unset, .unset] [(.int ti)]))
      refine own_by (fun _ k => XS.istore Xj17.here hx rfl (hb hby at_91) rfl (l' := #[.val (.long q0), .second, .val (.long q1), .second, .val (.int p2), .val (.int p3), .val (.int p4), .val (.int sel), .val (.long sp), .second, .val (.int ka), .val (.int ti), .unset, .unset, .unset, .unset, .unset]) rfl k) ?_
      show own_G _ _ _ _ _ _ _ (Tj17.setTop (mkF m 93 #[.val (.long q0), .second, .val (.long q1), .second, .val (.int p2), .val (.int p3), .val (.int p4), .val (.int sel), .val (.long sp), .second, .val (.int ka), .val (.int ti), .unset, .unset, .unset, .unset, .unset] []))
      refine own_by (fun _ k => XS.iload Xj17.here hx rfl (hb hby at_93) rfl  k) ?_
      show own_G _ _ _ _ _ _ _ (Tj17.setTop (mkF m 95 #[.val (.long q0), .second, .val (.long q1), .second, .val (.int p2), .val (.int p3), .val (.int p4), .val (.int sel), .val (.long sp), .second, .val (.int ka), .val (.int ti), .unset, .unset, .unset, .unset, .unset] [(.int p4)]))
      refine own_by (fun _ k => XS.iconst Xj17.here hx rfl (hb hby at_95) k) ?_
      show own_G _ _ _ _ _ _ _ (Tj17.setTop (mkF m 96 #[.val (.long q0), .second, .val (.long q1), .second, .val (.int p2), .val (.int p3), .val (.int p4), .val (.int sel), .val (.long sp), .second, .val (.int ka), .val (.int ti), .unset, .unset, .unset, .unset, .unset] [(.int (4 : Int32)), (.int p4)]))
      refine own_by (fun _ k => XT.iushr Xj17.here hx rfl (hb hby at_96) rfl k) ?_
      show own_G _ _ _ _ _ _ _ (Tj17.setTop (mkF m 97 #[.val (.long q0), .second, .val (.long q1), .second, .val (.int p2), .val (.int p3), .val (.int p4), .val (.int sel), .val (.long sp), .second, .val (.int ka), .val (.int ti), .unset, .unset, .unset, .unset, .unset] [(.int (XT.ushr p4 (4 : Int32)))]))
      refine own_by (fun _ k => XS.bipush Xj17.here hx rfl (hb hby at_97) k) ?_
      show own_G _ _ _ _ _ _ _ (Tj17.setTop (mkF m 99 #[.val (.long q0), .second, .val (.long q1), .second, .val (.int p2), .val (.int p3), .val (.int p4), .val (.int sel), .val (.long sp), .second, .val (.int ka), .val (.int ti), .unset, .unset, .unset, .unset, .unset] [(.int (7 : Int32)), (.int (XT.ushr p4 (4 : Int32)))]))
      refine own_by (fun _ k => XS.iand Xj17.here hx rfl (hb hby at_99) rfl k) ?_
      show own_G _ _ _ _ _ _ _ (Tj17.setTop (mkF m 100 #[.val (.long q0), .second, .val (.long q1), .second, .val (.int p2), .val (.int p3), .val (.int p4), .val (.int sel), .val (.long sp), .second, .val (.int ka), .val (.int ti), .unset, .unset, .unset, .unset, .unset] [(.int ((XT.ushr p4 (4 : Int32)) &&& (7 : Int32)))]))
      refine own_by (fun _ k => XS.iload Xj17.here hx rfl (hb hby at_100) rfl  k) ?_
      show own_G _ _ _ _ _ _ _ (Tj17.setTop (mkF m 102 #[.val (.long q0), .second, .val (.long q1), .second, .val (.int p2), .val (.int p3), .val (.int p4), .val (.int sel), .val (.long sp), .second, .val (.int ka), .val (.int ti), .unset, .unset, .unset, .unset, .unset] [(.int p3), (.int ((XT.ushr p4 (4 : Int32)) &&& (7 : Int32)))]))
      refine own_by (fun _ k => XS.iload Xj17.here hx rfl (hb hby at_102) rfl  k) ?_
      show own_G _ _ _ _ _ _ _ (Tj17.setTop (mkF m 104 #[.val (.long q0), .second, .val (.long q1), .second, .val (.int p2), .val (.int p3), .val (.int p4), .val (.int sel), .val (.long sp), .second, .val (.int ka), .val (.int ti), .unset, .unset, .unset, .unset, .unset] [(.int ti), (.int p3), (.int ((XT.ushr p4 (4 : Int32)) &&& (7 : Int32)))]))
      obtain ⟨_, _, ⟨T18, L18, k18, n18⟩, -, X18, ⟨Lc18, hQ18, l18, y18, z18⟩, st18⟩ := Jvm.LawKit.callS Xj17 hx (y := (⟨"com/example/inua/inua/ReadingPositionPassesPinLaw", "pickIndex", "(III)I"⟩ : MethodName)) hown (mvT hZ (hw _ (List.mem_of_getElem? (i := 0) rfl))) (mvT hZ (hw _ (List.mem_of_getElem? (i := 1) rfl))) (mvT hZ (hw _ (List.mem_of_getElem? (i := 2) rfl))) (mvT hZ (hw _ (List.mem_of_getElem? (i := 3) rfl))) (by decide) (backOf (W := 0) (rm1 l Z aw hw [] ((XT.ushr p4 (4 : Int32)) &&& (7 : Int32)) p3 ti h0 n0 Z0 ) hZ (hw _ (List.mem_of_getElem? (i := 3) rfl)) (hw _ (List.mem_of_getElem? (i := 2) rfl)) (by decide) (by decide)) (g := (mkF m 104 #[.val (.long q0), .second, .val (.long q1), .second, .val (.int p2), .val (.int p3), .val (.int p4), .val (.int sel), .val (.long sp), .second, .val (.int ka), .val (.int ti), .unset, .unset, .unset, .unset, .unset] [(.int ti), (.int p3), (.int ((XT.ushr p4 (4 : Int32)) &&& (7 : Int32)))])) rfl (by rw [hml]; rfl) (argsL := [(.int ((XT.ushr p4 (4 : Int32)) &&& (7 : Int32))), (.int p3), (.int ti)]) (rest := []) (lenOf own_pd0 rfl) rfl (by show 2 * 0 + _ ≤ _; exact Nat.le_of_eq rfl) (hb hby at_104) (fun _ _ => ⟨rfl, ej17, (by decide : 0 + 0 ≤ _), (by decide : 0 + 0 ≤ _)⟩)
      dsimp only [Pt.U, Pt.locs, Pt.cells, Pt.slots] at X18 l18 y18 z18 st18 hQ18
      subst l18 y18 z18
      obtain ⟨rfl, Nq18, e18⟩ := hQ18
      have N18 := Fr.app Nj17 Nq18
      refine own_by (fun _ k => st18 _ k) ?_
      show own_G _ _ _ _ _ _ _ (T18.setTop (mkF m 107 #[.val (.long q0), .second, .val (.long q1), .second, .val (.int p2), .val (.int p3), .val (.int p4), .val (.int sel), .val (.long sp), .second, .val (.int ka), .val (.int ti), .unset, .unset, .unset, .unset, .unset] [(.int (own_pick ((XT.ushr p4 (4 : Int32)) &&& (7 : Int32)) p3 ti))]))
      refine own_by (fun _ k => XS.istore X18.here hx rfl (hb hby at_107) rfl (l' := #[.val (.long q0), .second, .val (.long q1), .second, .val (.int p2), .val (.int p3), .val (.int p4), .val (.int sel), .val (.long sp), .second, .val (.int ka), .val (.int ti), .val (.int (own_pick ((XT.ushr p4 (4 : Int32)) &&& (7 : Int32)) p3 ti)), .unset, .unset, .unset, .unset]) rfl k) ?_
      show own_G _ _ _ _ _ _ _ (T18.setTop (mkF m 109 #[.val (.long q0), .second, .val (.long q1), .second, .val (.int p2), .val (.int p3), .val (.int p4), .val (.int sel), .val (.long sp), .second, .val (.int ka), .val (.int ti), .val (.int (own_pick ((XT.ushr p4 (4 : Int32)) &&& (7 : Int32)) p3 ti)), .unset, .unset, .unset, .unset] []))
      have hsi : ¬ ((own_pick ((XT.ushr p4 (4 : Int32)) &&& (7 : Int32)) p3 ti)) < (0 : Int32) := own_pick_nn _ _ _ hti
      generalize (own_pick ((XT.ushr p4 (4 : Int32)) &&& (7 : Int32)) p3 ti) = si at hsi ⊢
      show own_G _ _ _ _ _ _ _ (T18.setTop (mkF m 109 #[.val (.long q0), .second, .val (.long q1), .second, .val (.int p2), .val (.int p3), .val (.int p4), .val (.int sel), .val (.long sp), .second, .val (.int ka), .val (.int ti), .val (.int si), .unset, .unset, .unset, .unset] []))
      obtain ⟨T19, h19, X19, e19, E19, A19, D19, -, st19⟩ := newO X18 hx hZ hown (hw _ (List.mem_of_getElem? (i := 5) rfl)) (hw _ (List.mem_of_getElem? (i := 6) rfl)) (hw _ (List.mem_of_getElem? (i := 7) rfl)) e18 (g := (mkF m 109 #[.val (.long q0), .second, .val (.long q1), .second, .val (.int p2), .val (.int p3), .val (.int p4), .val (.int sel), .val (.long sp), .second, .val (.int ka), .val (.int ti), .val (.int si), .unset, .unset, .unset, .unset] [])) rfl (hb hby at_109) (by decide) (by decide)
      obtain ⟨b19, g19⟩ : ∃ z, z = h0.size := ⟨_, rfl⟩
      rw [← g19] at A19 D19 st19
      have g_b19 : n0 ≤ b19 := Nat.le_trans Z0 (Nat.le_of_eq g19.symm)
      refine own_by st19 ?_
      have Z21 : n0 ≤ h19.size := Nat.le_trans Z0 E19.1
      have F19_position : Fld Z h19 b19 "com/example/inua/inua/StoredRecord$ReadingPosition" "position" "J" (.long (0 : Int64)) := D19 (Or.inr (hw _ (List.mem_of_getElem? (i := 15) rfl))) (ty := .long) (by decide)
      have F19_index : Fld Z h19 b19 "com/example/inua/inua/StoredRecord$ReadingPosition" "index" "I" (.int (0 : Int32)) := D19 (Or.inr (hw _ (List.mem_of_getElem? (i := 17) rfl))) (ty := .int) (by decide)
      show own_G _ _ _ _ _ _ _ (T19.setTop (mkF m 112 #[.val (.long q0), .second, .val (.long q1), .second, .val (.int p2), .val (.int p3), .val (.int p4), .val (.int sel), .val (.long sp), .second, .val (.int ka), .val (.int ti), .val (.int si), .unset, .unset, .unset, .unset] [(.ref b19)]))
      refine own_by (fun _ k => XS.dup X19.here hx rfl (hb hby at_112) rfl rfl k) ?_
      show own_G _ _ _ _ _ _ _ (T19.setTop (mkF m 113 #[.val (.long q0), .second, .val (.long q1), .second, .val (.int p2), .val (.int p3), .val (.int p4), .val (.int sel), .val (.long sp), .second, .val (.int ka), .val (.int ti), .val (.int si), .unset, .unset, .unset, .unset] [(.ref b19), (.ref b19)]))
      refine own_by (fun _ k => XT.lloadN X19.here hx rfl (hb hby at_113) rfl  k) ?_
      show own_G _ _ _ _ _ _ _ (T19.setTop (mkF m 114 #[.val (.long q0), .second, .val (.long q1), .second, .val (.int p2), .val (.int p3), .val (.int p4), .val (.int sel), .val (.long sp), .second, .val (.int ka), .val (.int ti), .val (.int si), .unset, .unset, .unset, .unset] [(.long q0), (.ref b19), (.ref b19)]))
      refine own_by (fun _ k => XS.iload X19.here hx rfl (hb hby at_114) rfl  k) ?_
      show own_G _ _ _ _ _ _ _ (T19.setTop (mkF m 116 #[.val (.long q0), .second, .val (.long q1), .second, .val (.int p2), .val (.int p3), .val (.int p4), .val (.int sel), .val (.long sp), .second, .val (.int ka), .val (.int ti), .val (.int si), .unset, .unset, .unset, .unset] [(.int ti), (.long q0), (.ref b19), (.ref b19)]))
      obtain ⟨_, _, ⟨T22, L22, k22, n22⟩, -, X22, ⟨Lc22, hQ22, l22, y22, z22⟩, st22⟩ := X19.specialBack hx (y := (⟨"com/example/inua/inua/StoredRecord$ReadingPosition", "<init>", "(JI)V"⟩ : MethodName)) rfl hown (mvT hZ (hw _ (List.mem_of_getElem? (i := 8) rfl))) (mvT hZ (hw _ (List.mem_of_getElem? (i := 9) rfl))) (mvT hZ (hw _ (List.mem_of_getElem? (i := 10) rfl))) (by decide) (backOf (W := 1) (rm2 l Z aw hw [] b19 q0 ti h19 n0 Z21 A19 F19_position F19_index g_b19 hti) hZ (hw _ (List.mem_of_getElem? (i := 10) rfl)) (hw _ (List.mem_of_getElem? (i := 7) rfl)) (by decide) (by decide)) (g := (mkF m 116 #[.val (.long q0), .second, .val (.long q1), .second, .val (.int p2), .val (.int p3), .val (.int p4), .val (.int sel), .val (.long sp), .second, .val (.int ka), .val (.int ti), .val (.int si), .unset, .unset, .unset, .unset] [(.int ti), (.long q0), (.ref b19), (.ref b19)])) rfl (by rw [hml]; rfl) (Steps.refl _) (a := b19) (argsL := [(.long q0), (.int ti)]) (rest := [(.ref b19)]) (lenOf own_pd1 rfl) rfl (by show 2 * 0 + _ ≤ _; exact Nat.le_of_eq rfl) (hb hby at_116) (fun _ _ => ⟨rfl, e19, (by decide : 1 + 0 ≤ _), (by decide : 2 + 0 ≤ _)⟩)
      dsimp only [Pt.U, Pt.locs, Pt.cells, Pt.slots] at X22 l22 y22 z22 st22 hQ22
      subst l22 y22 z22
      obtain ⟨h22, e22⟩ : ∃ h, T22.heap = h := ⟨_, rfl⟩
      rw [e22] at hQ22
      obtain ⟨rfl, Nq22, K22, E22, G22_0, G22_1⟩ := hQ22
      have N22 := Fr.app N18 Nq22
      have F23_0 := A19.keep K22
      have Z24 : n0 ≤ h22.size := Nat.le_trans Z21 K22.1
      refine own_by (fun _ k => st22.trans k) ?_
      show own_G _ _ _ _ _ _ _ (T22.setTop (mkF m 119 #[.val (.long q0), .second, .val (.long q1), .second, .val (.int p2), .val (.int p3), .val (.int p4), .val (.int sel), .val (.long sp), .second, .val (.int ka), .val (.int ti), .val (.int si), .unset, .unset, .unset, .unset] [(.ref b19)]))
      refine own_by (fun _ k => XS.astore X22.here hx rfl (hb hby at_119) rfl rfl (l' := #[.val (.long q0), .second, .val (.long q1), .second, .val (.int p2), .val (.int p3), .val (.int p4), .val (.int sel), .val (.long sp), .second, .val (.int ka), .val (.int ti), .val (.int si), .val (.ref b19), .unset, .unset, .unset]) rfl k) ?_
      show own_G _ _ _ _ _ _ _ (T22.setTop (mkF m 121 #[.val (.long q0), .second, .val (.long q1), .second, .val (.int p2), .val (.int p3), .val (.int p4), .val (.int sel), .val (.long sp), .second, .val (.int ka), .val (.int ti), .val (.int si), .val (.ref b19), .unset, .unset, .unset] []))
      obtain ⟨T25, h25, X25, e25, E25, A25, D25, -, st25⟩ := newO X22 hx hZ hown (hw _ (List.mem_of_getElem? (i := 5) rfl)) (hw _ (List.mem_of_getElem? (i := 6) rfl)) (hw _ (List.mem_of_getElem? (i := 7) rfl)) e22 (g := (mkF m 121 #[.val (.long q0), .second, .val (.long q1), .second, .val (.int p2), .val (.int p3), .val (.int p4), .val (.int sel), .val (.long sp), .second, .val (.int ka), .val (.int ti), .val (.int si), .val (.ref b19), .unset, .unset, .unset] [])) rfl (hb hby at_121) (by decide) (by decide)
      obtain ⟨b25, g25⟩ : ∃ z, z = h22.size := ⟨_, rfl⟩
      rw [← g25] at A25 D25 st25
      have ne_b19_b25 : b19 ≠ b25 := Nat.ne_of_lt (Nat.lt_of_lt_of_le E22.lt (Nat.le_of_eq g25.symm))
      have g_b25 : n0 ≤ b25 := Nat.le_trans Z24 (Nat.le_of_eq g25.symm)
      refine own_by st25 ?_
      have F26_0 := E22.ext E25
      have F26_1 := G22_0.ext E25
      have F26_2 := G22_1.ext E25
      have Z27 : n0 ≤ h25.size := Nat.le_trans Z24 E25.1
      have F25_position : Fld Z h25 b25 "com/example/inua/inua/StoredRecord$ReadingPosition" "position" "J" (.long (0 : Int64)) := D25 (Or.inr (hw _ (List.mem_of_getElem? (i := 15) rfl))) (ty := .long) (by decide)
      have F25_index : Fld Z h25 b25 "com/example/inua/inua/StoredRecord$ReadingPosition" "index" "I" (.int (0 : Int32)) := D25 (Or.inr (hw _ (List.mem_of_getElem? (i := 17) rfl))) (ty := .int) (by decide)
      show own_G _ _ _ _ _ _ _ (T25.setTop (mkF m 124 #[.val (.long q0), .second, .val (.long q1), .second, .val (.int p2), .val (.int p3), .val (.int p4), .val (.int sel), .val (.long sp), .second, .val (.int ka), .val (.int ti), .val (.int si), .val (.ref b19), .unset, .unset, .unset] [(.ref b25)]))
      refine own_by (fun _ k => XS.dup X25.here hx rfl (hb hby at_124) rfl rfl k) ?_
      show own_G _ _ _ _ _ _ _ (T25.setTop (mkF m 125 #[.val (.long q0), .second, .val (.long q1), .second, .val (.int p2), .val (.int p3), .val (.int p4), .val (.int sel), .val (.long sp), .second, .val (.int ka), .val (.int ti), .val (.int si), .val (.ref b19), .unset, .unset, .unset] [(.ref b25), (.ref b25)]))
      refine own_by (fun _ k => XT.lload X25.here hx rfl (hb hby at_125) rfl  k) ?_
      show own_G _ _ _ _ _ _ _ (T25.setTop (mkF m 127 #[.val (.long q0), .second, .val (.long q1), .second, .val (.int p2), .val (.int p3), .val (.int p4), .val (.int sel), .val (.long sp), .second, .val (.int ka), .val (.int ti), .val (.int si), .val (.ref b19), .unset, .unset, .unset] [(.long sp), (.ref b25), (.ref b25)]))
      refine own_by (fun _ k => XS.iload X25.here hx rfl (hb hby at_127) rfl  k) ?_
      show own_G _ _ _ _ _ _ _ (T25.setTop (mkF m 129 #[.val (.long q0), .second, .val (.long q1), .second, .val (.int p2), .val (.int p3), .val (.int p4), .val (.int sel), .val (.long sp), .second, .val (.int ka), .val (.int ti), .val (.int si), .val (.ref b19), .unset, .unset, .unset] [(.int si), (.long sp), (.ref b25), (.ref b25)]))
      obtain ⟨_, _, ⟨T28, L28, k28, n28⟩, -, X28, ⟨Lc28, hQ28, l28, y28, z28⟩, st28⟩ := X25.specialBack hx (y := (⟨"com/example/inua/inua/StoredRecord$ReadingPosition", "<init>", "(JI)V"⟩ : MethodName)) rfl hown (mvT hZ (hw _ (List.mem_of_getElem? (i := 8) rfl))) (mvT hZ (hw _ (List.mem_of_getElem? (i := 9) rfl))) (mvT hZ (hw _ (List.mem_of_getElem? (i := 10) rfl))) (by decide) (backOf (W := 1) (rm2 l Z aw hw [] b25 sp si h25 n0 Z27 A25 F25_position F25_index g_b25 hsi) hZ (hw _ (List.mem_of_getElem? (i := 10) rfl)) (hw _ (List.mem_of_getElem? (i := 7) rfl)) (by decide) (by decide)) (g := (mkF m 129 #[.val (.long q0), .second, .val (.long q1), .second, .val (.int p2), .val (.int p3), .val (.int p4), .val (.int sel), .val (.long sp), .second, .val (.int ka), .val (.int ti), .val (.int si), .val (.ref b19), .unset, .unset, .unset] [(.int si), (.long sp), (.ref b25), (.ref b25)])) rfl (by rw [hml]; rfl) (Steps.refl _) (a := b25) (argsL := [(.long sp), (.int si)]) (rest := [(.ref b25)]) (lenOf own_pd1 rfl) rfl (by show 2 * 0 + _ ≤ _; exact Nat.le_of_eq rfl) (hb hby at_129) (fun _ _ => ⟨rfl, e25, (by decide : 2 + 0 ≤ _), (by decide : 4 + 0 ≤ _)⟩)
      dsimp only [Pt.U, Pt.locs, Pt.cells, Pt.slots] at X28 l28 y28 z28 st28 hQ28
      subst l28 y28 z28
      obtain ⟨h28, e28⟩ : ∃ h, T28.heap = h := ⟨_, rfl⟩
      rw [e28] at hQ28
      obtain ⟨rfl, Nq28, K28, E28, G28_0, G28_1⟩ := hQ28
      have N28 := Fr.app N22 Nq28
      have F29_0 := F26_0.keep K28
      have F29_1 := F26_1.keep K28 (ninS ne_b19_b25 nin0)
      have F29_2 := F26_2.keep K28 (ninS ne_b19_b25 nin0)
      have F29_3 := A25.keep K28
      have Z30 : n0 ≤ h28.size := Nat.le_trans Z27 K28.1
      refine own_by (fun _ k => st28.trans k) ?_
      show own_G _ _ _ _ _ _ _ (T28.setTop (mkF m 132 #[.val (.long q0), .second, .val (.long q1), .second, .val (.int p2), .val (.int p3), .val (.int p4), .val (.int sel), .val (.long sp), .second, .val (.int ka), .val (.int ti), .val (.int si), .val (.ref b19), .unset, .unset, .unset] [(.ref b25)]))
      refine own_by (fun _ k => XS.astore X28.here hx rfl (hb hby at_132) rfl rfl (l' := #[.val (.long q0), .second, .val (.long q1), .second, .val (.int p2), .val (.int p3), .val (.int p4), .val (.int sel), .val (.long sp), .second, .val (.int ka), .val (.int ti), .val (.int si), .val (.ref b19), .val (.ref b25), .unset, .unset]) rfl k) ?_
      have J146 : ∀ (Tj31 : State) (lj31 : List Loc) (Xj31 : Stand p l e room_1 s m #[(.long q0), (.long q1), (.int p2), (.int p3), (.int p4)] below meth c Tj31 lj31 2 4) (Nj31 : Fr n0 lj31) (ej31 : Tj31.heap = h28) (la : Int32) (hla : la = own_last si), own_G p.tables e below s (own_Q0 Z q0 q1 p2 p3 p4 h0 n0) room_1.cells room_1.slots (Tj31.setTop (mkF m 146 #[.val (.long q0), .second, .val (.long q1), .second, .val (.int p2), .val (.int p3), .val (.int p4), .val (.int sel), .val (.long sp), .second, .val (.int ka), .val (.int ti), .val (.int si), .val (.ref b19), .val (.ref b25), .unset, .unset] [(.int la)])) := by
        intro Tj31 lj31 Xj31 Nj31 ej31 la hla
        show own_G _ _ _ _ _ _ _ (Tj31.setTop (mkF m 146 #[.val (.long q0), .second, .val (.long q1), .second, .val (.int p2), .val (.int p3), .val (.int p4), .val (.int sel), .val (.long sp), .second, .val (.int ka), .val (.int ti), .val (.int si), .val (.ref b19), .val (.ref b25), .unset, .unset] [(.int la)]))
        refine own_by (fun _ k => XS.istore Xj31.here hx rfl (hb hby at_146) rfl (l' := #[.val (.long q0), .second, .val (.long q1), .second, .val (.int p2), .val (.int p3), .val (.int p4), .val (.int sel), .val (.long sp), .second, .val (.int ka), .val (.int ti), .val (.int si), .val (.ref b19), .val (.ref b25), .val (.int la), .unset]) rfl k) ?_
        have J174 : ∀ (Tj32 : State) (lj32 : List Loc) (Xj32 : Stand p l e room_1 s m #[(.long q0), (.long q1), (.int p2), (.int p3), (.int p4)] below meth c Tj32 lj32 2 4) (Nj32 : Fr n0 lj32) (ej32 : Tj32.heap = h28) (ex : Int32) (hex : ex = own_exp q0 ti sp la), own_G p.tables e below s (own_Q0 Z q0 q1 p2 p3 p4 h0 n0) room_1.cells room_1.slots (Tj32.setTop (mkF m 174 #[.val (.long q0), .second, .val (.long q1), .second, .val (.int p2), .val (.int p3), .val (.int p4), .val (.int sel), .val (.long sp), .second, .val (.int ka), .val (.int ti), .val (.int si), .val (.ref b19), .val (.ref b25), .val (.int la), .unset] [(.int ex)])) := by
          intro Tj32 lj32 Xj32 Nj32 ej32 ex hex
          show own_G _ _ _ _ _ _ _ (Tj32.setTop (mkF m 174 #[.val (.long q0), .second, .val (.long q1), .second, .val (.int p2), .val (.int p3), .val (.int p4), .val (.int sel), .val (.long sp), .second, .val (.int ka), .val (.int ti), .val (.int si), .val (.ref b19), .val (.ref b25), .val (.int la), .unset] [(.int ex)]))
          refine own_by (fun _ k => XS.istore Xj32.here hx rfl (hb hby at_174) rfl (l' := #[.val (.long q0), .second, .val (.long q1), .second, .val (.int p2), .val (.int p3), .val (.int p4), .val (.int sel), .val (.long sp), .second, .val (.int ka), .val (.int ti), .val (.int si), .val (.ref b19), .val (.ref b25), .val (.int la), .val (.int ex)]) rfl k) ?_
          show own_G _ _ _ _ _ _ _ (Tj32.setTop (mkF m 176 #[.val (.long q0), .second, .val (.long q1), .second, .val (.int p2), .val (.int p3), .val (.int p4), .val (.int sel), .val (.long sp), .second, .val (.int ka), .val (.int ti), .val (.int si), .val (.ref b19), .val (.ref b25), .val (.int la), .val (.int ex)] []))
          refine own_by (fun _ k => XS.aload Xj32.here hx rfl (hb hby at_176) rfl rfl k) ?_
          show own_G _ _ _ _ _ _ _ (Tj32.setTop (mkF m 178 #[.val (.long q0), .second, .val (.long q1), .second, .val (.int p2), .val (.int p3), .val (.int p4), .val (.int sel), .val (.long sp), .second, .val (.int ka), .val (.int ti), .val (.int si), .val (.ref b19), .val (.ref b25), .val (.int la), .val (.int ex)] [(.ref b19)]))
          refine own_by (fun _ k => XS.aload Xj32.here hx rfl (hb hby at_178) rfl rfl k) ?_
          show own_G _ _ _ _ _ _ _ (Tj32.setTop (mkF m 180 #[.val (.long q0), .second, .val (.long q1), .second, .val (.int p2), .val (.int p3), .val (.int p4), .val (.int sel), .val (.long sp), .second, .val (.int ka), .val (.int ti), .val (.int si), .val (.ref b19), .val (.ref b25), .val (.int la), .val (.int ex)] [(.ref b25), (.ref b19)]))
          obtain ⟨cq33, kq33, q33a, q33b, q33c⟩ := isOf hZ ej32 F29_0
          obtain ⟨_, _, ⟨T33, L33, k33, n33⟩, -, X33, ⟨Lc33, hQ33, l33, y33, z33⟩, st33⟩ := Xj32.virtualBack hx (y := (⟨"com/example/inua/inua/StoredRecord$ReadingPosition", "passes", "(Lcom/example/inua/inua/StoredRecord$ReadingPosition;)Z"⟩ : MethodName)) (z := (⟨"com/example/inua/inua/StoredRecord$ReadingPosition", "passes", "(Lcom/example/inua/inua/StoredRecord$ReadingPosition;)Z"⟩ : MethodName)) hown (mvT hZ (hw _ (List.mem_of_getElem? (i := 18) rfl))) (mvT hZ (hw _ (List.mem_of_getElem? (i := 19) rfl))) (notFace_of_selects (args := #[]) (mvT hZ (hw _ (List.mem_of_getElem? (i := 21) rfl)))) (mvT hZ (hw _ (List.mem_of_getElem? (i := 21) rfl))) (mvT hZ (hw _ (List.mem_of_getElem? (i := 20) rfl))) (by decide) (backOf (W := 0) (rm3 l Z aw hw [] b19 b25 q0 ti sp si h28 n0 Z30 F29_1 F29_2 G28_0 G28_1) hZ (hw _ (List.mem_of_getElem? (i := 22) rfl)) (hw _ (List.mem_of_getElem? (i := 7) rfl)) (by decide) (by decide)) q33a q33c (g := (mkF m 180 #[.val (.long q0), .second, .val (.long q1), .second, .val (.int p2), .val (.int p3), .val (.int p4), .val (.int sel), .val (.long sp), .second, .val (.int ka), .val (.int ti), .val (.int si), .val (.ref b19), .val (.ref b25), .val (.int la), .val (.int ex)] [(.ref b25), (.ref b19)])) rfl (by rw [hml]; rfl) (Steps.refl _) (argsL := [(.ref b25)]) (rest := []) (lenOf own_pd2 rfl) rfl (by show 2 * 0 + _ ≤ _; exact Nat.le_of_eq rfl) (hb hby at_180) (fun _ _ => ⟨rfl, ej32, (by decide : 2 + 0 ≤ _), (by decide : 4 + 0 ≤ _)⟩)
          dsimp only [Pt.U, Pt.locs, Pt.cells, Pt.slots] at X33 l33 y33 z33 st33 hQ33
          subst l33 y33 z33
          obtain ⟨rfl, Nq33, e33⟩ := hQ33
          have N33 := Fr.app Nj32 Nq33
          refine own_by (fun _ k => st33.trans k) ?_
          show own_G _ _ _ _ _ _ _ (T33.setTop (mkF m 183 #[.val (.long q0), .second, .val (.long q1), .second, .val (.int p2), .val (.int p3), .val (.int p4), .val (.int sel), .val (.long sp), .second, .val (.int ka), .val (.int ti), .val (.int si), .val (.ref b19), .val (.ref b25), .val (.int la), .val (.int ex)] [(.int (own_passes q0 ti sp si))]))
          refine own_by (fun _ k => XS.iload X33.here hx rfl (hb hby at_183) rfl  k) ?_
          show own_G _ _ _ _ _ _ _ (T33.setTop (mkF m 185 #[.val (.long q0), .second, .val (.long q1), .second, .val (.int p2), .val (.int p3), .val (.int p4), .val (.int sel), .val (.long sp), .second, .val (.int ka), .val (.int ti), .val (.int si), .val (.ref b19), .val (.ref b25), .val (.int la), .val (.int ex)] [(.int ex), (.int (own_passes q0 ti sp si))]))
          have hc185 : (own_passes q0 ti sp si) = ex := (by rw [hex, hla]; exact own_same _ _ _ _ hsi)
          refine own_by (fun _ k => XS.icmpNo X33.here hx rfl (hb hby at_185) rfl (XT.ii_ne_f hc185) k) ?_
          show own_G _ _ _ _ _ _ _ (T33.setTop (mkF m 188 #[.val (.long q0), .second, .val (.long q1), .second, .val (.int p2), .val (.int p3), .val (.int p4), .val (.int sel), .val (.long sp), .second, .val (.int ka), .val (.int ti), .val (.int si), .val (.ref b19), .val (.ref b25), .val (.int la), .val (.int ex)] []))
          refine own_by (fun _ k => XS.iconst X33.here hx rfl (hb hby at_188) k) ?_
          show own_G _ _ _ _ _ _ _ (T33.setTop (mkF m 189 #[.val (.long q0), .second, .val (.long q1), .second, .val (.int p2), .val (.int p3), .val (.int p4), .val (.int sel), .val (.long sp), .second, .val (.int ka), .val (.int ti), .val (.int si), .val (.ref b19), .val (.ref b25), .val (.int la), .val (.int ex)] [(.int (1 : Int32))]))
          refine own_by (fun _ k => XS.goto X33.here hx rfl (pc0 := 189) (pc' := 193) rfl (hb hby at_189) (by decide) (by decide) k) ?_
          show own_G _ _ _ _ _ _ _ (T33.setTop (mkF m 193 #[.val (.long q0), .second, .val (.long q1), .second, .val (.int p2), .val (.int p3), .val (.int p4), .val (.int sel), .val (.long sp), .second, .val (.int ka), .val (.int ti), .val (.int si), .val (.ref b19), .val (.ref b25), .val (.int la), .val (.int ex)] [(.int (1 : Int32))]))
          exact own_end X33 (v := some (.int (nar .boolean (1 : Int32)))) (fun h => by rw [Bd.returns] at h; cases h) (BodyLoose.notSynchronized Bd) (fun fs hr => retN X33 hx (t := .boolean) Bd.returns (by simp) (hb hby at_193) hr) (by rw [e33]; exact ⟨rfl, N33⟩) (by decide) (by decide)
        show own_G _ _ _ _ _ _ _ (Tj31.setTop (mkF m 148 #[.val (.long q0), .second, .val (.long q1), .second, .val (.int p2), .val (.int p3), .val (.int p4), .val (.int sel), .val (.long sp), .second, .val (.int ka), .val (.int ti), .val (.int si), .val (.ref b19), .val (.ref b25), .val (.int la), .unset] []))
        refine own_by (fun _ k => XT.lload Xj31.here hx rfl (hb hby at_148) rfl  k) ?_
        show own_G _ _ _ _ _ _ _ (Tj31.setTop (mkF m 150 #[.val (.long q0), .second, .val (.long q1), .second, .val (.int p2), .val (.int p3), .val (.int p4), .val (.int sel), .val (.long sp), .second, .val (.int ka), .val (.int ti), .val (.int si), .val (.ref b19), .val (.ref b25), .val (.int la), .unset] [(.long sp)]))
        refine own_by (fun _ k => XT.lloadN Xj31.here hx rfl (hb hby at_150) rfl  k) ?_
        show own_G _ _ _ _ _ _ _ (Tj31.setTop (mkF m 151 #[.val (.long q0), .second, .val (.long q1), .second, .val (.int p2), .val (.int p3), .val (.int p4), .val (.int sel), .val (.long sp), .second, .val (.int ka), .val (.int ti), .val (.int si), .val (.ref b19), .val (.ref b25), .val (.int la), .unset] [(.long q0), (.long sp)]))
        refine own_by (fun _ k => XT.lcmp Xj31.here hx rfl (hb hby at_151) rfl k) ?_
        show own_G _ _ _ _ _ _ _ (Tj31.setTop (mkF m 152 #[.val (.long q0), .second, .val (.long q1), .second, .val (.int p2), .val (.int p3), .val (.int p4), .val (.int sel), .val (.long sp), .second, .val (.int ka), .val (.int ti), .val (.int si), .val (.ref b19), .val (.ref b25), .val (.int la), .unset] [(.int (XT.cmpL sp q0))]))
        by_cases hc152 : sp < q0
        · refine own_by (fun _ k => XS.ifYes Xj31.here hx rfl (pc0 := 152) (pc' := 169) rfl (hb hby at_152) rfl (XT.ll_lt_t hc152) (by decide) (by decide) k) ?_
          show own_G _ _ _ _ _ _ _ (Tj31.setTop (mkF m 169 #[.val (.long q0), .second, .val (.long q1), .second, .val (.int p2), .val (.int p3), .val (.int p4), .val (.int sel), .val (.long sp), .second, .val (.int ka), .val (.int ti), .val (.int si), .val (.ref b19), .val (.ref b25), .val (.int la), .unset] []))
          refine own_by (fun _ k => XS.iconst Xj31.here hx rfl (hb hby at_169) k) ?_
          show own_G _ _ _ _ _ _ _ (Tj31.setTop (mkF m 170 #[.val (.long q0), .second, .val (.long q1), .second, .val (.int p2), .val (.int p3), .val (.int p4), .val (.int sel), .val (.long sp), .second, .val (.int ka), .val (.int ti), .val (.int si), .val (.ref b19), .val (.ref b25), .val (.int la), .unset] [(.int (1 : Int32))]))
          refine own_by (fun _ k => XS.goto Xj31.here hx rfl (pc0 := 170) (pc' := 174) rfl (hb hby at_170) (by decide) (by decide) k) ?_
          exact J174 Tj31 _ Xj31 Nj31 ej31 (1 : Int32) (by simp only [own_exp, if_pos hc152])
        · refine own_by (fun _ k => XS.ifNo Xj31.here hx rfl (hb hby at_152) rfl (XT.ll_lt_f hc152) k) ?_
          show own_G _ _ _ _ _ _ _ (Tj31.setTop (mkF m 155 #[.val (.long q0), .second, .val (.long q1), .second, .val (.int p2), .val (.int p3), .val (.int p4), .val (.int sel), .val (.long sp), .second, .val (.int ka), .val (.int ti), .val (.int si), .val (.ref b19), .val (.ref b25), .val (.int la), .unset] []))
          refine own_by (fun _ k => XT.lload Xj31.here hx rfl (hb hby at_155) rfl  k) ?_
          show own_G _ _ _ _ _ _ _ (Tj31.setTop (mkF m 157 #[.val (.long q0), .second, .val (.long q1), .second, .val (.int p2), .val (.int p3), .val (.int p4), .val (.int sel), .val (.long sp), .second, .val (.int ka), .val (.int ti), .val (.int si), .val (.ref b19), .val (.ref b25), .val (.int la), .unset] [(.long sp)]))
          refine own_by (fun _ k => XT.lloadN Xj31.here hx rfl (hb hby at_157) rfl  k) ?_
          show own_G _ _ _ _ _ _ _ (Tj31.setTop (mkF m 158 #[.val (.long q0), .second, .val (.long q1), .second, .val (.int p2), .val (.int p3), .val (.int p4), .val (.int sel), .val (.long sp), .second, .val (.int ka), .val (.int ti), .val (.int si), .val (.ref b19), .val (.ref b25), .val (.int la), .unset] [(.long q0), (.long sp)]))
          refine own_by (fun _ k => XT.lcmp Xj31.here hx rfl (hb hby at_158) rfl k) ?_
          show own_G _ _ _ _ _ _ _ (Tj31.setTop (mkF m 159 #[.val (.long q0), .second, .val (.long q1), .second, .val (.int p2), .val (.int p3), .val (.int p4), .val (.int sel), .val (.long sp), .second, .val (.int ka), .val (.int ti), .val (.int si), .val (.ref b19), .val (.ref b25), .val (.int la), .unset] [(.int (XT.cmpL sp q0))]))
          by_cases hc159 : sp = q0
          · refine own_by (fun _ k => XS.ifNo Xj31.here hx rfl (hb hby at_159) rfl (XT.ll_ne_f hc159) k) ?_
            show own_G _ _ _ _ _ _ _ (Tj31.setTop (mkF m 162 #[.val (.long q0), .second, .val (.long q1), .second, .val (.int p2), .val (.int p3), .val (.int p4), .val (.int sel), .val (.long sp), .second, .val (.int ka), .val (.int ti), .val (.int si), .val (.ref b19), .val (.ref b25), .val (.int la), .unset] []))
            refine own_by (fun _ k => XS.iload Xj31.here hx rfl (hb hby at_162) rfl  k) ?_
            show own_G _ _ _ _ _ _ _ (Tj31.setTop (mkF m 164 #[.val (.long q0), .second, .val (.long q1), .second, .val (.int p2), .val (.int p3), .val (.int p4), .val (.int sel), .val (.long sp), .second, .val (.int ka), .val (.int ti), .val (.int si), .val (.ref b19), .val (.ref b25), .val (.int la), .unset] [(.int la)]))
            refine own_by (fun _ k => XS.iload Xj31.here hx rfl (hb hby at_164) rfl  k) ?_
            show own_G _ _ _ _ _ _ _ (Tj31.setTop (mkF m 166 #[.val (.long q0), .second, .val (.long q1), .second, .val (.int p2), .val (.int p3), .val (.int p4), .val (.int sel), .val (.long sp), .second, .val (.int ka), .val (.int ti), .val (.int si), .val (.ref b19), .val (.ref b25), .val (.int la), .unset] [(.int ti), (.int la)]))
            by_cases hc166 : ti < la
            · refine own_by (fun _ k => XS.icmpYes Xj31.here hx rfl (pc0 := 166) (pc' := 173) rfl (hb hby at_166) rfl (XT.ii_gt_t hc166) (by decide) (by decide) k) ?_
              show own_G _ _ _ _ _ _ _ (Tj31.setTop (mkF m 173 #[.val (.long q0), .second, .val (.long q1), .second, .val (.int p2), .val (.int p3), .val (.int p4), .val (.int sel), .val (.long sp), .second, .val (.int ka), .val (.int ti), .val (.int si), .val (.ref b19), .val (.ref b25), .val (.int la), .unset] []))
              refine own_by (fun _ k => XS.iconst Xj31.here hx rfl (hb hby at_173) k) ?_
              exact J174 Tj31 _ Xj31 Nj31 ej31 (0 : Int32) (by simp only [own_exp, if_neg hc152, if_pos hc159, if_pos hc166])
            · refine own_by (fun _ k => XS.icmpNo Xj31.here hx rfl (hb hby at_166) rfl (XT.ii_gt_f hc166) k) ?_
              show own_G _ _ _ _ _ _ _ (Tj31.setTop (mkF m 169 #[.val (.long q0), .second, .val (.long q1), .second, .val (.int p2), .val (.int p3), .val (.int p4), .val (.int sel), .val (.long sp), .second, .val (.int ka), .val (.int ti), .val (.int si), .val (.ref b19), .val (.ref b25), .val (.int la), .unset] []))
              refine own_by (fun _ k => XS.iconst Xj31.here hx rfl (hb hby at_169) k) ?_
              show own_G _ _ _ _ _ _ _ (Tj31.setTop (mkF m 170 #[.val (.long q0), .second, .val (.long q1), .second, .val (.int p2), .val (.int p3), .val (.int p4), .val (.int sel), .val (.long sp), .second, .val (.int ka), .val (.int ti), .val (.int si), .val (.ref b19), .val (.ref b25), .val (.int la), .unset] [(.int (1 : Int32))]))
              refine own_by (fun _ k => XS.goto Xj31.here hx rfl (pc0 := 170) (pc' := 174) rfl (hb hby at_170) (by decide) (by decide) k) ?_
              exact J174 Tj31 _ Xj31 Nj31 ej31 (1 : Int32) (by simp only [own_exp, if_neg hc152, if_pos hc159, if_neg hc166])
          · refine own_by (fun _ k => XS.ifYes Xj31.here hx rfl (pc0 := 159) (pc' := 173) rfl (hb hby at_159) rfl (XT.ll_ne_t hc159) (by decide) (by decide) k) ?_
            show own_G _ _ _ _ _ _ _ (Tj31.setTop (mkF m 173 #[.val (.long q0), .second, .val (.long q1), .second, .val (.int p2), .val (.int p3), .val (.int p4), .val (.int sel), .val (.long sp), .second, .val (.int ka), .val (.int ti), .val (.int si), .val (.ref b19), .val (.ref b25), .val (.int la), .unset] []))
            refine own_by (fun _ k => XS.iconst Xj31.here hx rfl (hb hby at_173) k) ?_
            exact J174 Tj31 _ Xj31 Nj31 ej31 (0 : Int32) (by simp only [own_exp, if_neg hc152, if_neg hc159])
      show own_G _ _ _ _ _ _ _ (T28.setTop (mkF m 134 #[.val (.long q0), .second, .val (.long q1), .second, .val (.int p2), .val (.int p3), .val (.int p4), .val (.int sel), .val (.long sp), .second, .val (.int ka), .val (.int ti), .val (.int si), .val (.ref b19), .val (.ref b25), .unset, .unset] []))
      refine own_by (fun _ k => XS.iload X28.here hx rfl (hb hby at_134) rfl  k) ?_
      show own_G _ _ _ _ _ _ _ (T28.setTop (mkF m 136 #[.val (.long q0), .second, .val (.long q1), .second, .val (.int p2), .val (.int p3), .val (.int p4), .val (.int sel), .val (.long sp), .second, .val (.int ka), .val (.int ti), .val (.int si), .val (.ref b19), .val (.ref b25), .unset, .unset] [(.int si)]))
      by_cases hc136 : si = (0 : Int32)
      · refine own_by (fun _ k => XS.ifNo X28.here hx rfl (hb hby at_136) rfl (XT.i0_ne_f hc136) k) ?_
        show own_G _ _ _ _ _ _ _ (T28.setTop (mkF m 139 #[.val (.long q0), .second, .val (.long q1), .second, .val (.int p2), .val (.int p3), .val (.int p4), .val (.int sel), .val (.long sp), .second, .val (.int ka), .val (.int ti), .val (.int si), .val (.ref b19), .val (.ref b25), .unset, .unset] []))
        refine own_by (X28.ldcInt hx hown (mvT hZ (hw _ (List.mem_of_getElem? (i := 4) rfl))) (g := (mkF m 139 #[.val (.long q0), .second, .val (.long q1), .second, .val (.int p2), .val (.int p3), .val (.int p4), .val (.int sel), .val (.long sp), .second, .val (.int ka), .val (.int ti), .val (.int si), .val (.ref b19), .val (.ref b25), .unset, .unset] [])) rfl (hb hby at_139)) ?_
        show own_G _ _ _ _ _ _ _ (T28.setTop (mkF m 141 #[.val (.long q0), .second, .val (.long q1), .second, .val (.int p2), .val (.int p3), .val (.int p4), .val (.int sel), .val (.long sp), .second, .val (.int ka), .val (.int ti), .val (.int si), .val (.ref b19), .val (.ref b25), .unset, .unset] [(.int (2147483647 : Int32))]))
        refine own_by (fun _ k => XS.goto X28.here hx rfl (pc0 := 141) (pc' := 146) rfl (hb hby at_141) (by decide) (by decide) k) ?_
        exact J146 T28 _ X28 N28 e28 (2147483647 : Int32) (by simp only [own_last, if_pos hc136])
      · refine own_by (fun _ k => XS.ifYes X28.here hx rfl (pc0 := 136) (pc' := 144) rfl (hb hby at_136) rfl (XT.i0_ne_t hc136) (by decide) (by decide) k) ?_
        show own_G _ _ _ _ _ _ _ (T28.setTop (mkF m 144 #[.val (.long q0), .second, .val (.long q1), .second, .val (.int p2), .val (.int p3), .val (.int p4), .val (.int sel), .val (.long sp), .second, .val (.int ka), .val (.int ti), .val (.int si), .val (.ref b19), .val (.ref b25), .unset, .unset] []))
        refine own_by (fun _ k => XS.iload X28.here hx rfl (hb hby at_144) rfl  k) ?_
        exact J146 T28 _ X28 N28 e28 si (by simp only [own_last, if_neg hc136])
    show own_G _ _ _ _ _ _ _ (Tj16.setTop (mkF m 56 #[.val (.long q0), .second, .val (.long q1), .second, .val (.int p2), .val (.int p3), .val (.int p4), .val (.int sel), .val (.long sp), .second, .val (.int ka), .unset, .unset, .unset, .unset, .unset, .unset] []))
    refine own_by (fun _ k => XS.iload Xj16.here hx rfl (hb hby at_56) rfl  k) ?_
    show own_G _ _ _ _ _ _ _ (Tj16.setTop (mkF m 58 #[.val (.long q0), .second, .val (.long q1), .second, .val (.int p2), .val (.int p3), .val (.int p4), .val (.int sel), .val (.long sp), .second, .val (.int ka), .unset, .unset, .unset, .unset, .unset, .unset] [(.int ka)]))
    by_cases hc58 : ka = (0 : Int32)
    · refine own_by (fun _ k => XS.ifNo Xj16.here hx rfl (hb hby at_58) rfl (XT.i0_ne_f hc58) k) ?_
      show own_G _ _ _ _ _ _ _ (Tj16.setTop (mkF m 61 #[.val (.long q0), .second, .val (.long q1), .second, .val (.int p2), .val (.int p3), .val (.int p4), .val (.int sel), .val (.long sp), .second, .val (.int ka), .unset, .unset, .unset, .unset, .unset, .unset] []))
      refine own_by (fun _ k => XS.iconst Xj16.here hx rfl (hb hby at_61) k) ?_
      show own_G _ _ _ _ _ _ _ (Tj16.setTop (mkF m 62 #[.val (.long q0), .second, .val (.long q1), .second, .val (.int p2), .val (.int p3), .val (.int p4), .val (.int sel), .val (.long sp), .second, .val (.int ka), .unset, .unset, .unset, .unset, .unset, .unset] [(.int (0 : Int32))]))
      refine own_by (fun _ k => XS.goto Xj16.here hx rfl (pc0 := 62) (pc' := 91) rfl (hb hby at_62) (by decide) (by decide) k) ?_
      exact J91 Tj16 _ Xj16 Nj16 ej16 (0 : Int32) (by first | decide | exact own_msk _)
    · refine own_by (fun _ k => XS.ifYes Xj16.here hx rfl (pc0 := 58) (pc' := 65) rfl (hb hby at_58) rfl (XT.i0_ne_t hc58) (by decide) (by decide) k) ?_
      show own_G _ _ _ _ _ _ _ (Tj16.setTop (mkF m 65 #[.val (.long q0), .second, .val (.long q1), .second, .val (.int p2), .val (.int p3), .val (.int p4), .val (.int sel), .val (.long sp), .second, .val (.int ka), .unset, .unset, .unset, .unset, .unset, .unset] []))
      refine own_by (fun _ k => XS.iload Xj16.here hx rfl (hb hby at_65) rfl  k) ?_
      show own_G _ _ _ _ _ _ _ (Tj16.setTop (mkF m 67 #[.val (.long q0), .second, .val (.long q1), .second, .val (.int p2), .val (.int p3), .val (.int p4), .val (.int sel), .val (.long sp), .second, .val (.int ka), .unset, .unset, .unset, .unset, .unset, .unset] [(.int ka)]))
      refine own_by (fun _ k => XS.iconst Xj16.here hx rfl (hb hby at_67) k) ?_
      show own_G _ _ _ _ _ _ _ (Tj16.setTop (mkF m 68 #[.val (.long q0), .second, .val (.long q1), .second, .val (.int p2), .val (.int p3), .val (.int p4), .val (.int sel), .val (.long sp), .second, .val (.int ka), .unset, .unset, .unset, .unset, .unset, .unset] [(.int (1 : Int32)), (.int ka)]))
      by_cases hc68 : ka = (1 : Int32)
      · refine own_by (fun _ k => XS.icmpNo Xj16.here hx rfl (hb hby at_68) rfl (XT.ii_ne_f hc68) k) ?_
        show own_G _ _ _ _ _ _ _ (Tj16.setTop (mkF m 71 #[.val (.long q0), .second, .val (.long q1), .second, .val (.int p2), .val (.int p3), .val (.int p4), .val (.int sel), .val (.long sp), .second, .val (.int ka), .unset, .unset, .unset, .unset, .unset, .unset] []))
        refine own_by (Xj16.ldcInt hx hown (mvT hZ (hw _ (List.mem_of_getElem? (i := 4) rfl))) (g := (mkF m 71 #[.val (.long q0), .second, .val (.long q1), .second, .val (.int p2), .val (.int p3), .val (.int p4), .val (.int sel), .val (.long sp), .second, .val (.int ka), .unset, .unset, .unset, .unset, .unset, .unset] [])) rfl (hb hby at_71)) ?_
        show own_G _ _ _ _ _ _ _ (Tj16.setTop (mkF m 73 #[.val (.long q0), .second, .val (.long q1), .second, .val (.int p2), .val (.int p3), .val (.int p4), .val (.int sel), .val (.long sp), .second, .val (.int ka), .unset, .unset, .unset, .unset, .unset, .unset] [(.int (2147483647 : Int32))]))
        refine own_by (fun _ k => XS.goto Xj16.here hx rfl (pc0 := 73) (pc' := 91) rfl (hb hby at_73) (by decide) (by decide) k) ?_
        exact J91 Tj16 _ Xj16 Nj16 ej16 (2147483647 : Int32) (by first | decide | exact own_msk _)
      · refine own_by (fun _ k => XS.icmpYes Xj16.here hx rfl (pc0 := 68) (pc' := 76) rfl (hb hby at_68) rfl (XT.ii_ne_t hc68) (by decide) (by decide) k) ?_
        show own_G _ _ _ _ _ _ _ (Tj16.setTop (mkF m 76 #[.val (.long q0), .second, .val (.long q1), .second, .val (.int p2), .val (.int p3), .val (.int p4), .val (.int sel), .val (.long sp), .second, .val (.int ka), .unset, .unset, .unset, .unset, .unset, .unset] []))
        refine own_by (fun _ k => XS.iload Xj16.here hx rfl (hb hby at_76) rfl  k) ?_
        show own_G _ _ _ _ _ _ _ (Tj16.setTop (mkF m 78 #[.val (.long q0), .second, .val (.long q1), .second, .val (.int p2), .val (.int p3), .val (.int p4), .val (.int sel), .val (.long sp), .second, .val (.int ka), .unset, .unset, .unset, .unset, .unset, .unset] [(.int ka)]))
        refine own_by (fun _ k => XS.iconst Xj16.here hx rfl (hb hby at_78) k) ?_
        show own_G _ _ _ _ _ _ _ (Tj16.setTop (mkF m 79 #[.val (.long q0), .second, .val (.long q1), .second, .val (.int p2), .val (.int p3), .val (.int p4), .val (.int sel), .val (.long sp), .second, .val (.int ka), .unset, .unset, .unset, .unset, .unset, .unset] [(.int (2 : Int32)), (.int ka)]))
        by_cases hc79 : ka = (2 : Int32)
        · refine own_by (fun _ k => XS.icmpNo Xj16.here hx rfl (hb hby at_79) rfl (XT.ii_ne_f hc79) k) ?_
          show own_G _ _ _ _ _ _ _ (Tj16.setTop (mkF m 82 #[.val (.long q0), .second, .val (.long q1), .second, .val (.int p2), .val (.int p3), .val (.int p4), .val (.int sel), .val (.long sp), .second, .val (.int ka), .unset, .unset, .unset, .unset, .unset, .unset] []))
          refine own_by (fun _ k => XS.iload Xj16.here hx rfl (hb hby at_82) rfl  k) ?_
          show own_G _ _ _ _ _ _ _ (Tj16.setTop (mkF m 84 #[.val (.long q0), .second, .val (.long q1), .second, .val (.int p2), .val (.int p3), .val (.int p4), .val (.int sel), .val (.long sp), .second, .val (.int ka), .unset, .unset, .unset, .unset, .unset, .unset] [(.int p2)]))
          refine own_by (Xj16.ldcInt hx hown (mvT hZ (hw _ (List.mem_of_getElem? (i := 4) rfl))) (g := (mkF m 84 #[.val (.long q0), .second, .val (.long q1), .second, .val (.int p2), .val (.int p3), .val (.int p4), .val (.int sel), .val (.long sp), .second, .val (.int ka), .unset, .unset, .unset, .unset, .unset, .unset] [(.int p2)])) rfl (hb hby at_84)) ?_
          show own_G _ _ _ _ _ _ _ (Tj16.setTop (mkF m 86 #[.val (.long q0), .second, .val (.long q1), .second, .val (.int p2), .val (.int p3), .val (.int p4), .val (.int sel), .val (.long sp), .second, .val (.int ka), .unset, .unset, .unset, .unset, .unset, .unset] [(.int (2147483647 : Int32)), (.int p2)]))
          refine own_by (fun _ k => XS.iand Xj16.here hx rfl (hb hby at_86) rfl k) ?_
          show own_G _ _ _ _ _ _ _ (Tj16.setTop (mkF m 87 #[.val (.long q0), .second, .val (.long q1), .second, .val (.int p2), .val (.int p3), .val (.int p4), .val (.int sel), .val (.long sp), .second, .val (.int ka), .unset, .unset, .unset, .unset, .unset, .unset] [(.int (p2 &&& (2147483647 : Int32)))]))
          refine own_by (fun _ k => XS.goto Xj16.here hx rfl (pc0 := 87) (pc' := 91) rfl (hb hby at_87) (by decide) (by decide) k) ?_
          exact J91 Tj16 _ Xj16 Nj16 ej16 (p2 &&& (2147483647 : Int32)) (by first | decide | exact own_msk _)
        · refine own_by (fun _ k => XS.icmpYes Xj16.here hx rfl (pc0 := 79) (pc' := 90) rfl (hb hby at_79) rfl (XT.ii_ne_t hc79) (by decide) (by decide) k) ?_
          show own_G _ _ _ _ _ _ _ (Tj16.setTop (mkF m 90 #[.val (.long q0), .second, .val (.long q1), .second, .val (.int p2), .val (.int p3), .val (.int p4), .val (.int sel), .val (.long sp), .second, .val (.int ka), .unset, .unset, .unset, .unset, .unset, .unset] []))
          refine own_by (fun _ k => XS.iconst Xj16.here hx rfl (hb hby at_90) k) ?_
          exact J91 Tj16 _ Xj16 Nj16 ej16 (1 : Int32) (by first | decide | exact own_msk _)
  show own_G _ _ _ _ _ _ _ (s₁.setTop (mkF m 6 #[.val (.long q0), .second, .val (.long q1), .second, .val (.int p2), .val (.int p3), .val (.int p4), .val (.int sel), .unset, .unset, .unset, .unset, .unset, .unset, .unset, .unset, .unset] []))
  refine own_by (fun _ k => XS.iload X0.here hx rfl (hb hby at_6) rfl  k) ?_
  show own_G _ _ _ _ _ _ _ (s₁.setTop (mkF m 8 #[.val (.long q0), .second, .val (.long q1), .second, .val (.int p2), .val (.int p3), .val (.int p4), .val (.int sel), .unset, .unset, .unset, .unset, .unset, .unset, .unset, .unset, .unset] [(.int sel)]))
  by_cases hc8 : sel = (0 : Int32)
  · refine own_by (fun _ k => XS.ifNo X0.here hx rfl (hb hby at_8) rfl (XT.i0_ne_f hc8) k) ?_
    show own_G _ _ _ _ _ _ _ (s₁.setTop (mkF m 11 #[.val (.long q0), .second, .val (.long q1), .second, .val (.int p2), .val (.int p3), .val (.int p4), .val (.int sel), .unset, .unset, .unset, .unset, .unset, .unset, .unset, .unset, .unset] []))
    refine own_by (fun _ k => XT.lloadN X0.here hx rfl (hb hby at_11) rfl  k) ?_
    show own_G _ _ _ _ _ _ _ (s₁.setTop (mkF m 12 #[.val (.long q0), .second, .val (.long q1), .second, .val (.int p2), .val (.int p3), .val (.int p4), .val (.int sel), .unset, .unset, .unset, .unset, .unset, .unset, .unset, .unset, .unset] [(.long q0)]))
    refine own_by (fun _ k => XT.lstore X0.here hx rfl (hb hby at_12) rfl (l' := #[.val (.long q0), .second, .val (.long q1), .second, .val (.int p2), .val (.int p3), .val (.int p4), .val (.int sel), .val (.long q0), .second, .unset, .unset, .unset, .unset, .unset, .unset, .unset]) rfl k) ?_
    show own_G _ _ _ _ _ _ _ (s₁.setTop (mkF m 14 #[.val (.long q0), .second, .val (.long q1), .second, .val (.int p2), .val (.int p3), .val (.int p4), .val (.int sel), .val (.long q0), .second, .unset, .unset, .unset, .unset, .unset, .unset, .unset] []))
    refine own_by (fun _ k => XS.goto X0.here hx rfl (pc0 := 14) (pc' := 48) rfl (hb hby at_14) (by decide) (by decide) k) ?_
    exact J48 s₁ _ X0 N0 e0 q0
  · refine own_by (fun _ k => XS.ifYes X0.here hx rfl (pc0 := 8) (pc' := 17) rfl (hb hby at_8) rfl (XT.i0_ne_t hc8) (by decide) (by decide) k) ?_
    show own_G _ _ _ _ _ _ _ (s₁.setTop (mkF m 17 #[.val (.long q0), .second, .val (.long q1), .second, .val (.int p2), .val (.int p3), .val (.int p4), .val (.int sel), .unset, .unset, .unset, .unset, .unset, .unset, .unset, .unset, .unset] []))
    refine own_by (fun _ k => XS.iload X0.here hx rfl (hb hby at_17) rfl  k) ?_
    show own_G _ _ _ _ _ _ _ (s₁.setTop (mkF m 19 #[.val (.long q0), .second, .val (.long q1), .second, .val (.int p2), .val (.int p3), .val (.int p4), .val (.int sel), .unset, .unset, .unset, .unset, .unset, .unset, .unset, .unset, .unset] [(.int sel)]))
    refine own_by (fun _ k => XS.iconst X0.here hx rfl (hb hby at_19) k) ?_
    show own_G _ _ _ _ _ _ _ (s₁.setTop (mkF m 20 #[.val (.long q0), .second, .val (.long q1), .second, .val (.int p2), .val (.int p3), .val (.int p4), .val (.int sel), .unset, .unset, .unset, .unset, .unset, .unset, .unset, .unset, .unset] [(.int (1 : Int32)), (.int sel)]))
    by_cases hc20 : sel = (1 : Int32)
    · refine own_by (fun _ k => XS.icmpNo X0.here hx rfl (hb hby at_20) rfl (XT.ii_ne_f hc20) k) ?_
      show own_G _ _ _ _ _ _ _ (s₁.setTop (mkF m 23 #[.val (.long q0), .second, .val (.long q1), .second, .val (.int p2), .val (.int p3), .val (.int p4), .val (.int sel), .unset, .unset, .unset, .unset, .unset, .unset, .unset, .unset, .unset] []))
      refine own_by (fun _ k => XT.lloadN X0.here hx rfl (hb hby at_23) rfl  k) ?_
      show own_G _ _ _ _ _ _ _ (s₁.setTop (mkF m 24 #[.val (.long q0), .second, .val (.long q1), .second, .val (.int p2), .val (.int p3), .val (.int p4), .val (.int sel), .unset, .unset, .unset, .unset, .unset, .unset, .unset, .unset, .unset] [(.long q0)]))
      refine own_by (fun _ k => XT.lconst X0.here hx rfl (hb hby at_24) k) ?_
      show own_G _ _ _ _ _ _ _ (s₁.setTop (mkF m 25 #[.val (.long q0), .second, .val (.long q1), .second, .val (.int p2), .val (.int p3), .val (.int p4), .val (.int sel), .unset, .unset, .unset, .unset, .unset, .unset, .unset, .unset, .unset] [(.long (1 : Int64)), (.long q0)]))
      refine own_by (fun _ k => XT.lsub X0.here hx rfl (hb hby at_25) rfl k) ?_
      show own_G _ _ _ _ _ _ _ (s₁.setTop (mkF m 26 #[.val (.long q0), .second, .val (.long q1), .second, .val (.int p2), .val (.int p3), .val (.int p4), .val (.int sel), .unset, .unset, .unset, .unset, .unset, .unset, .unset, .unset, .unset] [(.long (q0 - (1 : Int64)))]))
      refine own_by (fun _ k => XT.lstore X0.here hx rfl (hb hby at_26) rfl (l' := #[.val (.long q0), .second, .val (.long q1), .second, .val (.int p2), .val (.int p3), .val (.int p4), .val (.int sel), .val (.long (q0 - (1 : Int64))), .second, .unset, .unset, .unset, .unset, .unset, .unset, .unset]) rfl k) ?_
      show own_G _ _ _ _ _ _ _ (s₁.setTop (mkF m 28 #[.val (.long q0), .second, .val (.long q1), .second, .val (.int p2), .val (.int p3), .val (.int p4), .val (.int sel), .val (.long (q0 - (1 : Int64))), .second, .unset, .unset, .unset, .unset, .unset, .unset, .unset] []))
      refine own_by (fun _ k => XS.goto X0.here hx rfl (pc0 := 28) (pc' := 48) rfl (hb hby at_28) (by decide) (by decide) k) ?_
      exact J48 s₁ _ X0 N0 e0 (q0 - (1 : Int64))
    · refine own_by (fun _ k => XS.icmpYes X0.here hx rfl (pc0 := 20) (pc' := 31) rfl (hb hby at_20) rfl (XT.ii_ne_t hc20) (by decide) (by decide) k) ?_
      show own_G _ _ _ _ _ _ _ (s₁.setTop (mkF m 31 #[.val (.long q0), .second, .val (.long q1), .second, .val (.int p2), .val (.int p3), .val (.int p4), .val (.int sel), .unset, .unset, .unset, .unset, .unset, .unset, .unset, .unset, .unset] []))
      refine own_by (fun _ k => XS.iload X0.here hx rfl (hb hby at_31) rfl  k) ?_
      show own_G _ _ _ _ _ _ _ (s₁.setTop (mkF m 33 #[.val (.long q0), .second, .val (.long q1), .second, .val (.int p2), .val (.int p3), .val (.int p4), .val (.int sel), .unset, .unset, .unset, .unset, .unset, .unset, .unset, .unset, .unset] [(.int sel)]))
      refine own_by (fun _ k => XS.iconst X0.here hx rfl (hb hby at_33) k) ?_
      show own_G _ _ _ _ _ _ _ (s₁.setTop (mkF m 34 #[.val (.long q0), .second, .val (.long q1), .second, .val (.int p2), .val (.int p3), .val (.int p4), .val (.int sel), .unset, .unset, .unset, .unset, .unset, .unset, .unset, .unset, .unset] [(.int (2 : Int32)), (.int sel)]))
      by_cases hc34 : sel = (2 : Int32)
      · refine own_by (fun _ k => XS.icmpNo X0.here hx rfl (hb hby at_34) rfl (XT.ii_ne_f hc34) k) ?_
        show own_G _ _ _ _ _ _ _ (s₁.setTop (mkF m 37 #[.val (.long q0), .second, .val (.long q1), .second, .val (.int p2), .val (.int p3), .val (.int p4), .val (.int sel), .unset, .unset, .unset, .unset, .unset, .unset, .unset, .unset, .unset] []))
        refine own_by (fun _ k => XT.lloadN X0.here hx rfl (hb hby at_37) rfl  k) ?_
        show own_G _ _ _ _ _ _ _ (s₁.setTop (mkF m 38 #[.val (.long q0), .second, .val (.long q1), .second, .val (.int p2), .val (.int p3), .val (.int p4), .val (.int sel), .unset, .unset, .unset, .unset, .unset, .unset, .unset, .unset, .unset] [(.long q0)]))
        refine own_by (fun _ k => XT.lconst X0.here hx rfl (hb hby at_38) k) ?_
        show own_G _ _ _ _ _ _ _ (s₁.setTop (mkF m 39 #[.val (.long q0), .second, .val (.long q1), .second, .val (.int p2), .val (.int p3), .val (.int p4), .val (.int sel), .unset, .unset, .unset, .unset, .unset, .unset, .unset, .unset, .unset] [(.long (1 : Int64)), (.long q0)]))
        refine own_by (fun _ k => XT.ladd X0.here hx rfl (hb hby at_39) rfl k) ?_
        show own_G _ _ _ _ _ _ _ (s₁.setTop (mkF m 40 #[.val (.long q0), .second, .val (.long q1), .second, .val (.int p2), .val (.int p3), .val (.int p4), .val (.int sel), .unset, .unset, .unset, .unset, .unset, .unset, .unset, .unset, .unset] [(.long (q0 + (1 : Int64)))]))
        refine own_by (fun _ k => XT.lstore X0.here hx rfl (hb hby at_40) rfl (l' := #[.val (.long q0), .second, .val (.long q1), .second, .val (.int p2), .val (.int p3), .val (.int p4), .val (.int sel), .val (.long (q0 + (1 : Int64))), .second, .unset, .unset, .unset, .unset, .unset, .unset, .unset]) rfl k) ?_
        show own_G _ _ _ _ _ _ _ (s₁.setTop (mkF m 42 #[.val (.long q0), .second, .val (.long q1), .second, .val (.int p2), .val (.int p3), .val (.int p4), .val (.int sel), .val (.long (q0 + (1 : Int64))), .second, .unset, .unset, .unset, .unset, .unset, .unset, .unset] []))
        refine own_by (fun _ k => XS.goto X0.here hx rfl (pc0 := 42) (pc' := 48) rfl (hb hby at_42) (by decide) (by decide) k) ?_
        exact J48 s₁ _ X0 N0 e0 (q0 + (1 : Int64))
      · refine own_by (fun _ k => XS.icmpYes X0.here hx rfl (pc0 := 34) (pc' := 45) rfl (hb hby at_34) rfl (XT.ii_ne_t hc34) (by decide) (by decide) k) ?_
        show own_G _ _ _ _ _ _ _ (s₁.setTop (mkF m 45 #[.val (.long q0), .second, .val (.long q1), .second, .val (.int p2), .val (.int p3), .val (.int p4), .val (.int sel), .unset, .unset, .unset, .unset, .unset, .unset, .unset, .unset, .unset] []))
        refine own_by (fun _ k => XT.lloadN X0.here hx rfl (hb hby at_45) rfl  k) ?_
        show own_G _ _ _ _ _ _ _ (s₁.setTop (mkF m 46 #[.val (.long q0), .second, .val (.long q1), .second, .val (.int p2), .val (.int p3), .val (.int p4), .val (.int sel), .unset, .unset, .unset, .unset, .unset, .unset, .unset, .unset, .unset] [(.long q1)]))
        refine own_by (fun _ k => XT.lstore X0.here hx rfl (hb hby at_46) rfl (l' := #[.val (.long q0), .second, .val (.long q1), .second, .val (.int p2), .val (.int p3), .val (.int p4), .val (.int sel), .val (.long q1), .second, .unset, .unset, .unset, .unset, .unset, .unset, .unset]) rfl k) ?_
        exact J48 s₁ _ X0 N0 e0 q1
set_option maxRecDepth 65536 in
set_option maxHeartbeats 40000000 in
theorem comes_1 {Post : Tables → Env → Array Value → State → Outcome → State → Prop} (hpost : ∀ tb e args s v u, (limb_1_1.after args s (.returned v) u = true ∧ limb_1_2.after args s (.returned v) u = true ∧ True) → FrameEnd s (.returned v) u (Jvm.fieldLocs frame_1_writes args s ++ Jvm.arrayLocs frame_1_arrays args s ++ Jvm.staticLocs frame_1_statics s) 16 128 → Post tb e args s (.returned v) u) :
    ArmFor flags0 classFile x code maxLocals ret World_1 tables_1 room_1 Calls_1 rest_1 Pre_1 Post := by
  intro l hfl _ _ p e ha hc hk s m args below hf hA hF happ hP
  obtain ⟨hcalls, hrest, hpre⟩ := hP
  obtain ⟨-, -, -, hnamed, -, -, -, hat⟩ := (Spec.applies_iff hf).mp happ
  obtain ⟨hg, hn⟩ := and_e (Cond.before_iff.mp (show (Jvm.Cond.and given_1 narrow_1).before args s = true from hpre))
  obtain ⟨gc, hg⟩ := and_e hg
  obtain ⟨g0, hg⟩ := and_e hg
  obtain ⟨g1, hg⟩ := and_e hg
  obtain ⟨g2, hg⟩ := and_e hg
  obtain ⟨g3, hg⟩ := and_e hg
  have g4 := hg
  obtain ⟨w0, w1, w2, w3, w4, rfl⟩ : ∃ w0 w1 w2 w3 w4 : Value, args = #[w0, w1, w2, w3, w4] := by
    have hs : args.size = 5 := by simpa [Cond.value, given_1] using gc
    obtain ⟨L⟩ := args
    match L, hs with
    | [w0, w1, w2, w3, w4], _ => exact ⟨w0, w1, w2, w3, w4, rfl⟩
  have hw := fun d (hd : d ∈ tables_1) => atoms_spec (ws := Jvm.Cond.code x code maxLocals ret :: tables_1) hat d (List.mem_cons_of_mem _ hd)
  obtain ⟨i0, ei0⟩ := isL_v g0
  obtain rfl : w0 = (.long i0) := Option.some.inj ei0
  obtain ⟨i1, ei1⟩ := isL_v g1
  obtain rfl : w1 = (.long i1) := Option.some.inj ei1
  obtain ⟨i2, ei2⟩ := is_v g2
  obtain rfl : w2 = (.int i2) := Option.some.inj ei2
  obtain ⟨i3, ei3⟩ := is_v g3
  obtain rfl : w3 = (.int i3) := Option.some.inj ei3
  obtain ⟨i4, ei4⟩ := is_v g4
  obtain rfl : w4 = (.int i4) := Option.some.inj ei4
  obtain ⟨n, o, h1, h2, h3, _, L, rfl, ⟨rfl, N⟩, hq⟩ := rm0 l s _ hw tables_1 i0 i1 i2 i3 i4  s.heap s.heap.size (Nat.le_refl _)  p e ha hc hk s m _ below hf ((Spec.applies_iff_loose hf).mp happ).1 ⟨rfl, State.Warmed39.refl s, rfl⟩ trivial
  refine ⟨n, _, h1, h2, h3, hpost _ _ _ _ _ _ ⟨Cond.after_iff.mpr rfl, Cond.after_iff.mpr (eq_i res_at (Term.int_eval (1)) rfl), trivial⟩ ⟨hq.1, hq.2.1, (hq.2.2.sift fun y hy => Or.inr (N y hy)).mono (by decide) (by decide)⟩⟩
theorem main_1_1 : Claimed_1_1 := comes_1 fun _ _ _ _ _ _ h hF => ⟨h.1, hF⟩
theorem main_1_2 : Claimed_1_2 := comes_1 fun _ _ _ _ _ _ h hF => ⟨h.2.1, hF⟩
end Jvm.Pilot.@@N@@
namespace Jvm.Pilot.@@N@@
open Jvm Jvm.ClassFile Sem Op Lib Jvm.Free Jvm.Stand Jvm.Pilot.@@N@@.Jvm.D
/-! MADE BY PROGRAM (witnessworld.py) out of the Statement's table words and the real class files: 10 classes; the members and pool entries that the words name. The judged class is class 1, her method 2. -/
namespace start1
open Jvm.ClassFile
def u (s : String) : CpInfo := .utf8 (stringToUtf16 s)
/-- a pool by its gaps: so many unusable entries, then the entry; so many at the end -/
def gap : Nat → List CpInfo → List CpInfo
  | 0, r => r
  | n + 1, r => .unusable :: gap n r
def poolList (es : List (Nat × CpInfo)) (last : Nat) : List CpInfo := es.foldr (fun e r => gap e.1 (e.2 :: r)) (gap last [])
def pool (es : List (Nat × CpInfo)) (last : Nat) : Array CpInfo := ⟨poolList es last⟩
def fileOf (pool : Array CpInfo) (this : Nat) (attrs : Array Attribute := #[]) (ms : Array MethodInfo := #[]) (fl : Nat := 33) (sup : Nat := 0) (ifs : Array Nat := #[]) (fds : Array FieldInfo := #[]) : ClassFile where
  minorVersion := 0
  majorVersion := 65
  constantPool := pool
  accessFlags := fl
  thisClass := this
  superClass := sup
  interfaces := ifs
  fields := fds
  methods := ms
  attributes := attrs
def plain (name : String) (sup : Option ClassId) : Class where
  name := name
  kind := .ordinary
  loader := none
  accessFlags := 33
  super := sup
  interfaces := #[]
  cf := none
  fields := #[]
  methods := #[]
  instanceTypes := #[]
  staticTypes := #[]
  resolved := #[]
  callSites := []
  init := .initialized
  statics := none
  mirror := none

def pool0 : Array CpInfo := pool [(5, u "<init>"), (0, u "()V"), (1, .class_ 10), (1, u "java/lang/Object")] 113

def k0c0 : Code := { maxStack := 0, maxLocals := 1, code := object_method_1_code, exceptionTable := #[], attributes := #[] }
def k0m0 : Method := { name := "<init>", desc := "()V", sig := { parameters := [], returnType := none }, accessFlags := 1, code := some k0c0 }
/-- java/lang/Object -/
def k0 : Class := { plain "java/lang/Object" none with
  accessFlags := 33
  interfaces := #[]
  cf := some (fileOf pool0 8 #[] #[{ accessFlags := 1, nameIndex := 5, descriptorIndex := 6, attributes := #[] }] 33 0 #[] #[])
  fields := #[]
  methods := #[k0m0]
  instanceTypes := #[]
  staticTypes := #[]
  resolved := Array.replicate 124 none
  statics := none }

def pool1 : Array CpInfo := pool [(2, .class_ 4), (1, u "java/lang/Object"), (0, u "<init>"), (0, u "()V"), (0, .integer 2147483647), (2, .methodref 11 12), (0, .class_ 13), (0, .nameAndType 14 15), (0, u "com/example/inua/inua/ReadingPositionPassesPinLaw"), (0, u "pickIndex"), (0, u "(III)I"), (0, .class_ 17), (0, u "com/example/inua/inua/StoredRecord$ReadingPosition"), (0, .methodref 16 19), (0, .nameAndType 5 20), (0, u "(JI)V"), (0, .methodref 16 22), (0, .nameAndType 23 24), (0, u "passes"), (0, u "(Lcom/example/inua/inua/StoredRecord$ReadingPosition;)Z"), (3, u "law"), (0, u "(JJIII)Z")] 6

def k1m0 : Method := { name := "<init>", desc := "()V", sig := { parameters := [], returnType := none }, accessFlags := 1, code := none }
def k1c1 : Code := { maxStack := 2, maxLocals := 4, code := method_2_code, exceptionTable := #[], attributes := #[] }
def k1m1 : Method := { name := "pickIndex", desc := "(III)I", sig := { parameters := [.int, .int, .int], returnType := some .int }, accessFlags := 10, code := some k1c1 }
def k1c2 : Code := { maxStack := 5, maxLocals := 17, code := code, exceptionTable := #[], attributes := #[] }
def k1m2 : Method := { name := "law", desc := "(JJIII)Z", sig := { parameters := [.long, .long, .int, .int, .int], returnType := some .boolean }, accessFlags := 9, code := some k1c2 }
/-- com/example/inua/inua/ReadingPositionPassesPinLaw -/
def k1 : Class := { plain "com/example/inua/inua/ReadingPositionPassesPinLaw" (some 0) with
  accessFlags := 49
  interfaces := #[]
  cf := some (fileOf pool1 11 #[] #[{ accessFlags := 1, nameIndex := 5, descriptorIndex := 6, attributes := #[] }, { accessFlags := 10, nameIndex := 14, descriptorIndex := 15, attributes := #[] }, { accessFlags := 9, nameIndex := 28, descriptorIndex := 29, attributes := #[] }] 49 2 #[] #[])
  fields := #[]
  methods := #[k1m0, k1m1, k1m2]
  instanceTypes := #[]
  staticTypes := #[]
  resolved := Array.replicate 36 none
  statics := none }

def pool2 : Array CpInfo := pool [(1, .class_ 2), (0, u "java/lang/Comparable"), (0, .class_ 4), (0, u "java/lang/Object")] 7

/-- java/lang/Comparable -/
def k2 : Class := { plain "java/lang/Comparable" (some 0) with
  accessFlags := 1537
  interfaces := #[]
  cf := some (fileOf pool2 1 #[] #[] 1537 3 #[] #[])
  fields := #[]
  methods := #[]
  instanceTypes := #[]
  staticTypes := #[]
  resolved := Array.replicate 12 none
  statics := none }

def pool3 : Array CpInfo := pool [(3, .methodref 4 5), (0, .class_ 6), (0, .nameAndType 7 8), (0, u "java/lang/Object"), (0, u "<init>"), (0, u "()V"), (9, .fieldref 19 20), (0, .class_ 21), (0, .nameAndType 22 23), (0, u "com/example/inua/inua/StoredRecord$ReadingPosition"), (0, u "position"), (0, u "J"), (0, .fieldref 19 25), (0, .nameAndType 26 27), (0, u "index"), (0, u "I"), (0, .integer 2147483647), (2, u "(JI)V"), (29, .class_ 62), (0, u "java/lang/Comparable"), (0, u "END"), (8, u "passes"), (0, u "(Lcom/example/inua/inua/StoredRecord$ReadingPosition;)Z"), (12, .class_ 87), (0, u "com/example/inua/inua/StoredRecord")] 18

def k3c0 : Code := { maxStack := 3, maxLocals := 4, code := prog_24_method_1_code, exceptionTable := #[], attributes := #[] }
def k3m0 : Method := { name := "<init>", desc := "(JI)V", sig := { parameters := [.long, .int], returnType := none }, accessFlags := 1, code := some k3c0 }
def k3c1 : Code := { maxStack := 4, maxLocals := 2, code := prog_24_method_5_code, exceptionTable := #[], attributes := #[] }
def k3m1 : Method := { name := "passes", desc := "(Lcom/example/inua/inua/StoredRecord$ReadingPosition;)Z", sig := { parameters := [(.object "com/example/inua/inua/StoredRecord$ReadingPosition")], returnType := some .boolean }, accessFlags := 0, code := some k3c1 }
/-- com/example/inua/inua/StoredRecord$ReadingPosition -/
def k3 : Class := { plain "com/example/inua/inua/StoredRecord$ReadingPosition" (some 0) with
  accessFlags := 49
  interfaces := #[2]
  cf := some (fileOf pool3 19 #[.nestHost 86] #[{ accessFlags := 1, nameIndex := 7, descriptorIndex := 31, attributes := #[] }, { accessFlags := 0, nameIndex := 72, descriptorIndex := 73, attributes := #[] }] 49 4 #[61] #[{ accessFlags := 26, nameIndex := 63, descriptorIndex := 27, attributes := #[] }, { accessFlags := 18, nameIndex := 22, descriptorIndex := 23, attributes := #[] }, { accessFlags := 18, nameIndex := 26, descriptorIndex := 27, attributes := #[] }])
  fields := #[{ name := "END", type := .int, accessFlags := 26, slot := 0, constantValue := 0 }, { name := "position", type := .long, accessFlags := 18, slot := 0, constantValue := 0 }, { name := "index", type := .int, accessFlags := 18, slot := 1, constantValue := 0 }]
  methods := #[k3m0, k3m1]
  instanceTypes := #[.long, .int]
  staticTypes := #[.int]
  resolved := Array.replicate 106 none
  statics := none }

def pool4 : Array CpInfo := pool [(1, u "java/lang/Cloneable"), (0, .class_ 1), (0, u "java/lang/Object"), (0, .class_ 3)] 3

/-- java/lang/Cloneable -/
def k4 : Class := { plain "java/lang/Cloneable" (some 0) with
  accessFlags := 1537
  interfaces := #[]
  cf := some (fileOf pool4 2 #[] #[] 1537 4 #[] #[])
  fields := #[]
  methods := #[]
  instanceTypes := #[]
  staticTypes := #[]
  resolved := Array.replicate 8 none
  statics := none }

def pool5 : Array CpInfo := pool [(1, u "java/io/Serializable"), (0, .class_ 1), (0, u "java/lang/Object"), (0, .class_ 3)] 3

/-- java/io/Serializable -/
def k5 : Class := { plain "java/io/Serializable" (some 0) with
  accessFlags := 1537
  interfaces := #[]
  cf := some (fileOf pool5 2 #[] #[] 1537 4 #[] #[])
  fields := #[]
  methods := #[]
  instanceTypes := #[]
  staticTypes := #[]
  resolved := Array.replicate 8 none
  statics := none }

/-- the primitive byte -/
def k6 : Class := { plain "byte" none with kind := .primitive 'B', accessFlags := 0x411 }
/-- [B -/
def k7 : Class := { plain "[B" (some 0) with kind := .array 6 .byte, interfaces := #[4, 5], accessFlags := 1041 }

/-- the primitive int -/
def k8 : Class := { plain "int" none with kind := .primitive 'I', accessFlags := 0x411 }
/-- [I -/
def k9 : Class := { plain "[I" (some 0) with kind := .array 8 .int, interfaces := #[4, 5], accessFlags := 1041 }

def heap : Heap := #[]
def classes : Array Class := #[k0, k1, k2, k3, k4, k5, k6, k7, k8, k9]
def interned : List (Array UInt16 × Addr) := []
def slotsUsed : Nat := 0
def theMethod : MethodId := ⟨1, 2⟩
def args0 : Array Value := #[.long 5, .long 5, .int 5, .int 5, .int 5]
def aboutOver (below : List Frame) : State where
  vm := { classes := classes, interned := interned.toArray }
  heap := heap
  slotsUsed := slotsUsed
  threads := #[{ frames := .invoking theMethod args0 :: below }]
def below0 : List Frame := [.native { method := ⟨0, 0⟩, args := #[] }]
def about1 : State := aboutOver below0
def p0 : Program := .bare "" "" ""
def e0 : Env := launch0.env 0 0 0
theorem w_frames : about1.frames = Frame.invoking theMethod args0 :: below0 := rfl
set_option maxRecDepth 65536 in
theorem w_args : argsFit about1.vm theMethod args0 = true := by decide +kernel
set_option maxRecDepth 65536 in
theorem w_heap : heapFits about1 = true := by decide +kernel
set_option maxRecDepth 65536 in
theorem w_runnable : about1.curStatus? = some .runnable := by decide +kernel
set_option maxRecDepth 65536 in
theorem w_alone : about1.alone = true := by decide +kernel
set_option maxRecDepth 65536 in
theorem w_named : about1.methodNamed? x = some theMethod := by decide +kernel
set_option maxRecDepth 65536 in
theorem w_hears : about1.hears theMethod below0 = true := by decide +kernel
set_option maxRecDepth 65536 in
theorem w_ripe : about1.ripe theMethod args0 below0 = true := by decide +kernel
theorem w_running : about1.status = .running := rfl
set_option maxRecDepth 65536 in
theorem w_room : about1.hasRoom e0.platform room_1 = true :=
  launch0.hasRoom_least _ room_1 (by decide +kernel) (by decide +kernel) (by decide +kernel) (by decide +kernel) (by decide +kernel) (by decide +kernel)
theorem allAtoms_all (ts : List Jvm.Cond) (a : Array Jvm.Value) (st : Jvm.State) : (allAtoms ts).before a st = ts.all (fun c => c.before a st) := by
  induction ts with
  | nil => rfl
  | cons c t ih =>
    show (Jvm.Cond.and c (allAtoms t)).before a st = _
    rw [Jvm.Cond.before_and, ih, List.all_cons]
def words1 : List Jvm.Cond := Jvm.Cond.code x code maxLocals ret :: tables_1
/-- a 'code' word, met by the world's own term for the bytes: nothing is compared byte by byte -/
theorem code_word {y : MethodName} {bytes : ByteArray} {mx : Nat} {rt : Option FieldType} {a : Array Value} {s : State} {m : MethodId} {meth : Method} {c : Code} (h1 : s.methodNamed? y = some m) (h2 : s.vm.method? m = some meth) (h3 : meth.code = some c) (h4 : c.code = bytes)
    (h5 : (c.maxLocals == mx && c.exceptionTable.isEmpty && decide (c.maxStack ≤ mostOperands) && decide (meth.sig.returnType = rt) && !meth.locks && decide (parseMethodDescriptor y.desc = some meth.sig)) = true) : (Jvm.Cond.code y bytes mx rt).before a s = true := by
  simp only [Bool.and_eq_true, beq_iff_eq, Bool.not_eq_true', decide_eq_true_eq] at h5
  obtain ⟨⟨⟨⟨⟨g1, g2⟩, g3⟩, g4⟩, g5⟩, g6⟩ := h5
  simp [Cond.before, Cond.holds, Cond.value, h1, h2, h3, h4, g1, g2, g3, g4, g5, g6]
def isCode : Jvm.Cond → Bool
  | .code _ _ _ _ => true
  | _ => false
theorem all_split {L : List Jvm.Cond} {P : Jvm.Cond → Bool} (h1 : L.all (fun c => isCode c || P c) = true) (h2 : ∀ c ∈ L.filter isCode, P c = true) : L.all P = true := by
  refine List.all_eq_true.mpr fun c hc => ?_
  have h := List.all_eq_true.mp h1 c hc
  rcases Bool.eq_false_or_eq_true (isCode c) with hi | hi
  · exact h2 c (List.mem_filter.mpr ⟨hc, hi⟩)
  · simpa [hi] using h
set_option maxRecDepth 65536 in
theorem w_c0 : (Jvm.Cond.code x code maxLocals ret).before args0 about1 = true := code_word (m := ⟨1, 2⟩) (meth := k1m2) (c := k1c2) (by decide +kernel) rfl rfl rfl (by decide +kernel)
set_option maxRecDepth 65536 in
theorem w_c1 : (Jvm.Cond.code ({ cls := "com/example/inua/inua/ReadingPositionPassesPinLaw", name := "pickIndex", desc := "(III)I" } : Jvm.MethodName) method_2_code (4 : Nat) (Option.some Jvm.ClassFile.FieldType.int)).before args0 about1 = true := code_word (m := ⟨1, 1⟩) (meth := k1m1) (c := k1c1) (by decide +kernel) rfl rfl rfl (by decide +kernel)
set_option maxRecDepth 65536 in
theorem w_c2 : (Jvm.Cond.code ({ cls := "com/example/inua/inua/StoredRecord$ReadingPosition", name := "<init>", desc := "(JI)V" } : Jvm.MethodName) prog_24_method_1_code (4 : Nat) (Option.none : Option Jvm.ClassFile.FieldType)).before args0 about1 = true := code_word (m := ⟨3, 0⟩) (meth := k3m0) (c := k3c0) (by decide +kernel) rfl rfl rfl (by decide +kernel)
set_option maxRecDepth 65536 in
theorem w_c3 : (Jvm.Cond.code ({ cls := "java/lang/Object", name := "<init>", desc := "()V" } : Jvm.MethodName) object_method_1_code (1 : Nat) (Option.none : Option Jvm.ClassFile.FieldType)).before args0 about1 = true := code_word (m := ⟨0, 0⟩) (meth := k0m0) (c := k0c0) (by decide +kernel) rfl rfl rfl (by decide +kernel)
set_option maxRecDepth 65536 in
theorem w_c4 : (Jvm.Cond.code ({ cls := "com/example/inua/inua/StoredRecord$ReadingPosition", name := "passes", desc := "(Lcom/example/inua/inua/StoredRecord$ReadingPosition;)Z" } : Jvm.MethodName) prog_24_method_5_code (2 : Nat) (Option.some Jvm.ClassFile.FieldType.boolean)).before args0 about1 = true := code_word (m := ⟨3, 1⟩) (meth := k3m1) (c := k3c1) (by decide +kernel) rfl rfl rfl (by decide +kernel)
def codes1 : List Jvm.Cond := [Jvm.Cond.code x code maxLocals ret, Jvm.Cond.code ({ cls := "com/example/inua/inua/ReadingPositionPassesPinLaw", name := "pickIndex", desc := "(III)I" } : Jvm.MethodName) method_2_code (4 : Nat) (Option.some Jvm.ClassFile.FieldType.int), Jvm.Cond.code ({ cls := "com/example/inua/inua/StoredRecord$ReadingPosition", name := "<init>", desc := "(JI)V" } : Jvm.MethodName) prog_24_method_1_code (4 : Nat) (Option.none : Option Jvm.ClassFile.FieldType), Jvm.Cond.code ({ cls := "java/lang/Object", name := "<init>", desc := "()V" } : Jvm.MethodName) object_method_1_code (1 : Nat) (Option.none : Option Jvm.ClassFile.FieldType), Jvm.Cond.code ({ cls := "com/example/inua/inua/StoredRecord$ReadingPosition", name := "passes", desc := "(Lcom/example/inua/inua/StoredRecord$ReadingPosition;)Z" } : Jvm.MethodName) prog_24_method_5_code (2 : Nat) (Option.some Jvm.ClassFile.FieldType.boolean)]
set_option maxRecDepth 65536 in
theorem codes_eq : words1.filter isCode = codes1 := rfl
theorem w_codes : ∀ c ∈ words1.filter isCode, c.before args0 about1 = true := by
  rw [codes_eq]
  intro c hc
  simp only [codes1, List.mem_cons, List.not_mem_nil, or_false] at hc
  rcases hc with rfl | rfl | rfl | rfl | rfl
  · exact w_c0
  · exact w_c1
  · exact w_c2
  · exact w_c3
  · exact w_c4
set_option maxRecDepth 65536 in
theorem w_t1 : (words1.take 24).all (fun c => isCode c || c.before args0 about1) = true := by decide +kernel
set_option maxRecDepth 65536 in
theorem w_t2 : (words1.drop 24).all (fun c => isCode c || c.before args0 about1) = true := by decide +kernel
theorem w_tables : (allAtoms (Jvm.Cond.code x code maxLocals ret :: tables_1)).before args0 about1 = true := by
  rw [allAtoms_all]
  show words1.all (fun c => c.before args0 about1) = true
  refine all_split ?_ w_codes
  rw [← List.take_append_drop 24 words1, List.all_append, w_t1, w_t2]
  rfl
set_option maxRecDepth 65536 in
theorem w_case : (Jvm.Cond.and given_1 narrow_1).before args0 about1 = true := by decide +kernel
theorem w_applies : (headSpec (Jvm.Cond.code x code maxLocals ret :: tables_1) room_1).applies x e0.platform about1 = true :=
  (Spec.applies_iff w_frames).mpr ⟨w_running, w_runnable, w_alone, w_named, w_hears, w_ripe, w_room, w_tables⟩
theorem atStart : AtStart classFile x code maxLocals ret World_1 tables_1 room_1 Calls_1 rest_1 Pre_1 launch0 p0 e0 about1 theMethod args0 below0 :=
  ⟨lists_1, trivial, launch0.admits_env _ _ _, launch0.least_env, fairChoices_fair.cas, fairChoices_fair.clock, w_frames, w_args, w_heap, w_applies, trivial, trivial, w_case⟩
end start1
theorem witness_1 : WitnessClaimed_1 := ⟨start1.p0, start1.e0, start1.about1, start1.theMethod, start1.args0, start1.below0, start1.atStart⟩
end Jvm.Pilot.@@N@@
