import JvmDerived
import JvmDerived.Pilot.@@N@@Statement
import JvmDerived.Pilot.@@N@@Code
set_option linter.unusedVariables false
set_option linter.unusedSimpArgs false
namespace Jvm.RoadKit
open Sem ClassFile Op Lib Jvm.Stand Jvm.Free Jvm.LawKit
section New
variable {p : Program} {l : Launch} {e : Env} {R : Room} {s : State} {m : MethodId} {args : Array Value} {below : List Frame} {meth : Method} {c : Code} {T : State} {locs : List Loc} {cells slots : Nat}
theorem retI (X : Stand p l e R s m args below meth c T locs cells slots) (hx : p.tables.exec = Jvm.exec) {pc : Nat} {Ls : Array Slot} {z : Int32} {rest : List Value} (hret : meth.sig.returnType = some .int) (hd : decode c.code pc = .ok (.ireturn, 1)) {fs : List Frame}
    (hl : ∀ (f : JFrame) (acts : List Action), f.method = m → f.locked = none → f.entered = [] → (doReturn e (T.setTop f) acts (some (.int z))).1 = T.setFrames fs) : Steps p.tables e below (T.setTop (mkF m pc Ls (.int z :: rest))) (T.setFrames fs) := by
  have hm' : T.vm.method? m = some meth := X.method'
  have hn : narrow .int (.int z) = .int z := rfl
  show Steps p.tables e below (T.setTop { method := m, pc := pc, locals := Ls, stack := _ :: rest, locked := none }) _
  jvm_step X.here [X.here.top, hx, hd, hm', hret, hn]
  first | (intro acts; rw [hl _ acts rfl rfl rfl]) | rw [hl _ _ rfl rfl rfl]
  exact Steps.refl _
end New
end Jvm.RoadKit
namespace Jvm.Pilot.@@N@@
open Jvm Jvm.ClassFile Sem Op Lib Jvm.Free Jvm.Stand Jvm.LawKit Jvm.RoadKit Bundle Jvm.Pilot.@@N@@.Jvm.D
theorem own_d0 : FP.dconst0 = FP.l2d (0 : Int64) := by decide +kernel
theorem B53_0Int64 : B53 (0 : Int64) := by unfold B53; decide
theorem own_b53 (x : Int32) : B53 x.toInt64 := by
  unfold B53
  rw [Int32.toInt_toInt64]
  have h1 := Int32.le_toInt x
  have h2 := Int32.toInt_lt x
  omega
theorem own_pos {x : Int32} (h : (0 : Int32) < x) : (0 : Int32) < lcmpW x.toInt64 (0 : Int64) := by
  rw [lw_gt, Int64.lt_iff_toInt_lt, Int32.toInt_toInt64]
  rw [Int32.lt_iff_toInt_lt] at h
  exact h
theorem own_npos {x : Int32} (h : ¬ (0 : Int32) < x) : ¬ (0 : Int32) < lcmpW x.toInt64 (0 : Int64) := by
  rw [lw_gt, Int64.lt_iff_toInt_lt, Int32.toInt_toInt64]
  rw [Int32.lt_iff_toInt_lt] at h
  exact h
theorem own_gapI (a b : Int32) : (b.toInt64 - a.toInt64).toInt = b.toInt - a.toInt := by
  have h1 := Int32.le_toInt a
  have h2 := Int32.toInt_lt a
  have h3 := Int32.le_toInt b
  have h4 := Int32.toInt_lt b
  rw [Int64.toInt_sub, Int32.toInt_toInt64, Int32.toInt_toInt64]
  exact Int.bmod_eq_of_le (by omega) (by omega)
theorem own_gapL (a b : Int32) : lcmpW (b.toInt64 - a.toInt64) (0 : Int64) < 0 ↔ 0 < lcmpW a.toInt64 b.toInt64 := by
  rw [lw_lt, lw_gt, Int64.lt_iff_toInt_lt, Int64.lt_iff_toInt_lt, own_gapI, Int32.toInt_toInt64, Int32.toInt_toInt64]
  have e0 : (0 : Int64).toInt = 0 := by decide
  rw [e0]
  omega
theorem own_gapG (a b : Int32) : 0 < lcmpW (b.toInt64 - a.toInt64) (0 : Int64) ↔ 0 < lcmpW b.toInt64 a.toInt64 := by
  rw [lw_gt, lw_gt, Int64.lt_iff_toInt_lt, Int64.lt_iff_toInt_lt, own_gapI, Int32.toInt_toInt64, Int32.toInt_toInt64]
  have e0 : (0 : Int64).toInt = 0 := by decide
  rw [e0]
  omega
theorem ef_1 (m : MethodId) (x0 x1 x2 : UInt64) : entryFrame m #[(.double x0), (.double x1), (.double x2)] 6 = mkF m 0 #[.val (.double x0), .second, .val (.double x1), .second, .val (.double x2), .second] [] := by first | (simp [entryFrame, mkF, argsToLocals, Value.category]; done) | rfl
theorem d1_0 : decode prog_153_method_15_code 0 = .ok (.dload 4, 2) := by decide +kernel
theorem d1_2 : decode prog_153_method_15_code 2 = .ok (.dconst 0, 1) := by decide +kernel
theorem d1_3 : decode prog_153_method_15_code 3 = .ok (.dcmp .l, 1) := by decide +kernel
theorem d1_4 : decode prog_153_method_15_code 4 = .ok (.ifCond .le 17, 3) := by decide +kernel
theorem d1_7 : decode prog_153_method_15_code 7 = .ok (.dload_n 0, 1) := by decide +kernel
theorem d1_8 : decode prog_153_method_15_code 8 = .ok (.dload_n 2, 1) := by decide +kernel
theorem d1_9 : decode prog_153_method_15_code 9 = .ok (.dcmp .g, 1) := by decide +kernel
theorem d1_10 : decode prog_153_method_15_code 10 = .ok (.ifCond .gt 7, 3) := by decide +kernel
theorem d1_13 : decode prog_153_method_15_code 13 = .ok (.iconst 1, 1) := by decide +kernel
theorem d1_14 : decode prog_153_method_15_code 14 = .ok (.goto 18, 3) := by decide +kernel
theorem d1_32 : decode prog_153_method_15_code 32 = .ok (.ireturn, 1) := by decide +kernel
theorem pn_1 : plainName "org/graftloom/lua/NumericForNode" = true := by first | (simp [plainName, overriddenIn]; done) | decide +kernel
def Q1_ff (Z : State) (d1 : Int64) (d2 : Int64) (d3 : Int64) (h0 : Heap) (n0 : Nat) (v : Option Value) (h : Heap) (L : List Loc) : Prop := v = some (.int (1 : Int32)) ∧ Fr n0 L ∧ h = h0
set_option maxRecDepth 65536 in
set_option maxHeartbeats 40000000 in
theorem rm1_ff (l : Launch) (Z : State) (a0 : Array Value) (hw : ∀ d ∈ tables_1, d.before a0 Z = true) (ws : List Jvm.Cond) (d1 : Int64) (d2 : Int64) (d3 : Int64) (h0 : Heap) (n0 : Nat) (Z0 : n0 ≤ h0.size) (B53_d1 : B53 d1) (B53_d2 : B53 d2) (B53_d3 : B53 d3) (hc4 : (0 : Int32) < (lcmpW d3 (0 : Int64))) (hc10 : ¬ ((0 : Int32) < (lcmpW d1 d2))) :
    MetFree l (⟨"org/graftloom/lua/NumericForNode", "floatsGoOn", "(DDD)Z"⟩ : MethodName) (head1 (Jvm.Cond.code (⟨"org/graftloom/lua/NumericForNode", "floatsGoOn", "(DDD)Z"⟩ : MethodName) prog_153_method_15_code 6 (some .boolean) :: ws) ({ frames := 0, cells := 0, slots := 0, locals := 0 } : Room)) (fun a U => a = #[(.double (FP.l2d d1)), (.double (FP.l2d d2)), (.double (FP.l2d d3))] ∧ Z.Warmed39 U.vm ∧ U.heap = h0) (fun _ _ _ _ _ => True) (fun _ U o U' => ∃ v L, o = .returned v ∧ Q1_ff Z d1 d2 d3 h0 n0 v U'.heap L ∧ FrameEnd U o U' L ({ frames := 0, cells := 0, slots := 0, locals := 0 } : Room).cells ({ frames := 0, cells := 0, slots := 0, locals := 0 } : Room).slots) := by
  refine MetFree.of_bodySF (plainFor_of_name pn_1) hisR ?_
  intro p e s m args below meth c s₁ Bd hml0 hP hK
  obtain ⟨rfl, hZ, hh⟩ := hP
  have hx := Bd.exec
  have hby := Bd.bytes
  have hml : c.maxLocals = 6 := hml0
  have hown : s.vm.findClass "org/graftloom/lua/NumericForNode" = some m.cls := findClass_of_methodNamed Bd.named
  have hnm := (name_of_methodNamed Bd.named Bd.method).1
  have X0 : Stand p l e ({ frames := 0, cells := 0, slots := 0, locals := 0 } : Room) s m #[(.double (FP.l2d d1)), (.double (FP.l2d d2)), (.double (FP.l2d d3))] below meth c s₁ [] 0 0 := Stand.of_body Bd
  have e0 : s₁.heap = h0 := by rw [← hh, Bd.state]; rfl
  have N0 := Fr.nil n0
  have pre0 : ∀ t, Steps p.tables e below (s₁.setTop (mkF m 0 #[.val (.double (FP.l2d d1)), .second, .val (.double (FP.l2d d2)), .second, .val (.double (FP.l2d d3)), .second] [])) t → Steps p.tables e below (s₁.setTop (entryFrame m #[(.double (FP.l2d d1)), (.double (FP.l2d d2)), (.double (FP.l2d d3))] 6)) t := fun t k => castTop (ef_1 m (FP.l2d d1) (FP.l2d d2) (FP.l2d d3)) k

  obtain ⟨fs, hr, hrun, hended, hW, hsame⟩ := X0.leave (v := some (.int (1 : Int32))) (fun h => by rw [Bd.returns] at h; cases h)
  refine ⟨_, _, pre0 _ ?_, hrun, hended, _, _, rfl, ?_, ⟨_, rfl⟩, hW, hsame.mono (by decide) (by decide)⟩
  · show Steps p.tables e below (s₁.setTop (mkF m 0 #[.val (.double (FP.l2d d1)), .second, .val (.double (FP.l2d d2)), .second, .val (.double (FP.l2d d3)), .second] [])) _
    refine XS.dload X0.here hx rfl (hb hby d1_0) rfl ?_
    show Steps p.tables e below (s₁.setTop (mkF m 2 #[.val (.double (FP.l2d d1)), .second, .val (.double (FP.l2d d2)), .second, .val (.double (FP.l2d d3)), .second] [(.double (FP.l2d d3))])) _
    refine XS.dconst0 X0.here hx rfl (hb hby d1_2) own_d0 ?_
    show Steps p.tables e below (s₁.setTop (mkF m 3 #[.val (.double (FP.l2d d1)), .second, .val (.double (FP.l2d d2)), .second, .val (.double (FP.l2d d3)), .second] [(.double (FP.l2d (0 : Int64))), (.double (FP.l2d d3))])) _
    refine XS.dcmpS X0.here hx rfl (hb hby d1_3) rfl (dcmpV_w B53_d3 B53_0Int64 .l) ?_
    show Steps p.tables e below (s₁.setTop (mkF m 4 #[.val (.double (FP.l2d d1)), .second, .val (.double (FP.l2d d2)), .second, .val (.double (FP.l2d d3)), .second] [(.int (lcmpW d3 (0 : Int64)))])) _
    refine XS.ifNo X0.here hx rfl (hb hby d1_4) rfl ((if0 _ _).trans (tlt hc4).2.2.2) ?_
    show Steps p.tables e below (s₁.setTop (mkF m 7 #[.val (.double (FP.l2d d1)), .second, .val (.double (FP.l2d d2)), .second, .val (.double (FP.l2d d3)), .second] [])) _
    refine XS.dloadN X0.here hx rfl (hb hby d1_7) rfl ?_
    show Steps p.tables e below (s₁.setTop (mkF m 8 #[.val (.double (FP.l2d d1)), .second, .val (.double (FP.l2d d2)), .second, .val (.double (FP.l2d d3)), .second] [(.double (FP.l2d d1))])) _
    refine XS.dloadN X0.here hx rfl (hb hby d1_8) rfl ?_
    show Steps p.tables e below (s₁.setTop (mkF m 9 #[.val (.double (FP.l2d d1)), .second, .val (.double (FP.l2d d2)), .second, .val (.double (FP.l2d d3)), .second] [(.double (FP.l2d d2)), (.double (FP.l2d d1))])) _
    refine XS.dcmpS X0.here hx rfl (hb hby d1_9) rfl (dcmpV_w B53_d1 B53_d2 .g) ?_
    show Steps p.tables e below (s₁.setTop (mkF m 10 #[.val (.double (FP.l2d d1)), .second, .val (.double (FP.l2d d2)), .second, .val (.double (FP.l2d d3)), .second] [(.int (lcmpW d1 d2))])) _
    refine XS.ifNo X0.here hx rfl (hb hby d1_10) rfl ((if0 _ _).trans (flt hc10).2.2.1) ?_
    show Steps p.tables e below (s₁.setTop (mkF m 13 #[.val (.double (FP.l2d d1)), .second, .val (.double (FP.l2d d2)), .second, .val (.double (FP.l2d d3)), .second] [])) _
    refine XS.iconst X0.here hx rfl (hb hby d1_13) ?_
    show Steps p.tables e below (s₁.setTop (mkF m 14 #[.val (.double (FP.l2d d1)), .second, .val (.double (FP.l2d d2)), .second, .val (.double (FP.l2d d3)), .second] [(.int (1 : Int32))])) _
    refine XS.goto X0.here hx rfl (pc0 := 14) (pc' := 32) rfl (hb hby d1_14) (by decide) (by decide) ?_
    show Steps p.tables e below (s₁.setTop (mkF m 32 #[.val (.double (FP.l2d d1)), .second, .val (.double (FP.l2d d2)), .second, .val (.double (FP.l2d d3)), .second] [(.int (1 : Int32))])) _
    exact retN X0 hx (t := .boolean) Bd.returns (by simp) (hb hby d1_32) hr
  · show Q1_ff Z d1 d2 d3 h0 n0 _ s₁.heap _
    rw [e0]
    exact ⟨rfl, N0, rfl⟩
theorem d1_17 : decode prog_153_method_15_code 17 = .ok (.iconst 0, 1) := by decide +kernel
theorem d1_18 : decode prog_153_method_15_code 18 = .ok (.goto 14, 3) := by decide +kernel
def Q1_ft (Z : State) (d1 : Int64) (d2 : Int64) (d3 : Int64) (h0 : Heap) (n0 : Nat) (v : Option Value) (h : Heap) (L : List Loc) : Prop := v = some (.int (0 : Int32)) ∧ Fr n0 L ∧ h = h0
set_option maxRecDepth 65536 in
set_option maxHeartbeats 40000000 in
theorem rm1_ft (l : Launch) (Z : State) (a0 : Array Value) (hw : ∀ d ∈ tables_1, d.before a0 Z = true) (ws : List Jvm.Cond) (d1 : Int64) (d2 : Int64) (d3 : Int64) (h0 : Heap) (n0 : Nat) (Z0 : n0 ≤ h0.size) (B53_d1 : B53 d1) (B53_d2 : B53 d2) (B53_d3 : B53 d3) (hc4 : (0 : Int32) < (lcmpW d3 (0 : Int64))) (hc10 : (0 : Int32) < (lcmpW d1 d2)) :
    MetFree l (⟨"org/graftloom/lua/NumericForNode", "floatsGoOn", "(DDD)Z"⟩ : MethodName) (head1 (Jvm.Cond.code (⟨"org/graftloom/lua/NumericForNode", "floatsGoOn", "(DDD)Z"⟩ : MethodName) prog_153_method_15_code 6 (some .boolean) :: ws) ({ frames := 0, cells := 0, slots := 0, locals := 0 } : Room)) (fun a U => a = #[(.double (FP.l2d d1)), (.double (FP.l2d d2)), (.double (FP.l2d d3))] ∧ Z.Warmed39 U.vm ∧ U.heap = h0) (fun _ _ _ _ _ => True) (fun _ U o U' => ∃ v L, o = .returned v ∧ Q1_ft Z d1 d2 d3 h0 n0 v U'.heap L ∧ FrameEnd U o U' L ({ frames := 0, cells := 0, slots := 0, locals := 0 } : Room).cells ({ frames := 0, cells := 0, slots := 0, locals := 0 } : Room).slots) := by
  refine MetFree.of_bodySF (plainFor_of_name pn_1) hisR ?_
  intro p e s m args below meth c s₁ Bd hml0 hP hK
  obtain ⟨rfl, hZ, hh⟩ := hP
  have hx := Bd.exec
  have hby := Bd.bytes
  have hml : c.maxLocals = 6 := hml0
  have hown : s.vm.findClass "org/graftloom/lua/NumericForNode" = some m.cls := findClass_of_methodNamed Bd.named
  have hnm := (name_of_methodNamed Bd.named Bd.method).1
  have X0 : Stand p l e ({ frames := 0, cells := 0, slots := 0, locals := 0 } : Room) s m #[(.double (FP.l2d d1)), (.double (FP.l2d d2)), (.double (FP.l2d d3))] below meth c s₁ [] 0 0 := Stand.of_body Bd
  have e0 : s₁.heap = h0 := by rw [← hh, Bd.state]; rfl
  have N0 := Fr.nil n0
  have pre0 : ∀ t, Steps p.tables e below (s₁.setTop (mkF m 0 #[.val (.double (FP.l2d d1)), .second, .val (.double (FP.l2d d2)), .second, .val (.double (FP.l2d d3)), .second] [])) t → Steps p.tables e below (s₁.setTop (entryFrame m #[(.double (FP.l2d d1)), (.double (FP.l2d d2)), (.double (FP.l2d d3))] 6)) t := fun t k => castTop (ef_1 m (FP.l2d d1) (FP.l2d d2) (FP.l2d d3)) k

  obtain ⟨fs, hr, hrun, hended, hW, hsame⟩ := X0.leave (v := some (.int (0 : Int32))) (fun h => by rw [Bd.returns] at h; cases h)
  refine ⟨_, _, pre0 _ ?_, hrun, hended, _, _, rfl, ?_, ⟨_, rfl⟩, hW, hsame.mono (by decide) (by decide)⟩
  · show Steps p.tables e below (s₁.setTop (mkF m 0 #[.val (.double (FP.l2d d1)), .second, .val (.double (FP.l2d d2)), .second, .val (.double (FP.l2d d3)), .second] [])) _
    refine XS.dload X0.here hx rfl (hb hby d1_0) rfl ?_
    show Steps p.tables e below (s₁.setTop (mkF m 2 #[.val (.double (FP.l2d d1)), .second, .val (.double (FP.l2d d2)), .second, .val (.double (FP.l2d d3)), .second] [(.double (FP.l2d d3))])) _
    refine XS.dconst0 X0.here hx rfl (hb hby d1_2) own_d0 ?_
    show Steps p.tables e below (s₁.setTop (mkF m 3 #[.val (.double (FP.l2d d1)), .second, .val (.double (FP.l2d d2)), .second, .val (.double (FP.l2d d3)), .second] [(.double (FP.l2d (0 : Int64))), (.double (FP.l2d d3))])) _
    refine XS.dcmpS X0.here hx rfl (hb hby d1_3) rfl (dcmpV_w B53_d3 B53_0Int64 .l) ?_
    show Steps p.tables e below (s₁.setTop (mkF m 4 #[.val (.double (FP.l2d d1)), .second, .val (.double (FP.l2d d2)), .second, .val (.double (FP.l2d d3)), .second] [(.int (lcmpW d3 (0 : Int64)))])) _
    refine XS.ifNo X0.here hx rfl (hb hby d1_4) rfl ((if0 _ _).trans (tlt hc4).2.2.2) ?_
    show Steps p.tables e below (s₁.setTop (mkF m 7 #[.val (.double (FP.l2d d1)), .second, .val (.double (FP.l2d d2)), .second, .val (.double (FP.l2d d3)), .second] [])) _
    refine XS.dloadN X0.here hx rfl (hb hby d1_7) rfl ?_
    show Steps p.tables e below (s₁.setTop (mkF m 8 #[.val (.double (FP.l2d d1)), .second, .val (.double (FP.l2d d2)), .second, .val (.double (FP.l2d d3)), .second] [(.double (FP.l2d d1))])) _
    refine XS.dloadN X0.here hx rfl (hb hby d1_8) rfl ?_
    show Steps p.tables e below (s₁.setTop (mkF m 9 #[.val (.double (FP.l2d d1)), .second, .val (.double (FP.l2d d2)), .second, .val (.double (FP.l2d d3)), .second] [(.double (FP.l2d d2)), (.double (FP.l2d d1))])) _
    refine XS.dcmpS X0.here hx rfl (hb hby d1_9) rfl (dcmpV_w B53_d1 B53_d2 .g) ?_
    show Steps p.tables e below (s₁.setTop (mkF m 10 #[.val (.double (FP.l2d d1)), .second, .val (.double (FP.l2d d2)), .second, .val (.double (FP.l2d d3)), .second] [(.int (lcmpW d1 d2))])) _
    refine XS.ifYes X0.here hx rfl (pc0 := 10) (pc' := 17) rfl (hb hby d1_10) rfl ((if0 _ _).trans (tlt hc10).2.2.1) (by decide) (by decide) ?_
    show Steps p.tables e below (s₁.setTop (mkF m 17 #[.val (.double (FP.l2d d1)), .second, .val (.double (FP.l2d d2)), .second, .val (.double (FP.l2d d3)), .second] [])) _
    refine XS.iconst X0.here hx rfl (hb hby d1_17) ?_
    show Steps p.tables e below (s₁.setTop (mkF m 18 #[.val (.double (FP.l2d d1)), .second, .val (.double (FP.l2d d2)), .second, .val (.double (FP.l2d d3)), .second] [(.int (0 : Int32))])) _
    refine XS.goto X0.here hx rfl (pc0 := 18) (pc' := 32) rfl (hb hby d1_18) (by decide) (by decide) ?_
    show Steps p.tables e below (s₁.setTop (mkF m 32 #[.val (.double (FP.l2d d1)), .second, .val (.double (FP.l2d d2)), .second, .val (.double (FP.l2d d3)), .second] [(.int (0 : Int32))])) _
    exact retN X0 hx (t := .boolean) Bd.returns (by simp) (hb hby d1_32) hr
  · show Q1_ft Z d1 d2 d3 h0 n0 _ s₁.heap _
    rw [e0]
    exact ⟨rfl, N0, rfl⟩
theorem d1_21 : decode prog_153_method_15_code 21 = .ok (.dload_n 2, 1) := by decide +kernel
theorem d1_22 : decode prog_153_method_15_code 22 = .ok (.dload_n 0, 1) := by decide +kernel
theorem d1_23 : decode prog_153_method_15_code 23 = .ok (.dcmp .g, 1) := by decide +kernel
theorem d1_24 : decode prog_153_method_15_code 24 = .ok (.ifCond .gt 7, 3) := by decide +kernel
theorem d1_27 : decode prog_153_method_15_code 27 = .ok (.iconst 1, 1) := by decide +kernel
theorem d1_28 : decode prog_153_method_15_code 28 = .ok (.goto 4, 3) := by decide +kernel
def Q1_tf (Z : State) (d1 : Int64) (d2 : Int64) (d3 : Int64) (h0 : Heap) (n0 : Nat) (v : Option Value) (h : Heap) (L : List Loc) : Prop := v = some (.int (1 : Int32)) ∧ Fr n0 L ∧ h = h0
set_option maxRecDepth 65536 in
set_option maxHeartbeats 40000000 in
theorem rm1_tf (l : Launch) (Z : State) (a0 : Array Value) (hw : ∀ d ∈ tables_1, d.before a0 Z = true) (ws : List Jvm.Cond) (d1 : Int64) (d2 : Int64) (d3 : Int64) (h0 : Heap) (n0 : Nat) (Z0 : n0 ≤ h0.size) (B53_d1 : B53 d1) (B53_d2 : B53 d2) (B53_d3 : B53 d3) (hc4 : ¬ ((0 : Int32) < (lcmpW d3 (0 : Int64)))) (hc24 : ¬ ((0 : Int32) < (lcmpW d2 d1))) :
    MetFree l (⟨"org/graftloom/lua/NumericForNode", "floatsGoOn", "(DDD)Z"⟩ : MethodName) (head1 (Jvm.Cond.code (⟨"org/graftloom/lua/NumericForNode", "floatsGoOn", "(DDD)Z"⟩ : MethodName) prog_153_method_15_code 6 (some .boolean) :: ws) ({ frames := 0, cells := 0, slots := 0, locals := 0 } : Room)) (fun a U => a = #[(.double (FP.l2d d1)), (.double (FP.l2d d2)), (.double (FP.l2d d3))] ∧ Z.Warmed39 U.vm ∧ U.heap = h0) (fun _ _ _ _ _ => True) (fun _ U o U' => ∃ v L, o = .returned v ∧ Q1_tf Z d1 d2 d3 h0 n0 v U'.heap L ∧ FrameEnd U o U' L ({ frames := 0, cells := 0, slots := 0, locals := 0 } : Room).cells ({ frames := 0, cells := 0, slots := 0, locals := 0 } : Room).slots) := by
  refine MetFree.of_bodySF (plainFor_of_name pn_1) hisR ?_
  intro p e s m args below meth c s₁ Bd hml0 hP hK
  obtain ⟨rfl, hZ, hh⟩ := hP
  have hx := Bd.exec
  have hby := Bd.bytes
  have hml : c.maxLocals = 6 := hml0
  have hown : s.vm.findClass "org/graftloom/lua/NumericForNode" = some m.cls := findClass_of_methodNamed Bd.named
  have hnm := (name_of_methodNamed Bd.named Bd.method).1
  have X0 : Stand p l e ({ frames := 0, cells := 0, slots := 0, locals := 0 } : Room) s m #[(.double (FP.l2d d1)), (.double (FP.l2d d2)), (.double (FP.l2d d3))] below meth c s₁ [] 0 0 := Stand.of_body Bd
  have e0 : s₁.heap = h0 := by rw [← hh, Bd.state]; rfl
  have N0 := Fr.nil n0
  have pre0 : ∀ t, Steps p.tables e below (s₁.setTop (mkF m 0 #[.val (.double (FP.l2d d1)), .second, .val (.double (FP.l2d d2)), .second, .val (.double (FP.l2d d3)), .second] [])) t → Steps p.tables e below (s₁.setTop (entryFrame m #[(.double (FP.l2d d1)), (.double (FP.l2d d2)), (.double (FP.l2d d3))] 6)) t := fun t k => castTop (ef_1 m (FP.l2d d1) (FP.l2d d2) (FP.l2d d3)) k

  obtain ⟨fs, hr, hrun, hended, hW, hsame⟩ := X0.leave (v := some (.int (1 : Int32))) (fun h => by rw [Bd.returns] at h; cases h)
  refine ⟨_, _, pre0 _ ?_, hrun, hended, _, _, rfl, ?_, ⟨_, rfl⟩, hW, hsame.mono (by decide) (by decide)⟩
  · show Steps p.tables e below (s₁.setTop (mkF m 0 #[.val (.double (FP.l2d d1)), .second, .val (.double (FP.l2d d2)), .second, .val (.double (FP.l2d d3)), .second] [])) _
    refine XS.dload X0.here hx rfl (hb hby d1_0) rfl ?_
    show Steps p.tables e below (s₁.setTop (mkF m 2 #[.val (.double (FP.l2d d1)), .second, .val (.double (FP.l2d d2)), .second, .val (.double (FP.l2d d3)), .second] [(.double (FP.l2d d3))])) _
    refine XS.dconst0 X0.here hx rfl (hb hby d1_2) own_d0 ?_
    show Steps p.tables e below (s₁.setTop (mkF m 3 #[.val (.double (FP.l2d d1)), .second, .val (.double (FP.l2d d2)), .second, .val (.double (FP.l2d d3)), .second] [(.double (FP.l2d (0 : Int64))), (.double (FP.l2d d3))])) _
    refine XS.dcmpS X0.here hx rfl (hb hby d1_3) rfl (dcmpV_w B53_d3 B53_0Int64 .l) ?_
    show Steps p.tables e below (s₁.setTop (mkF m 4 #[.val (.double (FP.l2d d1)), .second, .val (.double (FP.l2d d2)), .second, .val (.double (FP.l2d d3)), .second] [(.int (lcmpW d3 (0 : Int64)))])) _
    refine XS.ifYes X0.here hx rfl (pc0 := 4) (pc' := 21) rfl (hb hby d1_4) rfl ((if0 _ _).trans (flt hc4).2.2.2) (by decide) (by decide) ?_
    show Steps p.tables e below (s₁.setTop (mkF m 21 #[.val (.double (FP.l2d d1)), .second, .val (.double (FP.l2d d2)), .second, .val (.double (FP.l2d d3)), .second] [])) _
    refine XS.dloadN X0.here hx rfl (hb hby d1_21) rfl ?_
    show Steps p.tables e below (s₁.setTop (mkF m 22 #[.val (.double (FP.l2d d1)), .second, .val (.double (FP.l2d d2)), .second, .val (.double (FP.l2d d3)), .second] [(.double (FP.l2d d2))])) _
    refine XS.dloadN X0.here hx rfl (hb hby d1_22) rfl ?_
    show Steps p.tables e below (s₁.setTop (mkF m 23 #[.val (.double (FP.l2d d1)), .second, .val (.double (FP.l2d d2)), .second, .val (.double (FP.l2d d3)), .second] [(.double (FP.l2d d1)), (.double (FP.l2d d2))])) _
    refine XS.dcmpS X0.here hx rfl (hb hby d1_23) rfl (dcmpV_w B53_d2 B53_d1 .g) ?_
    show Steps p.tables e below (s₁.setTop (mkF m 24 #[.val (.double (FP.l2d d1)), .second, .val (.double (FP.l2d d2)), .second, .val (.double (FP.l2d d3)), .second] [(.int (lcmpW d2 d1))])) _
    refine XS.ifNo X0.here hx rfl (hb hby d1_24) rfl ((if0 _ _).trans (flt hc24).2.2.1) ?_
    show Steps p.tables e below (s₁.setTop (mkF m 27 #[.val (.double (FP.l2d d1)), .second, .val (.double (FP.l2d d2)), .second, .val (.double (FP.l2d d3)), .second] [])) _
    refine XS.iconst X0.here hx rfl (hb hby d1_27) ?_
    show Steps p.tables e below (s₁.setTop (mkF m 28 #[.val (.double (FP.l2d d1)), .second, .val (.double (FP.l2d d2)), .second, .val (.double (FP.l2d d3)), .second] [(.int (1 : Int32))])) _
    refine XS.goto X0.here hx rfl (pc0 := 28) (pc' := 32) rfl (hb hby d1_28) (by decide) (by decide) ?_
    show Steps p.tables e below (s₁.setTop (mkF m 32 #[.val (.double (FP.l2d d1)), .second, .val (.double (FP.l2d d2)), .second, .val (.double (FP.l2d d3)), .second] [(.int (1 : Int32))])) _
    exact retN X0 hx (t := .boolean) Bd.returns (by simp) (hb hby d1_32) hr
  · show Q1_tf Z d1 d2 d3 h0 n0 _ s₁.heap _
    rw [e0]
    exact ⟨rfl, N0, rfl⟩
theorem d1_31 : decode prog_153_method_15_code 31 = .ok (.iconst 0, 1) := by decide +kernel
def Q1_tt (Z : State) (d1 : Int64) (d2 : Int64) (d3 : Int64) (h0 : Heap) (n0 : Nat) (v : Option Value) (h : Heap) (L : List Loc) : Prop := v = some (.int (0 : Int32)) ∧ Fr n0 L ∧ h = h0
set_option maxRecDepth 65536 in
set_option maxHeartbeats 40000000 in
theorem rm1_tt (l : Launch) (Z : State) (a0 : Array Value) (hw : ∀ d ∈ tables_1, d.before a0 Z = true) (ws : List Jvm.Cond) (d1 : Int64) (d2 : Int64) (d3 : Int64) (h0 : Heap) (n0 : Nat) (Z0 : n0 ≤ h0.size) (B53_d1 : B53 d1) (B53_d2 : B53 d2) (B53_d3 : B53 d3) (hc4 : ¬ ((0 : Int32) < (lcmpW d3 (0 : Int64)))) (hc24 : (0 : Int32) < (lcmpW d2 d1)) :
    MetFree l (⟨"org/graftloom/lua/NumericForNode", "floatsGoOn", "(DDD)Z"⟩ : MethodName) (head1 (Jvm.Cond.code (⟨"org/graftloom/lua/NumericForNode", "floatsGoOn", "(DDD)Z"⟩ : MethodName) prog_153_method_15_code 6 (some .boolean) :: ws) ({ frames := 0, cells := 0, slots := 0, locals := 0 } : Room)) (fun a U => a = #[(.double (FP.l2d d1)), (.double (FP.l2d d2)), (.double (FP.l2d d3))] ∧ Z.Warmed39 U.vm ∧ U.heap = h0) (fun _ _ _ _ _ => True) (fun _ U o U' => ∃ v L, o = .returned v ∧ Q1_tt Z d1 d2 d3 h0 n0 v U'.heap L ∧ FrameEnd U o U' L ({ frames := 0, cells := 0, slots := 0, locals := 0 } : Room).cells ({ frames := 0, cells := 0, slots := 0, locals := 0 } : Room).slots) := by
  refine MetFree.of_bodySF (plainFor_of_name pn_1) hisR ?_
  intro p e s m args below meth c s₁ Bd hml0 hP hK
  obtain ⟨rfl, hZ, hh⟩ := hP
  have hx := Bd.exec
  have hby := Bd.bytes
  have hml : c.maxLocals = 6 := hml0
  have hown : s.vm.findClass "org/graftloom/lua/NumericForNode" = some m.cls := findClass_of_methodNamed Bd.named
  have hnm := (name_of_methodNamed Bd.named Bd.method).1
  have X0 : Stand p l e ({ frames := 0, cells := 0, slots := 0, locals := 0 } : Room) s m #[(.double (FP.l2d d1)), (.double (FP.l2d d2)), (.double (FP.l2d d3))] below meth c s₁ [] 0 0 := Stand.of_body Bd
  have e0 : s₁.heap = h0 := by rw [← hh, Bd.state]; rfl
  have N0 := Fr.nil n0
  have pre0 : ∀ t, Steps p.tables e below (s₁.setTop (mkF m 0 #[.val (.double (FP.l2d d1)), .second, .val (.double (FP.l2d d2)), .second, .val (.double (FP.l2d d3)), .second] [])) t → Steps p.tables e below (s₁.setTop (entryFrame m #[(.double (FP.l2d d1)), (.double (FP.l2d d2)), (.double (FP.l2d d3))] 6)) t := fun t k => castTop (ef_1 m (FP.l2d d1) (FP.l2d d2) (FP.l2d d3)) k

  obtain ⟨fs, hr, hrun, hended, hW, hsame⟩ := X0.leave (v := some (.int (0 : Int32))) (fun h => by rw [Bd.returns] at h; cases h)
  refine ⟨_, _, pre0 _ ?_, hrun, hended, _, _, rfl, ?_, ⟨_, rfl⟩, hW, hsame.mono (by decide) (by decide)⟩
  · show Steps p.tables e below (s₁.setTop (mkF m 0 #[.val (.double (FP.l2d d1)), .second, .val (.double (FP.l2d d2)), .second, .val (.double (FP.l2d d3)), .second] [])) _
    refine XS.dload X0.here hx rfl (hb hby d1_0) rfl ?_
    show Steps p.tables e below (s₁.setTop (mkF m 2 #[.val (.double (FP.l2d d1)), .second, .val (.double (FP.l2d d2)), .second, .val (.double (FP.l2d d3)), .second] [(.double (FP.l2d d3))])) _
    refine XS.dconst0 X0.here hx rfl (hb hby d1_2) own_d0 ?_
    show Steps p.tables e below (s₁.setTop (mkF m 3 #[.val (.double (FP.l2d d1)), .second, .val (.double (FP.l2d d2)), .second, .val (.double (FP.l2d d3)), .second] [(.double (FP.l2d (0 : Int64))), (.double (FP.l2d d3))])) _
    refine XS.dcmpS X0.here hx rfl (hb hby d1_3) rfl (dcmpV_w B53_d3 B53_0Int64 .l) ?_
    show Steps p.tables e below (s₁.setTop (mkF m 4 #[.val (.double (FP.l2d d1)), .second, .val (.double (FP.l2d d2)), .second, .val (.double (FP.l2d d3)), .second] [(.int (lcmpW d3 (0 : Int64)))])) _
    refine XS.ifYes X0.here hx rfl (pc0 := 4) (pc' := 21) rfl (hb hby d1_4) rfl ((if0 _ _).trans (flt hc4).2.2.2) (by decide) (by decide) ?_
    show Steps p.tables e below (s₁.setTop (mkF m 21 #[.val (.double (FP.l2d d1)), .second, .val (.double (FP.l2d d2)), .second, .val (.double (FP.l2d d3)), .second] [])) _
    refine XS.dloadN X0.here hx rfl (hb hby d1_21) rfl ?_
    show Steps p.tables e below (s₁.setTop (mkF m 22 #[.val (.double (FP.l2d d1)), .second, .val (.double (FP.l2d d2)), .second, .val (.double (FP.l2d d3)), .second] [(.double (FP.l2d d2))])) _
    refine XS.dloadN X0.here hx rfl (hb hby d1_22) rfl ?_
    show Steps p.tables e below (s₁.setTop (mkF m 23 #[.val (.double (FP.l2d d1)), .second, .val (.double (FP.l2d d2)), .second, .val (.double (FP.l2d d3)), .second] [(.double (FP.l2d d1)), (.double (FP.l2d d2))])) _
    refine XS.dcmpS X0.here hx rfl (hb hby d1_23) rfl (dcmpV_w B53_d2 B53_d1 .g) ?_
    show Steps p.tables e below (s₁.setTop (mkF m 24 #[.val (.double (FP.l2d d1)), .second, .val (.double (FP.l2d d2)), .second, .val (.double (FP.l2d d3)), .second] [(.int (lcmpW d2 d1))])) _
    refine XS.ifYes X0.here hx rfl (pc0 := 24) (pc' := 31) rfl (hb hby d1_24) rfl ((if0 _ _).trans (tlt hc24).2.2.1) (by decide) (by decide) ?_
    show Steps p.tables e below (s₁.setTop (mkF m 31 #[.val (.double (FP.l2d d1)), .second, .val (.double (FP.l2d d2)), .second, .val (.double (FP.l2d d3)), .second] [])) _
    refine XS.iconst X0.here hx rfl (hb hby d1_31) ?_
    show Steps p.tables e below (s₁.setTop (mkF m 32 #[.val (.double (FP.l2d d1)), .second, .val (.double (FP.l2d d2)), .second, .val (.double (FP.l2d d3)), .second] [(.int (0 : Int32))])) _
    exact retN X0 hx (t := .boolean) Bd.returns (by simp) (hb hby d1_32) hr
  · show Q1_tt Z d1 d2 d3 h0 n0 _ s₁.heap _
    rw [e0]
    exact ⟨rfl, N0, rfl⟩
theorem pn_0 : plainName "org/graftloom/lua/NumericForNodeFloatsGoOnPinLaw" = true := by first | (simp [plainName, overriddenIn]; done) | decide +kernel
theorem ef_0 (m : MethodId) (x0 : Int32) (x1 : Int32) (x2 : Int32) : entryFrame m #[(.int x0), (.int x1), (.int x2)] maxLocals = mkF m 0 #[.val (.int x0), .val (.int x1), .val (.int x2), .unset, .unset, .unset, .unset, .unset, .unset, .unset, .unset, .unset] [] := by first | (simp [entryFrame, mkF, argsToLocals, Value.category, maxLocals]; done) | rfl
def Q0_z (Z : State) (p1 : Int32) (p2 : Int32) (p3 : Int32) (h0 : Heap) (n0 : Nat) (v : Option Value) (h : Heap) (L : List Loc) : Prop := v = some (.int (1 : Int32)) ∧ Fr n0 L
set_option maxRecDepth 65536 in
set_option maxHeartbeats 40000000 in
theorem rm0_z (l : Launch) (Z : State) (a0 : Array Value) (hw : ∀ d ∈ tables_1, d.before a0 Z = true) (ws : List Jvm.Cond) (p1 : Int32) (p2 : Int32) (p3 : Int32) (h0 : Heap) (n0 : Nat) (Z0 : n0 ≤ h0.size) (hc1 : p3 = (0 : Int32)) :
    MetFree l x (head1 (Jvm.Cond.code x code maxLocals ret :: ws) room_1) (fun a U => a = #[(.int p1), (.int p2), (.int p3)] ∧ Z.Warmed39 U.vm ∧ U.heap = h0) (fun _ _ _ _ _ => True) (fun _ U o U' => ∃ v L, o = .returned v ∧ Q0_z Z p1 p2 p3 h0 n0 v U'.heap L ∧ FrameEnd U o U' L room_1.cells room_1.slots) := by
  refine MetFree.of_bodySF (plainFor_of_name pn_0) hisR ?_
  intro p e s m args below meth c s₁ Bd hml0 hP hK
  obtain ⟨rfl, hZ, hh⟩ := hP
  have hx := Bd.exec
  have hby := Bd.bytes
  have hml : c.maxLocals = 12 := hml0
  have hown : s.vm.findClass "org/graftloom/lua/NumericForNodeFloatsGoOnPinLaw" = some m.cls := findClass_of_methodNamed Bd.named
  have hnm := (name_of_methodNamed Bd.named Bd.method).1
  have X0 : Stand p l e room_1 s m #[(.int p1), (.int p2), (.int p3)] below meth c s₁ [] 0 0 := Stand.of_body Bd
  have e0 : s₁.heap = h0 := by rw [← hh, Bd.state]; rfl
  have N0 := Fr.nil n0
  have pre0 : ∀ t, Steps p.tables e below (s₁.setTop (mkF m 0 #[.val (.int p1), .val (.int p2), .val (.int p3), .unset, .unset, .unset, .unset, .unset, .unset, .unset, .unset, .unset] [])) t → Steps p.tables e below (s₁.setTop (entryFrame m #[(.int p1), (.int p2), (.int p3)] maxLocals)) t := fun t k => castTop (ef_0 m p1 p2 p3) k

  obtain ⟨fs, hr, hrun, hended, hW, hsame⟩ := X0.leave (v := some (.int (1 : Int32))) (fun h => by rw [Bd.returns] at h; cases h)
  refine ⟨_, _, pre0 _ ?_, hrun, hended, _, _, rfl, ?_, ⟨_, rfl⟩, hW, hsame.mono (by decide) (by decide)⟩
  · show Steps p.tables e below (s₁.setTop (mkF m 0 #[.val (.int p1), .val (.int p2), .val (.int p3), .unset, .unset, .unset, .unset, .unset, .unset, .unset, .unset, .unset] [])) _
    refine XS.iloadN X0.here hx rfl (hb hby at_0) rfl ?_
    show Steps p.tables e below (s₁.setTop (mkF m 1 #[.val (.int p1), .val (.int p2), .val (.int p3), .unset, .unset, .unset, .unset, .unset, .unset, .unset, .unset, .unset] [(.int p3)])) _
    refine XS.ifNo X0.here hx rfl (hb hby at_1) rfl ((if0 _ _).trans (teq hc1).2) ?_
    show Steps p.tables e below (s₁.setTop (mkF m 4 #[.val (.int p1), .val (.int p2), .val (.int p3), .unset, .unset, .unset, .unset, .unset, .unset, .unset, .unset, .unset] [])) _
    refine XS.iconst X0.here hx rfl (hb hby at_4) ?_
    show Steps p.tables e below (s₁.setTop (mkF m 5 #[.val (.int p1), .val (.int p2), .val (.int p3), .unset, .unset, .unset, .unset, .unset, .unset, .unset, .unset, .unset] [(.int (1 : Int32))])) _
    exact retN X0 hx (t := .boolean) Bd.returns (by simp) (hb hby at_5) hr
  · show Q0_z Z p1 p2 p3 h0 n0 _ s₁.heap _
    rw [e0]
    exact ⟨rfl, N0⟩
theorem pd_0_P1_0 : parseMethodDescriptor "(DDD)Z" = some ⟨[.double, .double, .double], some .boolean⟩ := by decide +kernel
def Q0_P1 (Z : State) (p1 : Int32) (p2 : Int32) (p3 : Int32) (h0 : Heap) (n0 : Nat) (v : Option Value) (h : Heap) (L : List Loc) : Prop := v = some (.int (1 : Int32)) ∧ Fr n0 L
set_option maxRecDepth 65536 in
set_option maxHeartbeats 40000000 in
theorem rm0_P1 (l : Launch) (Z : State) (a0 : Array Value) (hw : ∀ d ∈ tables_1, d.before a0 Z = true) (ws : List Jvm.Cond) (p1 : Int32) (p2 : Int32) (p3 : Int32) (h0 : Heap) (n0 : Nat) (Z0 : n0 ≤ h0.size) (hc1 : ¬ (p3 = (0 : Int32))) (hc25 : (0 : Int32) < p3) (hc32 : ¬ ((lcmpW ((p2.toInt64) - (p1.toInt64)) (0 : Int64)) < (0 : Int32))) :
    MetFree l x (head1 (Jvm.Cond.code x code maxLocals ret :: ws) room_1) (fun a U => a = #[(.int p1), (.int p2), (.int p3)] ∧ Z.Warmed39 U.vm ∧ U.heap = h0) (fun _ _ _ _ _ => True) (fun _ U o U' => ∃ v L, o = .returned v ∧ Q0_P1 Z p1 p2 p3 h0 n0 v U'.heap L ∧ FrameEnd U o U' L room_1.cells room_1.slots) := by
  refine MetFree.of_bodySF (plainFor_of_name pn_0) hisR ?_
  intro p e s m args below meth c s₁ Bd hml0 hP hK
  obtain ⟨rfl, hZ, hh⟩ := hP
  have hx := Bd.exec
  have hby := Bd.bytes
  have hml : c.maxLocals = 12 := hml0
  have hown : s.vm.findClass "org/graftloom/lua/NumericForNodeFloatsGoOnPinLaw" = some m.cls := findClass_of_methodNamed Bd.named
  have hnm := (name_of_methodNamed Bd.named Bd.method).1
  have X0 : Stand p l e room_1 s m #[(.int p1), (.int p2), (.int p3)] below meth c s₁ [] 0 0 := Stand.of_body Bd
  have e0 : s₁.heap = h0 := by rw [← hh, Bd.state]; rfl
  have N0 := Fr.nil n0
  have pre0 : ∀ t, Steps p.tables e below (s₁.setTop (mkF m 0 #[.val (.int p1), .val (.int p2), .val (.int p3), .unset, .unset, .unset, .unset, .unset, .unset, .unset, .unset, .unset] [])) t → Steps p.tables e below (s₁.setTop (entryFrame m #[(.int p1), (.int p2), (.int p3)] maxLocals)) t := fun t k => castTop (ef_0 m p1 p2 p3) k
  obtain ⟨_, _, ⟨T4, L4, k4, n4⟩, -, X4, ⟨Lc4, hQ4, l4, y4, z4⟩, st4⟩ := Jvm.LawKit.callS X0 hx (y := (⟨"org/graftloom/lua/NumericForNode", "floatsGoOn", "(DDD)Z"⟩ : MethodName)) hown (mvT hZ (hw _ (List.mem_of_getElem? (i := 0) rfl))) (mvT hZ (hw _ (List.mem_of_getElem? (i := 1) rfl))) (mvT hZ (hw _ (List.mem_of_getElem? (i := 2) rfl))) (mvT hZ (hw _ (List.mem_of_getElem? (i := 3) rfl))) (by decide) (backOf (W := 0) (rm1_ff l Z a0 hw [] (p1.toInt64) (p2.toInt64) (p3.toInt64) h0 n0 Z0 (own_b53 p1) (own_b53 p2) (own_b53 p3) (own_pos hc25) (fun h => hc32 ((own_gapL p1 p2).mpr h))) hZ (hw _ (List.mem_of_getElem? (i := 3) rfl)) (hw _ (List.mem_of_getElem? (i := 2) rfl)) (by decide) (by decide)) (g := (mkF m 64 #[.val (.int p1), .val (.int p2), .val (.int p3), .val (.double (FP.l2d (p1.toInt64))), .second, .val (.double (FP.l2d (p2.toInt64))), .second, .val (.double (FP.l2d (p3.toInt64))), .second, .val (.long ((p2.toInt64) - (p1.toInt64))), .second, .val (.int (1 : Int32))] [(.double (FP.l2d (p3.toInt64))), (.double (FP.l2d (p2.toInt64))), (.double (FP.l2d (p1.toInt64)))])) rfl (by rw [hml]; rfl) (argsL := [(.double (FP.l2d (p1.toInt64))), (.double (FP.l2d (p2.toInt64))), (.double (FP.l2d (p3.toInt64)))]) (rest := []) (lenOf pd_0_P1_0 rfl) rfl (by show 2 * 0 + _ ≤ _; exact Nat.le_of_eq rfl) (hb hby at_64) (fun _ _ => ⟨rfl, e0, (by decide : 0 + 0 ≤ _), (by decide : 0 + 0 ≤ _)⟩)
  dsimp only [Pt.U, Pt.locs, Pt.cells, Pt.slots] at X4 l4 y4 z4 st4 hQ4
  subst l4 y4 z4
  obtain ⟨rfl, N4q, e4q⟩ := hQ4
  have N4 := Fr.app N0 N4q
  obtain ⟨fs, hr, hrun, hended, hW, hsame⟩ := X4.leave (v := some (.int (1 : Int32))) (fun h => by rw [Bd.returns] at h; cases h)
  refine ⟨_, _, pre0 _ ?_, hrun, hended, _, _, rfl, ?_, ⟨_, rfl⟩, hW, hsame.mono (by decide) (by decide)⟩
  · show Steps p.tables e below (s₁.setTop (mkF m 0 #[.val (.int p1), .val (.int p2), .val (.int p3), .unset, .unset, .unset, .unset, .unset, .unset, .unset, .unset, .unset] [])) _
    refine XS.iloadN X0.here hx rfl (hb hby at_0) rfl ?_
    show Steps p.tables e below (s₁.setTop (mkF m 1 #[.val (.int p1), .val (.int p2), .val (.int p3), .unset, .unset, .unset, .unset, .unset, .unset, .unset, .unset, .unset] [(.int p3)])) _
    refine XS.ifYes X0.here hx rfl (pc0 := 1) (pc' := 6) rfl (hb hby at_1) rfl ((if0 _ _).trans (feq hc1).2) (by decide) (by decide) ?_
    show Steps p.tables e below (s₁.setTop (mkF m 6 #[.val (.int p1), .val (.int p2), .val (.int p3), .unset, .unset, .unset, .unset, .unset, .unset, .unset, .unset, .unset] [])) _
    refine XS.iloadN X0.here hx rfl (hb hby at_6) rfl ?_
    show Steps p.tables e below (s₁.setTop (mkF m 7 #[.val (.int p1), .val (.int p2), .val (.int p3), .unset, .unset, .unset, .unset, .unset, .unset, .unset, .unset, .unset] [(.int p1)])) _
    refine XS.i2dS X0.here hx rfl (hb hby at_7) rfl (i2d_w p1) ?_
    show Steps p.tables e below (s₁.setTop (mkF m 8 #[.val (.int p1), .val (.int p2), .val (.int p3), .unset, .unset, .unset, .unset, .unset, .unset, .unset, .unset, .unset] [(.double (FP.l2d (p1.toInt64)))])) _
    refine XS.dstoreN X0.here hx rfl (hb hby at_8) rfl (l' := #[.val (.int p1), .val (.int p2), .val (.int p3), .val (.double (FP.l2d (p1.toInt64))), .second, .unset, .unset, .unset, .unset, .unset, .unset, .unset]) rfl ?_
    show Steps p.tables e below (s₁.setTop (mkF m 9 #[.val (.int p1), .val (.int p2), .val (.int p3), .val (.double (FP.l2d (p1.toInt64))), .second, .unset, .unset, .unset, .unset, .unset, .unset, .unset] [])) _
    refine XS.iloadN X0.here hx rfl (hb hby at_9) rfl ?_
    show Steps p.tables e below (s₁.setTop (mkF m 10 #[.val (.int p1), .val (.int p2), .val (.int p3), .val (.double (FP.l2d (p1.toInt64))), .second, .unset, .unset, .unset, .unset, .unset, .unset, .unset] [(.int p2)])) _
    refine XS.i2dS X0.here hx rfl (hb hby at_10) rfl (i2d_w p2) ?_
    show Steps p.tables e below (s₁.setTop (mkF m 11 #[.val (.int p1), .val (.int p2), .val (.int p3), .val (.double (FP.l2d (p1.toInt64))), .second, .unset, .unset, .unset, .unset, .unset, .unset, .unset] [(.double (FP.l2d (p2.toInt64)))])) _
    refine XS.dstore X0.here hx rfl (hb hby at_11) rfl (l' := #[.val (.int p1), .val (.int p2), .val (.int p3), .val (.double (FP.l2d (p1.toInt64))), .second, .val (.double (FP.l2d (p2.toInt64))), .second, .unset, .unset, .unset, .unset, .unset]) rfl ?_
    show Steps p.tables e below (s₁.setTop (mkF m 13 #[.val (.int p1), .val (.int p2), .val (.int p3), .val (.double (FP.l2d (p1.toInt64))), .second, .val (.double (FP.l2d (p2.toInt64))), .second, .unset, .unset, .unset, .unset, .unset] [])) _
    refine XS.iloadN X0.here hx rfl (hb hby at_13) rfl ?_
    show Steps p.tables e below (s₁.setTop (mkF m 14 #[.val (.int p1), .val (.int p2), .val (.int p3), .val (.double (FP.l2d (p1.toInt64))), .second, .val (.double (FP.l2d (p2.toInt64))), .second, .unset, .unset, .unset, .unset, .unset] [(.int p3)])) _
    refine XS.i2dS X0.here hx rfl (hb hby at_14) rfl (i2d_w p3) ?_
    show Steps p.tables e below (s₁.setTop (mkF m 15 #[.val (.int p1), .val (.int p2), .val (.int p3), .val (.double (FP.l2d (p1.toInt64))), .second, .val (.double (FP.l2d (p2.toInt64))), .second, .unset, .unset, .unset, .unset, .unset] [(.double (FP.l2d (p3.toInt64)))])) _
    refine XS.dstore X0.here hx rfl (hb hby at_15) rfl (l' := #[.val (.int p1), .val (.int p2), .val (.int p3), .val (.double (FP.l2d (p1.toInt64))), .second, .val (.double (FP.l2d (p2.toInt64))), .second, .val (.double (FP.l2d (p3.toInt64))), .second, .unset, .unset, .unset]) rfl ?_
    show Steps p.tables e below (s₁.setTop (mkF m 17 #[.val (.int p1), .val (.int p2), .val (.int p3), .val (.double (FP.l2d (p1.toInt64))), .second, .val (.double (FP.l2d (p2.toInt64))), .second, .val (.double (FP.l2d (p3.toInt64))), .second, .unset, .unset, .unset] [])) _
    refine XS.iloadN X0.here hx rfl (hb hby at_17) rfl ?_
    show Steps p.tables e below (s₁.setTop (mkF m 18 #[.val (.int p1), .val (.int p2), .val (.int p3), .val (.double (FP.l2d (p1.toInt64))), .second, .val (.double (FP.l2d (p2.toInt64))), .second, .val (.double (FP.l2d (p3.toInt64))), .second, .unset, .unset, .unset] [(.int p2)])) _
    refine XS.i2l X0.here hx rfl (hb hby at_18) rfl ?_
    show Steps p.tables e below (s₁.setTop (mkF m 19 #[.val (.int p1), .val (.int p2), .val (.int p3), .val (.double (FP.l2d (p1.toInt64))), .second, .val (.double (FP.l2d (p2.toInt64))), .second, .val (.double (FP.l2d (p3.toInt64))), .second, .unset, .unset, .unset] [(.long (p2.toInt64))])) _
    refine XS.iloadN X0.here hx rfl (hb hby at_19) rfl ?_
    show Steps p.tables e below (s₁.setTop (mkF m 20 #[.val (.int p1), .val (.int p2), .val (.int p3), .val (.double (FP.l2d (p1.toInt64))), .second, .val (.double (FP.l2d (p2.toInt64))), .second, .val (.double (FP.l2d (p3.toInt64))), .second, .unset, .unset, .unset] [(.int p1), (.long (p2.toInt64))])) _
    refine XS.i2l X0.here hx rfl (hb hby at_20) rfl ?_
    show Steps p.tables e below (s₁.setTop (mkF m 21 #[.val (.int p1), .val (.int p2), .val (.int p3), .val (.double (FP.l2d (p1.toInt64))), .second, .val (.double (FP.l2d (p2.toInt64))), .second, .val (.double (FP.l2d (p3.toInt64))), .second, .unset, .unset, .unset] [(.long (p1.toInt64)), (.long (p2.toInt64))])) _
    refine XS.lsub X0.here hx rfl (hb hby at_21) rfl ?_
    show Steps p.tables e below (s₁.setTop (mkF m 22 #[.val (.int p1), .val (.int p2), .val (.int p3), .val (.double (FP.l2d (p1.toInt64))), .second, .val (.double (FP.l2d (p2.toInt64))), .second, .val (.double (FP.l2d (p3.toInt64))), .second, .unset, .unset, .unset] [(.long ((p2.toInt64) - (p1.toInt64)))])) _
    refine XS.lstore X0.here hx rfl (hb hby at_22) rfl (l' := #[.val (.int p1), .val (.int p2), .val (.int p3), .val (.double (FP.l2d (p1.toInt64))), .second, .val (.double (FP.l2d (p2.toInt64))), .second, .val (.double (FP.l2d (p3.toInt64))), .second, .val (.long ((p2.toInt64) - (p1.toInt64))), .second, .unset]) rfl ?_
    show Steps p.tables e below (s₁.setTop (mkF m 24 #[.val (.int p1), .val (.int p2), .val (.int p3), .val (.double (FP.l2d (p1.toInt64))), .second, .val (.double (FP.l2d (p2.toInt64))), .second, .val (.double (FP.l2d (p3.toInt64))), .second, .val (.long ((p2.toInt64) - (p1.toInt64))), .second, .unset] [])) _
    refine XS.iloadN X0.here hx rfl (hb hby at_24) rfl ?_
    show Steps p.tables e below (s₁.setTop (mkF m 25 #[.val (.int p1), .val (.int p2), .val (.int p3), .val (.double (FP.l2d (p1.toInt64))), .second, .val (.double (FP.l2d (p2.toInt64))), .second, .val (.double (FP.l2d (p3.toInt64))), .second, .val (.long ((p2.toInt64) - (p1.toInt64))), .second, .unset] [(.int p3)])) _
    refine XS.ifNo X0.here hx rfl (hb hby at_25) rfl ((if0 _ _).trans (tlt hc25).2.2.2) ?_
    show Steps p.tables e below (s₁.setTop (mkF m 28 #[.val (.int p1), .val (.int p2), .val (.int p3), .val (.double (FP.l2d (p1.toInt64))), .second, .val (.double (FP.l2d (p2.toInt64))), .second, .val (.double (FP.l2d (p3.toInt64))), .second, .val (.long ((p2.toInt64) - (p1.toInt64))), .second, .unset] [])) _
    refine XS.lload X0.here hx rfl (hb hby at_28) rfl ?_
    show Steps p.tables e below (s₁.setTop (mkF m 30 #[.val (.int p1), .val (.int p2), .val (.int p3), .val (.double (FP.l2d (p1.toInt64))), .second, .val (.double (FP.l2d (p2.toInt64))), .second, .val (.double (FP.l2d (p3.toInt64))), .second, .val (.long ((p2.toInt64) - (p1.toInt64))), .second, .unset] [(.long ((p2.toInt64) - (p1.toInt64)))])) _
    refine XS.lconst X0.here hx rfl (hb hby at_30) ?_
    show Steps p.tables e below (s₁.setTop (mkF m 31 #[.val (.int p1), .val (.int p2), .val (.int p3), .val (.double (FP.l2d (p1.toInt64))), .second, .val (.double (FP.l2d (p2.toInt64))), .second, .val (.double (FP.l2d (p3.toInt64))), .second, .val (.long ((p2.toInt64) - (p1.toInt64))), .second, .unset] [(.long (0 : Int64)), (.long ((p2.toInt64) - (p1.toInt64)))])) _
    refine XS.lcmp X0.here hx rfl (hb hby at_31) rfl ?_
    show Steps p.tables e below (s₁.setTop (mkF m 32 #[.val (.int p1), .val (.int p2), .val (.int p3), .val (.double (FP.l2d (p1.toInt64))), .second, .val (.double (FP.l2d (p2.toInt64))), .second, .val (.double (FP.l2d (p3.toInt64))), .second, .val (.long ((p2.toInt64) - (p1.toInt64))), .second, .unset] [(.int (lcmpW ((p2.toInt64) - (p1.toInt64)) (0 : Int64)))])) _
    refine XS.ifNo X0.here hx rfl (hb hby at_32) rfl ((if0 _ _).trans (flt hc32).1) ?_
    show Steps p.tables e below (s₁.setTop (mkF m 35 #[.val (.int p1), .val (.int p2), .val (.int p3), .val (.double (FP.l2d (p1.toInt64))), .second, .val (.double (FP.l2d (p2.toInt64))), .second, .val (.double (FP.l2d (p3.toInt64))), .second, .val (.long ((p2.toInt64) - (p1.toInt64))), .second, .unset] [])) _
    refine XS.iconst X0.here hx rfl (hb hby at_35) ?_
    show Steps p.tables e below (s₁.setTop (mkF m 36 #[.val (.int p1), .val (.int p2), .val (.int p3), .val (.double (FP.l2d (p1.toInt64))), .second, .val (.double (FP.l2d (p2.toInt64))), .second, .val (.double (FP.l2d (p3.toInt64))), .second, .val (.long ((p2.toInt64) - (p1.toInt64))), .second, .unset] [(.int (1 : Int32))])) _
    refine XS.goto X0.here hx rfl (pc0 := 36) (pc' := 40) rfl (hb hby at_36) (by decide) (by decide) ?_
    show Steps p.tables e below (s₁.setTop (mkF m 40 #[.val (.int p1), .val (.int p2), .val (.int p3), .val (.double (FP.l2d (p1.toInt64))), .second, .val (.double (FP.l2d (p2.toInt64))), .second, .val (.double (FP.l2d (p3.toInt64))), .second, .val (.long ((p2.toInt64) - (p1.toInt64))), .second, .unset] [(.int (1 : Int32))])) _
    refine XS.istore X0.here hx rfl (hb hby at_40) rfl (l' := #[.val (.int p1), .val (.int p2), .val (.int p3), .val (.double (FP.l2d (p1.toInt64))), .second, .val (.double (FP.l2d (p2.toInt64))), .second, .val (.double (FP.l2d (p3.toInt64))), .second, .val (.long ((p2.toInt64) - (p1.toInt64))), .second, .val (.int (1 : Int32))]) rfl ?_
    show Steps p.tables e below (s₁.setTop (mkF m 42 #[.val (.int p1), .val (.int p2), .val (.int p3), .val (.double (FP.l2d (p1.toInt64))), .second, .val (.double (FP.l2d (p2.toInt64))), .second, .val (.double (FP.l2d (p3.toInt64))), .second, .val (.long ((p2.toInt64) - (p1.toInt64))), .second, .val (.int (1 : Int32))] [])) _
    refine XS.goto X0.here hx rfl (pc0 := 42) (pc' := 59) rfl (hb hby at_42) (by decide) (by decide) ?_
    show Steps p.tables e below (s₁.setTop (mkF m 59 #[.val (.int p1), .val (.int p2), .val (.int p3), .val (.double (FP.l2d (p1.toInt64))), .second, .val (.double (FP.l2d (p2.toInt64))), .second, .val (.double (FP.l2d (p3.toInt64))), .second, .val (.long ((p2.toInt64) - (p1.toInt64))), .second, .val (.int (1 : Int32))] [])) _
    refine XS.dloadN X0.here hx rfl (hb hby at_59) rfl ?_
    show Steps p.tables e below (s₁.setTop (mkF m 60 #[.val (.int p1), .val (.int p2), .val (.int p3), .val (.double (FP.l2d (p1.toInt64))), .second, .val (.double (FP.l2d (p2.toInt64))), .second, .val (.double (FP.l2d (p3.toInt64))), .second, .val (.long ((p2.toInt64) - (p1.toInt64))), .second, .val (.int (1 : Int32))] [(.double (FP.l2d (p1.toInt64)))])) _
    refine XS.dload X0.here hx rfl (hb hby at_60) rfl ?_
    show Steps p.tables e below (s₁.setTop (mkF m 62 #[.val (.int p1), .val (.int p2), .val (.int p3), .val (.double (FP.l2d (p1.toInt64))), .second, .val (.double (FP.l2d (p2.toInt64))), .second, .val (.double (FP.l2d (p3.toInt64))), .second, .val (.long ((p2.toInt64) - (p1.toInt64))), .second, .val (.int (1 : Int32))] [(.double (FP.l2d (p2.toInt64))), (.double (FP.l2d (p1.toInt64)))])) _
    refine XS.dload X0.here hx rfl (hb hby at_62) rfl ?_
    show Steps p.tables e below (s₁.setTop (mkF m 64 #[.val (.int p1), .val (.int p2), .val (.int p3), .val (.double (FP.l2d (p1.toInt64))), .second, .val (.double (FP.l2d (p2.toInt64))), .second, .val (.double (FP.l2d (p3.toInt64))), .second, .val (.long ((p2.toInt64) - (p1.toInt64))), .second, .val (.int (1 : Int32))] [(.double (FP.l2d (p3.toInt64))), (.double (FP.l2d (p2.toInt64))), (.double (FP.l2d (p1.toInt64)))])) _
    refine st4 _ ?_
    show Steps p.tables e below (T4.setTop (mkF m 67 #[.val (.int p1), .val (.int p2), .val (.int p3), .val (.double (FP.l2d (p1.toInt64))), .second, .val (.double (FP.l2d (p2.toInt64))), .second, .val (.double (FP.l2d (p3.toInt64))), .second, .val (.long ((p2.toInt64) - (p1.toInt64))), .second, .val (.int (1 : Int32))] [(.int (1 : Int32))])) _
    refine XS.iload X4.here hx rfl (hb hby at_67) rfl ?_
    show Steps p.tables e below (T4.setTop (mkF m 69 #[.val (.int p1), .val (.int p2), .val (.int p3), .val (.double (FP.l2d (p1.toInt64))), .second, .val (.double (FP.l2d (p2.toInt64))), .second, .val (.double (FP.l2d (p3.toInt64))), .second, .val (.long ((p2.toInt64) - (p1.toInt64))), .second, .val (.int (1 : Int32))] [(.int (1 : Int32)), (.int (1 : Int32))])) _
    refine XS.icmpNo X4.here hx rfl (hb hby at_69) rfl (teq (rfl : (1 : Int32) = (1 : Int32))).2 ?_
    show Steps p.tables e below (T4.setTop (mkF m 72 #[.val (.int p1), .val (.int p2), .val (.int p3), .val (.double (FP.l2d (p1.toInt64))), .second, .val (.double (FP.l2d (p2.toInt64))), .second, .val (.double (FP.l2d (p3.toInt64))), .second, .val (.long ((p2.toInt64) - (p1.toInt64))), .second, .val (.int (1 : Int32))] [])) _
    refine XS.iconst X4.here hx rfl (hb hby at_72) ?_
    show Steps p.tables e below (T4.setTop (mkF m 73 #[.val (.int p1), .val (.int p2), .val (.int p3), .val (.double (FP.l2d (p1.toInt64))), .second, .val (.double (FP.l2d (p2.toInt64))), .second, .val (.double (FP.l2d (p3.toInt64))), .second, .val (.long ((p2.toInt64) - (p1.toInt64))), .second, .val (.int (1 : Int32))] [(.int (1 : Int32))])) _
    refine XS.goto X4.here hx rfl (pc0 := 73) (pc' := 77) rfl (hb hby at_73) (by decide) (by decide) ?_
    show Steps p.tables e below (T4.setTop (mkF m 77 #[.val (.int p1), .val (.int p2), .val (.int p3), .val (.double (FP.l2d (p1.toInt64))), .second, .val (.double (FP.l2d (p2.toInt64))), .second, .val (.double (FP.l2d (p3.toInt64))), .second, .val (.long ((p2.toInt64) - (p1.toInt64))), .second, .val (.int (1 : Int32))] [(.int (1 : Int32))])) _
    exact retN X4 hx (t := .boolean) Bd.returns (by simp) (hb hby at_77) hr
  · show Q0_P1 Z p1 p2 p3 h0 n0 _ T4.heap _
    exact ⟨rfl, N4⟩
theorem pd_0_P0_0 : parseMethodDescriptor "(DDD)Z" = some ⟨[.double, .double, .double], some .boolean⟩ := by decide +kernel
def Q0_P0 (Z : State) (p1 : Int32) (p2 : Int32) (p3 : Int32) (h0 : Heap) (n0 : Nat) (v : Option Value) (h : Heap) (L : List Loc) : Prop := v = some (.int (1 : Int32)) ∧ Fr n0 L
set_option maxRecDepth 65536 in
set_option maxHeartbeats 40000000 in
theorem rm0_P0 (l : Launch) (Z : State) (a0 : Array Value) (hw : ∀ d ∈ tables_1, d.before a0 Z = true) (ws : List Jvm.Cond) (p1 : Int32) (p2 : Int32) (p3 : Int32) (h0 : Heap) (n0 : Nat) (Z0 : n0 ≤ h0.size) (hc1 : ¬ (p3 = (0 : Int32))) (hc25 : (0 : Int32) < p3) (hc32 : (lcmpW ((p2.toInt64) - (p1.toInt64)) (0 : Int64)) < (0 : Int32)) :
    MetFree l x (head1 (Jvm.Cond.code x code maxLocals ret :: ws) room_1) (fun a U => a = #[(.int p1), (.int p2), (.int p3)] ∧ Z.Warmed39 U.vm ∧ U.heap = h0) (fun _ _ _ _ _ => True) (fun _ U o U' => ∃ v L, o = .returned v ∧ Q0_P0 Z p1 p2 p3 h0 n0 v U'.heap L ∧ FrameEnd U o U' L room_1.cells room_1.slots) := by
  refine MetFree.of_bodySF (plainFor_of_name pn_0) hisR ?_
  intro p e s m args below meth c s₁ Bd hml0 hP hK
  obtain ⟨rfl, hZ, hh⟩ := hP
  have hx := Bd.exec
  have hby := Bd.bytes
  have hml : c.maxLocals = 12 := hml0
  have hown : s.vm.findClass "org/graftloom/lua/NumericForNodeFloatsGoOnPinLaw" = some m.cls := findClass_of_methodNamed Bd.named
  have hnm := (name_of_methodNamed Bd.named Bd.method).1
  have X0 : Stand p l e room_1 s m #[(.int p1), (.int p2), (.int p3)] below meth c s₁ [] 0 0 := Stand.of_body Bd
  have e0 : s₁.heap = h0 := by rw [← hh, Bd.state]; rfl
  have N0 := Fr.nil n0
  have pre0 : ∀ t, Steps p.tables e below (s₁.setTop (mkF m 0 #[.val (.int p1), .val (.int p2), .val (.int p3), .unset, .unset, .unset, .unset, .unset, .unset, .unset, .unset, .unset] [])) t → Steps p.tables e below (s₁.setTop (entryFrame m #[(.int p1), (.int p2), (.int p3)] maxLocals)) t := fun t k => castTop (ef_0 m p1 p2 p3) k
  obtain ⟨_, _, ⟨T4, L4, k4, n4⟩, -, X4, ⟨Lc4, hQ4, l4, y4, z4⟩, st4⟩ := Jvm.LawKit.callS X0 hx (y := (⟨"org/graftloom/lua/NumericForNode", "floatsGoOn", "(DDD)Z"⟩ : MethodName)) hown (mvT hZ (hw _ (List.mem_of_getElem? (i := 0) rfl))) (mvT hZ (hw _ (List.mem_of_getElem? (i := 1) rfl))) (mvT hZ (hw _ (List.mem_of_getElem? (i := 2) rfl))) (mvT hZ (hw _ (List.mem_of_getElem? (i := 3) rfl))) (by decide) (backOf (W := 0) (rm1_ft l Z a0 hw [] (p1.toInt64) (p2.toInt64) (p3.toInt64) h0 n0 Z0 (own_b53 p1) (own_b53 p2) (own_b53 p3) (own_pos hc25) ((own_gapL p1 p2).mp hc32)) hZ (hw _ (List.mem_of_getElem? (i := 3) rfl)) (hw _ (List.mem_of_getElem? (i := 2) rfl)) (by decide) (by decide)) (g := (mkF m 64 #[.val (.int p1), .val (.int p2), .val (.int p3), .val (.double (FP.l2d (p1.toInt64))), .second, .val (.double (FP.l2d (p2.toInt64))), .second, .val (.double (FP.l2d (p3.toInt64))), .second, .val (.long ((p2.toInt64) - (p1.toInt64))), .second, .val (.int (0 : Int32))] [(.double (FP.l2d (p3.toInt64))), (.double (FP.l2d (p2.toInt64))), (.double (FP.l2d (p1.toInt64)))])) rfl (by rw [hml]; rfl) (argsL := [(.double (FP.l2d (p1.toInt64))), (.double (FP.l2d (p2.toInt64))), (.double (FP.l2d (p3.toInt64)))]) (rest := []) (lenOf pd_0_P0_0 rfl) rfl (by show 2 * 0 + _ ≤ _; exact Nat.le_of_eq rfl) (hb hby at_64) (fun _ _ => ⟨rfl, e0, (by decide : 0 + 0 ≤ _), (by decide : 0 + 0 ≤ _)⟩)
  dsimp only [Pt.U, Pt.locs, Pt.cells, Pt.slots] at X4 l4 y4 z4 st4 hQ4
  subst l4 y4 z4
  obtain ⟨rfl, N4q, e4q⟩ := hQ4
  have N4 := Fr.app N0 N4q
  obtain ⟨fs, hr, hrun, hended, hW, hsame⟩ := X4.leave (v := some (.int (1 : Int32))) (fun h => by rw [Bd.returns] at h; cases h)
  refine ⟨_, _, pre0 _ ?_, hrun, hended, _, _, rfl, ?_, ⟨_, rfl⟩, hW, hsame.mono (by decide) (by decide)⟩
  · show Steps p.tables e below (s₁.setTop (mkF m 0 #[.val (.int p1), .val (.int p2), .val (.int p3), .unset, .unset, .unset, .unset, .unset, .unset, .unset, .unset, .unset] [])) _
    refine XS.iloadN X0.here hx rfl (hb hby at_0) rfl ?_
    show Steps p.tables e below (s₁.setTop (mkF m 1 #[.val (.int p1), .val (.int p2), .val (.int p3), .unset, .unset, .unset, .unset, .unset, .unset, .unset, .unset, .unset] [(.int p3)])) _
    refine XS.ifYes X0.here hx rfl (pc0 := 1) (pc' := 6) rfl (hb hby at_1) rfl ((if0 _ _).trans (feq hc1).2) (by decide) (by decide) ?_
    show Steps p.tables e below (s₁.setTop (mkF m 6 #[.val (.int p1), .val (.int p2), .val (.int p3), .unset, .unset, .unset, .unset, .unset, .unset, .unset, .unset, .unset] [])) _
    refine XS.iloadN X0.here hx rfl (hb hby at_6) rfl ?_
    show Steps p.tables e below (s₁.setTop (mkF m 7 #[.val (.int p1), .val (.int p2), .val (.int p3), .unset, .unset, .unset, .unset, .unset, .unset, .unset, .unset, .unset] [(.int p1)])) _
    refine XS.i2dS X0.here hx rfl (hb hby at_7) rfl (i2d_w p1) ?_
    show Steps p.tables e below (s₁.setTop (mkF m 8 #[.val (.int p1), .val (.int p2), .val (.int p3), .unset, .unset, .unset, .unset, .unset, .unset, .unset, .unset, .unset] [(.double (FP.l2d (p1.toInt64)))])) _
    refine XS.dstoreN X0.here hx rfl (hb hby at_8) rfl (l' := #[.val (.int p1), .val (.int p2), .val (.int p3), .val (.double (FP.l2d (p1.toInt64))), .second, .unset, .unset, .unset, .unset, .unset, .unset, .unset]) rfl ?_
    show Steps p.tables e below (s₁.setTop (mkF m 9 #[.val (.int p1), .val (.int p2), .val (.int p3), .val (.double (FP.l2d (p1.toInt64))), .second, .unset, .unset, .unset, .unset, .unset, .unset, .unset] [])) _
    refine XS.iloadN X0.here hx rfl (hb hby at_9) rfl ?_
    show Steps p.tables e below (s₁.setTop (mkF m 10 #[.val (.int p1), .val (.int p2), .val (.int p3), .val (.double (FP.l2d (p1.toInt64))), .second, .unset, .unset, .unset, .unset, .unset, .unset, .unset] [(.int p2)])) _
    refine XS.i2dS X0.here hx rfl (hb hby at_10) rfl (i2d_w p2) ?_
    show Steps p.tables e below (s₁.setTop (mkF m 11 #[.val (.int p1), .val (.int p2), .val (.int p3), .val (.double (FP.l2d (p1.toInt64))), .second, .unset, .unset, .unset, .unset, .unset, .unset, .unset] [(.double (FP.l2d (p2.toInt64)))])) _
    refine XS.dstore X0.here hx rfl (hb hby at_11) rfl (l' := #[.val (.int p1), .val (.int p2), .val (.int p3), .val (.double (FP.l2d (p1.toInt64))), .second, .val (.double (FP.l2d (p2.toInt64))), .second, .unset, .unset, .unset, .unset, .unset]) rfl ?_
    show Steps p.tables e below (s₁.setTop (mkF m 13 #[.val (.int p1), .val (.int p2), .val (.int p3), .val (.double (FP.l2d (p1.toInt64))), .second, .val (.double (FP.l2d (p2.toInt64))), .second, .unset, .unset, .unset, .unset, .unset] [])) _
    refine XS.iloadN X0.here hx rfl (hb hby at_13) rfl ?_
    show Steps p.tables e below (s₁.setTop (mkF m 14 #[.val (.int p1), .val (.int p2), .val (.int p3), .val (.double (FP.l2d (p1.toInt64))), .second, .val (.double (FP.l2d (p2.toInt64))), .second, .unset, .unset, .unset, .unset, .unset] [(.int p3)])) _
    refine XS.i2dS X0.here hx rfl (hb hby at_14) rfl (i2d_w p3) ?_
    show Steps p.tables e below (s₁.setTop (mkF m 15 #[.val (.int p1), .val (.int p2), .val (.int p3), .val (.double (FP.l2d (p1.toInt64))), .second, .val (.double (FP.l2d (p2.toInt64))), .second, .unset, .unset, .unset, .unset, .unset] [(.double (FP.l2d (p3.toInt64)))])) _
    refine XS.dstore X0.here hx rfl (hb hby at_15) rfl (l' := #[.val (.int p1), .val (.int p2), .val (.int p3), .val (.double (FP.l2d (p1.toInt64))), .second, .val (.double (FP.l2d (p2.toInt64))), .second, .val (.double (FP.l2d (p3.toInt64))), .second, .unset, .unset, .unset]) rfl ?_
    show Steps p.tables e below (s₁.setTop (mkF m 17 #[.val (.int p1), .val (.int p2), .val (.int p3), .val (.double (FP.l2d (p1.toInt64))), .second, .val (.double (FP.l2d (p2.toInt64))), .second, .val (.double (FP.l2d (p3.toInt64))), .second, .unset, .unset, .unset] [])) _
    refine XS.iloadN X0.here hx rfl (hb hby at_17) rfl ?_
    show Steps p.tables e below (s₁.setTop (mkF m 18 #[.val (.int p1), .val (.int p2), .val (.int p3), .val (.double (FP.l2d (p1.toInt64))), .second, .val (.double (FP.l2d (p2.toInt64))), .second, .val (.double (FP.l2d (p3.toInt64))), .second, .unset, .unset, .unset] [(.int p2)])) _
    refine XS.i2l X0.here hx rfl (hb hby at_18) rfl ?_
    show Steps p.tables e below (s₁.setTop (mkF m 19 #[.val (.int p1), .val (.int p2), .val (.int p3), .val (.double (FP.l2d (p1.toInt64))), .second, .val (.double (FP.l2d (p2.toInt64))), .second, .val (.double (FP.l2d (p3.toInt64))), .second, .unset, .unset, .unset] [(.long (p2.toInt64))])) _
    refine XS.iloadN X0.here hx rfl (hb hby at_19) rfl ?_
    show Steps p.tables e below (s₁.setTop (mkF m 20 #[.val (.int p1), .val (.int p2), .val (.int p3), .val (.double (FP.l2d (p1.toInt64))), .second, .val (.double (FP.l2d (p2.toInt64))), .second, .val (.double (FP.l2d (p3.toInt64))), .second, .unset, .unset, .unset] [(.int p1), (.long (p2.toInt64))])) _
    refine XS.i2l X0.here hx rfl (hb hby at_20) rfl ?_
    show Steps p.tables e below (s₁.setTop (mkF m 21 #[.val (.int p1), .val (.int p2), .val (.int p3), .val (.double (FP.l2d (p1.toInt64))), .second, .val (.double (FP.l2d (p2.toInt64))), .second, .val (.double (FP.l2d (p3.toInt64))), .second, .unset, .unset, .unset] [(.long (p1.toInt64)), (.long (p2.toInt64))])) _
    refine XS.lsub X0.here hx rfl (hb hby at_21) rfl ?_
    show Steps p.tables e below (s₁.setTop (mkF m 22 #[.val (.int p1), .val (.int p2), .val (.int p3), .val (.double (FP.l2d (p1.toInt64))), .second, .val (.double (FP.l2d (p2.toInt64))), .second, .val (.double (FP.l2d (p3.toInt64))), .second, .unset, .unset, .unset] [(.long ((p2.toInt64) - (p1.toInt64)))])) _
    refine XS.lstore X0.here hx rfl (hb hby at_22) rfl (l' := #[.val (.int p1), .val (.int p2), .val (.int p3), .val (.double (FP.l2d (p1.toInt64))), .second, .val (.double (FP.l2d (p2.toInt64))), .second, .val (.double (FP.l2d (p3.toInt64))), .second, .val (.long ((p2.toInt64) - (p1.toInt64))), .second, .unset]) rfl ?_
    show Steps p.tables e below (s₁.setTop (mkF m 24 #[.val (.int p1), .val (.int p2), .val (.int p3), .val (.double (FP.l2d (p1.toInt64))), .second, .val (.double (FP.l2d (p2.toInt64))), .second, .val (.double (FP.l2d (p3.toInt64))), .second, .val (.long ((p2.toInt64) - (p1.toInt64))), .second, .unset] [])) _
    refine XS.iloadN X0.here hx rfl (hb hby at_24) rfl ?_
    show Steps p.tables e below (s₁.setTop (mkF m 25 #[.val (.int p1), .val (.int p2), .val (.int p3), .val (.double (FP.l2d (p1.toInt64))), .second, .val (.double (FP.l2d (p2.toInt64))), .second, .val (.double (FP.l2d (p3.toInt64))), .second, .val (.long ((p2.toInt64) - (p1.toInt64))), .second, .unset] [(.int p3)])) _
    refine XS.ifNo X0.here hx rfl (hb hby at_25) rfl ((if0 _ _).trans (tlt hc25).2.2.2) ?_
    show Steps p.tables e below (s₁.setTop (mkF m 28 #[.val (.int p1), .val (.int p2), .val (.int p3), .val (.double (FP.l2d (p1.toInt64))), .second, .val (.double (FP.l2d (p2.toInt64))), .second, .val (.double (FP.l2d (p3.toInt64))), .second, .val (.long ((p2.toInt64) - (p1.toInt64))), .second, .unset] [])) _
    refine XS.lload X0.here hx rfl (hb hby at_28) rfl ?_
    show Steps p.tables e below (s₁.setTop (mkF m 30 #[.val (.int p1), .val (.int p2), .val (.int p3), .val (.double (FP.l2d (p1.toInt64))), .second, .val (.double (FP.l2d (p2.toInt64))), .second, .val (.double (FP.l2d (p3.toInt64))), .second, .val (.long ((p2.toInt64) - (p1.toInt64))), .second, .unset] [(.long ((p2.toInt64) - (p1.toInt64)))])) _
    refine XS.lconst X0.here hx rfl (hb hby at_30) ?_
    show Steps p.tables e below (s₁.setTop (mkF m 31 #[.val (.int p1), .val (.int p2), .val (.int p3), .val (.double (FP.l2d (p1.toInt64))), .second, .val (.double (FP.l2d (p2.toInt64))), .second, .val (.double (FP.l2d (p3.toInt64))), .second, .val (.long ((p2.toInt64) - (p1.toInt64))), .second, .unset] [(.long (0 : Int64)), (.long ((p2.toInt64) - (p1.toInt64)))])) _
    refine XS.lcmp X0.here hx rfl (hb hby at_31) rfl ?_
    show Steps p.tables e below (s₁.setTop (mkF m 32 #[.val (.int p1), .val (.int p2), .val (.int p3), .val (.double (FP.l2d (p1.toInt64))), .second, .val (.double (FP.l2d (p2.toInt64))), .second, .val (.double (FP.l2d (p3.toInt64))), .second, .val (.long ((p2.toInt64) - (p1.toInt64))), .second, .unset] [(.int (lcmpW ((p2.toInt64) - (p1.toInt64)) (0 : Int64)))])) _
    refine XS.ifYes X0.here hx rfl (pc0 := 32) (pc' := 39) rfl (hb hby at_32) rfl ((if0 _ _).trans (tlt hc32).1) (by decide) (by decide) ?_
    show Steps p.tables e below (s₁.setTop (mkF m 39 #[.val (.int p1), .val (.int p2), .val (.int p3), .val (.double (FP.l2d (p1.toInt64))), .second, .val (.double (FP.l2d (p2.toInt64))), .second, .val (.double (FP.l2d (p3.toInt64))), .second, .val (.long ((p2.toInt64) - (p1.toInt64))), .second, .unset] [])) _
    refine XS.iconst X0.here hx rfl (hb hby at_39) ?_
    show Steps p.tables e below (s₁.setTop (mkF m 40 #[.val (.int p1), .val (.int p2), .val (.int p3), .val (.double (FP.l2d (p1.toInt64))), .second, .val (.double (FP.l2d (p2.toInt64))), .second, .val (.double (FP.l2d (p3.toInt64))), .second, .val (.long ((p2.toInt64) - (p1.toInt64))), .second, .unset] [(.int (0 : Int32))])) _
    refine XS.istore X0.here hx rfl (hb hby at_40) rfl (l' := #[.val (.int p1), .val (.int p2), .val (.int p3), .val (.double (FP.l2d (p1.toInt64))), .second, .val (.double (FP.l2d (p2.toInt64))), .second, .val (.double (FP.l2d (p3.toInt64))), .second, .val (.long ((p2.toInt64) - (p1.toInt64))), .second, .val (.int (0 : Int32))]) rfl ?_
    show Steps p.tables e below (s₁.setTop (mkF m 42 #[.val (.int p1), .val (.int p2), .val (.int p3), .val (.double (FP.l2d (p1.toInt64))), .second, .val (.double (FP.l2d (p2.toInt64))), .second, .val (.double (FP.l2d (p3.toInt64))), .second, .val (.long ((p2.toInt64) - (p1.toInt64))), .second, .val (.int (0 : Int32))] [])) _
    refine XS.goto X0.here hx rfl (pc0 := 42) (pc' := 59) rfl (hb hby at_42) (by decide) (by decide) ?_
    show Steps p.tables e below (s₁.setTop (mkF m 59 #[.val (.int p1), .val (.int p2), .val (.int p3), .val (.double (FP.l2d (p1.toInt64))), .second, .val (.double (FP.l2d (p2.toInt64))), .second, .val (.double (FP.l2d (p3.toInt64))), .second, .val (.long ((p2.toInt64) - (p1.toInt64))), .second, .val (.int (0 : Int32))] [])) _
    refine XS.dloadN X0.here hx rfl (hb hby at_59) rfl ?_
    show Steps p.tables e below (s₁.setTop (mkF m 60 #[.val (.int p1), .val (.int p2), .val (.int p3), .val (.double (FP.l2d (p1.toInt64))), .second, .val (.double (FP.l2d (p2.toInt64))), .second, .val (.double (FP.l2d (p3.toInt64))), .second, .val (.long ((p2.toInt64) - (p1.toInt64))), .second, .val (.int (0 : Int32))] [(.double (FP.l2d (p1.toInt64)))])) _
    refine XS.dload X0.here hx rfl (hb hby at_60) rfl ?_
    show Steps p.tables e below (s₁.setTop (mkF m 62 #[.val (.int p1), .val (.int p2), .val (.int p3), .val (.double (FP.l2d (p1.toInt64))), .second, .val (.double (FP.l2d (p2.toInt64))), .second, .val (.double (FP.l2d (p3.toInt64))), .second, .val (.long ((p2.toInt64) - (p1.toInt64))), .second, .val (.int (0 : Int32))] [(.double (FP.l2d (p2.toInt64))), (.double (FP.l2d (p1.toInt64)))])) _
    refine XS.dload X0.here hx rfl (hb hby at_62) rfl ?_
    show Steps p.tables e below (s₁.setTop (mkF m 64 #[.val (.int p1), .val (.int p2), .val (.int p3), .val (.double (FP.l2d (p1.toInt64))), .second, .val (.double (FP.l2d (p2.toInt64))), .second, .val (.double (FP.l2d (p3.toInt64))), .second, .val (.long ((p2.toInt64) - (p1.toInt64))), .second, .val (.int (0 : Int32))] [(.double (FP.l2d (p3.toInt64))), (.double (FP.l2d (p2.toInt64))), (.double (FP.l2d (p1.toInt64)))])) _
    refine st4 _ ?_
    show Steps p.tables e below (T4.setTop (mkF m 67 #[.val (.int p1), .val (.int p2), .val (.int p3), .val (.double (FP.l2d (p1.toInt64))), .second, .val (.double (FP.l2d (p2.toInt64))), .second, .val (.double (FP.l2d (p3.toInt64))), .second, .val (.long ((p2.toInt64) - (p1.toInt64))), .second, .val (.int (0 : Int32))] [(.int (0 : Int32))])) _
    refine XS.iload X4.here hx rfl (hb hby at_67) rfl ?_
    show Steps p.tables e below (T4.setTop (mkF m 69 #[.val (.int p1), .val (.int p2), .val (.int p3), .val (.double (FP.l2d (p1.toInt64))), .second, .val (.double (FP.l2d (p2.toInt64))), .second, .val (.double (FP.l2d (p3.toInt64))), .second, .val (.long ((p2.toInt64) - (p1.toInt64))), .second, .val (.int (0 : Int32))] [(.int (0 : Int32)), (.int (0 : Int32))])) _
    refine XS.icmpNo X4.here hx rfl (hb hby at_69) rfl (teq (rfl : (0 : Int32) = (0 : Int32))).2 ?_
    show Steps p.tables e below (T4.setTop (mkF m 72 #[.val (.int p1), .val (.int p2), .val (.int p3), .val (.double (FP.l2d (p1.toInt64))), .second, .val (.double (FP.l2d (p2.toInt64))), .second, .val (.double (FP.l2d (p3.toInt64))), .second, .val (.long ((p2.toInt64) - (p1.toInt64))), .second, .val (.int (0 : Int32))] [])) _
    refine XS.iconst X4.here hx rfl (hb hby at_72) ?_
    show Steps p.tables e below (T4.setTop (mkF m 73 #[.val (.int p1), .val (.int p2), .val (.int p3), .val (.double (FP.l2d (p1.toInt64))), .second, .val (.double (FP.l2d (p2.toInt64))), .second, .val (.double (FP.l2d (p3.toInt64))), .second, .val (.long ((p2.toInt64) - (p1.toInt64))), .second, .val (.int (0 : Int32))] [(.int (1 : Int32))])) _
    refine XS.goto X4.here hx rfl (pc0 := 73) (pc' := 77) rfl (hb hby at_73) (by decide) (by decide) ?_
    show Steps p.tables e below (T4.setTop (mkF m 77 #[.val (.int p1), .val (.int p2), .val (.int p3), .val (.double (FP.l2d (p1.toInt64))), .second, .val (.double (FP.l2d (p2.toInt64))), .second, .val (.double (FP.l2d (p3.toInt64))), .second, .val (.long ((p2.toInt64) - (p1.toInt64))), .second, .val (.int (0 : Int32))] [(.int (1 : Int32))])) _
    exact retN X4 hx (t := .boolean) Bd.returns (by simp) (hb hby at_77) hr
  · show Q0_P0 Z p1 p2 p3 h0 n0 _ T4.heap _
    exact ⟨rfl, N4⟩
theorem pd_0_N1_0 : parseMethodDescriptor "(DDD)Z" = some ⟨[.double, .double, .double], some .boolean⟩ := by decide +kernel
def Q0_N1 (Z : State) (p1 : Int32) (p2 : Int32) (p3 : Int32) (h0 : Heap) (n0 : Nat) (v : Option Value) (h : Heap) (L : List Loc) : Prop := v = some (.int (1 : Int32)) ∧ Fr n0 L
set_option maxRecDepth 65536 in
set_option maxHeartbeats 40000000 in
theorem rm0_N1 (l : Launch) (Z : State) (a0 : Array Value) (hw : ∀ d ∈ tables_1, d.before a0 Z = true) (ws : List Jvm.Cond) (p1 : Int32) (p2 : Int32) (p3 : Int32) (h0 : Heap) (n0 : Nat) (Z0 : n0 ≤ h0.size) (hc1 : ¬ (p3 = (0 : Int32))) (hc25 : ¬ ((0 : Int32) < p3)) (hc49 : ¬ ((0 : Int32) < (lcmpW ((p2.toInt64) - (p1.toInt64)) (0 : Int64)))) :
    MetFree l x (head1 (Jvm.Cond.code x code maxLocals ret :: ws) room_1) (fun a U => a = #[(.int p1), (.int p2), (.int p3)] ∧ Z.Warmed39 U.vm ∧ U.heap = h0) (fun _ _ _ _ _ => True) (fun _ U o U' => ∃ v L, o = .returned v ∧ Q0_N1 Z p1 p2 p3 h0 n0 v U'.heap L ∧ FrameEnd U o U' L room_1.cells room_1.slots) := by
  refine MetFree.of_bodySF (plainFor_of_name pn_0) hisR ?_
  intro p e s m args below meth c s₁ Bd hml0 hP hK
  obtain ⟨rfl, hZ, hh⟩ := hP
  have hx := Bd.exec
  have hby := Bd.bytes
  have hml : c.maxLocals = 12 := hml0
  have hown : s.vm.findClass "org/graftloom/lua/NumericForNodeFloatsGoOnPinLaw" = some m.cls := findClass_of_methodNamed Bd.named
  have hnm := (name_of_methodNamed Bd.named Bd.method).1
  have X0 : Stand p l e room_1 s m #[(.int p1), (.int p2), (.int p3)] below meth c s₁ [] 0 0 := Stand.of_body Bd
  have e0 : s₁.heap = h0 := by rw [← hh, Bd.state]; rfl
  have N0 := Fr.nil n0
  have pre0 : ∀ t, Steps p.tables e below (s₁.setTop (mkF m 0 #[.val (.int p1), .val (.int p2), .val (.int p3), .unset, .unset, .unset, .unset, .unset, .unset, .unset, .unset, .unset] [])) t → Steps p.tables e below (s₁.setTop (entryFrame m #[(.int p1), (.int p2), (.int p3)] maxLocals)) t := fun t k => castTop (ef_0 m p1 p2 p3) k
  obtain ⟨_, _, ⟨T4, L4, k4, n4⟩, -, X4, ⟨Lc4, hQ4, l4, y4, z4⟩, st4⟩ := Jvm.LawKit.callS X0 hx (y := (⟨"org/graftloom/lua/NumericForNode", "floatsGoOn", "(DDD)Z"⟩ : MethodName)) hown (mvT hZ (hw _ (List.mem_of_getElem? (i := 0) rfl))) (mvT hZ (hw _ (List.mem_of_getElem? (i := 1) rfl))) (mvT hZ (hw _ (List.mem_of_getElem? (i := 2) rfl))) (mvT hZ (hw _ (List.mem_of_getElem? (i := 3) rfl))) (by decide) (backOf (W := 0) (rm1_tf l Z a0 hw [] (p1.toInt64) (p2.toInt64) (p3.toInt64) h0 n0 Z0 (own_b53 p1) (own_b53 p2) (own_b53 p3) (own_npos hc25) (fun h => hc49 ((own_gapG p1 p2).mpr h))) hZ (hw _ (List.mem_of_getElem? (i := 3) rfl)) (hw _ (List.mem_of_getElem? (i := 2) rfl)) (by decide) (by decide)) (g := (mkF m 64 #[.val (.int p1), .val (.int p2), .val (.int p3), .val (.double (FP.l2d (p1.toInt64))), .second, .val (.double (FP.l2d (p2.toInt64))), .second, .val (.double (FP.l2d (p3.toInt64))), .second, .val (.long ((p2.toInt64) - (p1.toInt64))), .second, .val (.int (1 : Int32))] [(.double (FP.l2d (p3.toInt64))), (.double (FP.l2d (p2.toInt64))), (.double (FP.l2d (p1.toInt64)))])) rfl (by rw [hml]; rfl) (argsL := [(.double (FP.l2d (p1.toInt64))), (.double (FP.l2d (p2.toInt64))), (.double (FP.l2d (p3.toInt64)))]) (rest := []) (lenOf pd_0_N1_0 rfl) rfl (by show 2 * 0 + _ ≤ _; exact Nat.le_of_eq rfl) (hb hby at_64) (fun _ _ => ⟨rfl, e0, (by decide : 0 + 0 ≤ _), (by decide : 0 + 0 ≤ _)⟩)
  dsimp only [Pt.U, Pt.locs, Pt.cells, Pt.slots] at X4 l4 y4 z4 st4 hQ4
  subst l4 y4 z4
  obtain ⟨rfl, N4q, e4q⟩ := hQ4
  have N4 := Fr.app N0 N4q
  obtain ⟨fs, hr, hrun, hended, hW, hsame⟩ := X4.leave (v := some (.int (1 : Int32))) (fun h => by rw [Bd.returns] at h; cases h)
  refine ⟨_, _, pre0 _ ?_, hrun, hended, _, _, rfl, ?_, ⟨_, rfl⟩, hW, hsame.mono (by decide) (by decide)⟩
  · show Steps p.tables e below (s₁.setTop (mkF m 0 #[.val (.int p1), .val (.int p2), .val (.int p3), .unset, .unset, .unset, .unset, .unset, .unset, .unset, .unset, .unset] [])) _
    refine XS.iloadN X0.here hx rfl (hb hby at_0) rfl ?_
    show Steps p.tables e below (s₁.setTop (mkF m 1 #[.val (.int p1), .val (.int p2), .val (.int p3), .unset, .unset, .unset, .unset, .unset, .unset, .unset, .unset, .unset] [(.int p3)])) _
    refine XS.ifYes X0.here hx rfl (pc0 := 1) (pc' := 6) rfl (hb hby at_1) rfl ((if0 _ _).trans (feq hc1).2) (by decide) (by decide) ?_
    show Steps p.tables e below (s₁.setTop (mkF m 6 #[.val (.int p1), .val (.int p2), .val (.int p3), .unset, .unset, .unset, .unset, .unset, .unset, .unset, .unset, .unset] [])) _
    refine XS.iloadN X0.here hx rfl (hb hby at_6) rfl ?_
    show Steps p.tables e below (s₁.setTop (mkF m 7 #[.val (.int p1), .val (.int p2), .val (.int p3), .unset, .unset, .unset, .unset, .unset, .unset, .unset, .unset, .unset] [(.int p1)])) _
    refine XS.i2dS X0.here hx rfl (hb hby at_7) rfl (i2d_w p1) ?_
    show Steps p.tables e below (s₁.setTop (mkF m 8 #[.val (.int p1), .val (.int p2), .val (.int p3), .unset, .unset, .unset, .unset, .unset, .unset, .unset, .unset, .unset] [(.double (FP.l2d (p1.toInt64)))])) _
    refine XS.dstoreN X0.here hx rfl (hb hby at_8) rfl (l' := #[.val (.int p1), .val (.int p2), .val (.int p3), .val (.double (FP.l2d (p1.toInt64))), .second, .unset, .unset, .unset, .unset, .unset, .unset, .unset]) rfl ?_
    show Steps p.tables e below (s₁.setTop (mkF m 9 #[.val (.int p1), .val (.int p2), .val (.int p3), .val (.double (FP.l2d (p1.toInt64))), .second, .unset, .unset, .unset, .unset, .unset, .unset, .unset] [])) _
    refine XS.iloadN X0.here hx rfl (hb hby at_9) rfl ?_
    show Steps p.tables e below (s₁.setTop (mkF m 10 #[.val (.int p1), .val (.int p2), .val (.int p3), .val (.double (FP.l2d (p1.toInt64))), .second, .unset, .unset, .unset, .unset, .unset, .unset, .unset] [(.int p2)])) _
    refine XS.i2dS X0.here hx rfl (hb hby at_10) rfl (i2d_w p2) ?_
    show Steps p.tables e below (s₁.setTop (mkF m 11 #[.val (.int p1), .val (.int p2), .val (.int p3), .val (.double (FP.l2d (p1.toInt64))), .second, .unset, .unset, .unset, .unset, .unset, .unset, .unset] [(.double (FP.l2d (p2.toInt64)))])) _
    refine XS.dstore X0.here hx rfl (hb hby at_11) rfl (l' := #[.val (.int p1), .val (.int p2), .val (.int p3), .val (.double (FP.l2d (p1.toInt64))), .second, .val (.double (FP.l2d (p2.toInt64))), .second, .unset, .unset, .unset, .unset, .unset]) rfl ?_
    show Steps p.tables e below (s₁.setTop (mkF m 13 #[.val (.int p1), .val (.int p2), .val (.int p3), .val (.double (FP.l2d (p1.toInt64))), .second, .val (.double (FP.l2d (p2.toInt64))), .second, .unset, .unset, .unset, .unset, .unset] [])) _
    refine XS.iloadN X0.here hx rfl (hb hby at_13) rfl ?_
    show Steps p.tables e below (s₁.setTop (mkF m 14 #[.val (.int p1), .val (.int p2), .val (.int p3), .val (.double (FP.l2d (p1.toInt64))), .second, .val (.double (FP.l2d (p2.toInt64))), .second, .unset, .unset, .unset, .unset, .unset] [(.int p3)])) _
    refine XS.i2dS X0.here hx rfl (hb hby at_14) rfl (i2d_w p3) ?_
    show Steps p.tables e below (s₁.setTop (mkF m 15 #[.val (.int p1), .val (.int p2), .val (.int p3), .val (.double (FP.l2d (p1.toInt64))), .second, .val (.double (FP.l2d (p2.toInt64))), .second, .unset, .unset, .unset, .unset, .unset] [(.double (FP.l2d (p3.toInt64)))])) _
    refine XS.dstore X0.here hx rfl (hb hby at_15) rfl (l' := #[.val (.int p1), .val (.int p2), .val (.int p3), .val (.double (FP.l2d (p1.toInt64))), .second, .val (.double (FP.l2d (p2.toInt64))), .second, .val (.double (FP.l2d (p3.toInt64))), .second, .unset, .unset, .unset]) rfl ?_
    show Steps p.tables e below (s₁.setTop (mkF m 17 #[.val (.int p1), .val (.int p2), .val (.int p3), .val (.double (FP.l2d (p1.toInt64))), .second, .val (.double (FP.l2d (p2.toInt64))), .second, .val (.double (FP.l2d (p3.toInt64))), .second, .unset, .unset, .unset] [])) _
    refine XS.iloadN X0.here hx rfl (hb hby at_17) rfl ?_
    show Steps p.tables e below (s₁.setTop (mkF m 18 #[.val (.int p1), .val (.int p2), .val (.int p3), .val (.double (FP.l2d (p1.toInt64))), .second, .val (.double (FP.l2d (p2.toInt64))), .second, .val (.double (FP.l2d (p3.toInt64))), .second, .unset, .unset, .unset] [(.int p2)])) _
    refine XS.i2l X0.here hx rfl (hb hby at_18) rfl ?_
    show Steps p.tables e below (s₁.setTop (mkF m 19 #[.val (.int p1), .val (.int p2), .val (.int p3), .val (.double (FP.l2d (p1.toInt64))), .second, .val (.double (FP.l2d (p2.toInt64))), .second, .val (.double (FP.l2d (p3.toInt64))), .second, .unset, .unset, .unset] [(.long (p2.toInt64))])) _
    refine XS.iloadN X0.here hx rfl (hb hby at_19) rfl ?_
    show Steps p.tables e below (s₁.setTop (mkF m 20 #[.val (.int p1), .val (.int p2), .val (.int p3), .val (.double (FP.l2d (p1.toInt64))), .second, .val (.double (FP.l2d (p2.toInt64))), .second, .val (.double (FP.l2d (p3.toInt64))), .second, .unset, .unset, .unset] [(.int p1), (.long (p2.toInt64))])) _
    refine XS.i2l X0.here hx rfl (hb hby at_20) rfl ?_
    show Steps p.tables e below (s₁.setTop (mkF m 21 #[.val (.int p1), .val (.int p2), .val (.int p3), .val (.double (FP.l2d (p1.toInt64))), .second, .val (.double (FP.l2d (p2.toInt64))), .second, .val (.double (FP.l2d (p3.toInt64))), .second, .unset, .unset, .unset] [(.long (p1.toInt64)), (.long (p2.toInt64))])) _
    refine XS.lsub X0.here hx rfl (hb hby at_21) rfl ?_
    show Steps p.tables e below (s₁.setTop (mkF m 22 #[.val (.int p1), .val (.int p2), .val (.int p3), .val (.double (FP.l2d (p1.toInt64))), .second, .val (.double (FP.l2d (p2.toInt64))), .second, .val (.double (FP.l2d (p3.toInt64))), .second, .unset, .unset, .unset] [(.long ((p2.toInt64) - (p1.toInt64)))])) _
    refine XS.lstore X0.here hx rfl (hb hby at_22) rfl (l' := #[.val (.int p1), .val (.int p2), .val (.int p3), .val (.double (FP.l2d (p1.toInt64))), .second, .val (.double (FP.l2d (p2.toInt64))), .second, .val (.double (FP.l2d (p3.toInt64))), .second, .val (.long ((p2.toInt64) - (p1.toInt64))), .second, .unset]) rfl ?_
    show Steps p.tables e below (s₁.setTop (mkF m 24 #[.val (.int p1), .val (.int p2), .val (.int p3), .val (.double (FP.l2d (p1.toInt64))), .second, .val (.double (FP.l2d (p2.toInt64))), .second, .val (.double (FP.l2d (p3.toInt64))), .second, .val (.long ((p2.toInt64) - (p1.toInt64))), .second, .unset] [])) _
    refine XS.iloadN X0.here hx rfl (hb hby at_24) rfl ?_
    show Steps p.tables e below (s₁.setTop (mkF m 25 #[.val (.int p1), .val (.int p2), .val (.int p3), .val (.double (FP.l2d (p1.toInt64))), .second, .val (.double (FP.l2d (p2.toInt64))), .second, .val (.double (FP.l2d (p3.toInt64))), .second, .val (.long ((p2.toInt64) - (p1.toInt64))), .second, .unset] [(.int p3)])) _
    refine XS.ifYes X0.here hx rfl (pc0 := 25) (pc' := 45) rfl (hb hby at_25) rfl ((if0 _ _).trans (flt hc25).2.2.2) (by decide) (by decide) ?_
    show Steps p.tables e below (s₁.setTop (mkF m 45 #[.val (.int p1), .val (.int p2), .val (.int p3), .val (.double (FP.l2d (p1.toInt64))), .second, .val (.double (FP.l2d (p2.toInt64))), .second, .val (.double (FP.l2d (p3.toInt64))), .second, .val (.long ((p2.toInt64) - (p1.toInt64))), .second, .unset] [])) _
    refine XS.lload X0.here hx rfl (hb hby at_45) rfl ?_
    show Steps p.tables e below (s₁.setTop (mkF m 47 #[.val (.int p1), .val (.int p2), .val (.int p3), .val (.double (FP.l2d (p1.toInt64))), .second, .val (.double (FP.l2d (p2.toInt64))), .second, .val (.double (FP.l2d (p3.toInt64))), .second, .val (.long ((p2.toInt64) - (p1.toInt64))), .second, .unset] [(.long ((p2.toInt64) - (p1.toInt64)))])) _
    refine XS.lconst X0.here hx rfl (hb hby at_47) ?_
    show Steps p.tables e below (s₁.setTop (mkF m 48 #[.val (.int p1), .val (.int p2), .val (.int p3), .val (.double (FP.l2d (p1.toInt64))), .second, .val (.double (FP.l2d (p2.toInt64))), .second, .val (.double (FP.l2d (p3.toInt64))), .second, .val (.long ((p2.toInt64) - (p1.toInt64))), .second, .unset] [(.long (0 : Int64)), (.long ((p2.toInt64) - (p1.toInt64)))])) _
    refine XS.lcmp X0.here hx rfl (hb hby at_48) rfl ?_
    show Steps p.tables e below (s₁.setTop (mkF m 49 #[.val (.int p1), .val (.int p2), .val (.int p3), .val (.double (FP.l2d (p1.toInt64))), .second, .val (.double (FP.l2d (p2.toInt64))), .second, .val (.double (FP.l2d (p3.toInt64))), .second, .val (.long ((p2.toInt64) - (p1.toInt64))), .second, .unset] [(.int (lcmpW ((p2.toInt64) - (p1.toInt64)) (0 : Int64)))])) _
    refine XS.ifNo X0.here hx rfl (hb hby at_49) rfl ((if0 _ _).trans (flt hc49).2.2.1) ?_
    show Steps p.tables e below (s₁.setTop (mkF m 52 #[.val (.int p1), .val (.int p2), .val (.int p3), .val (.double (FP.l2d (p1.toInt64))), .second, .val (.double (FP.l2d (p2.toInt64))), .second, .val (.double (FP.l2d (p3.toInt64))), .second, .val (.long ((p2.toInt64) - (p1.toInt64))), .second, .unset] [])) _
    refine XS.iconst X0.here hx rfl (hb hby at_52) ?_
    show Steps p.tables e below (s₁.setTop (mkF m 53 #[.val (.int p1), .val (.int p2), .val (.int p3), .val (.double (FP.l2d (p1.toInt64))), .second, .val (.double (FP.l2d (p2.toInt64))), .second, .val (.double (FP.l2d (p3.toInt64))), .second, .val (.long ((p2.toInt64) - (p1.toInt64))), .second, .unset] [(.int (1 : Int32))])) _
    refine XS.goto X0.here hx rfl (pc0 := 53) (pc' := 57) rfl (hb hby at_53) (by decide) (by decide) ?_
    show Steps p.tables e below (s₁.setTop (mkF m 57 #[.val (.int p1), .val (.int p2), .val (.int p3), .val (.double (FP.l2d (p1.toInt64))), .second, .val (.double (FP.l2d (p2.toInt64))), .second, .val (.double (FP.l2d (p3.toInt64))), .second, .val (.long ((p2.toInt64) - (p1.toInt64))), .second, .unset] [(.int (1 : Int32))])) _
    refine XS.istore X0.here hx rfl (hb hby at_57) rfl (l' := #[.val (.int p1), .val (.int p2), .val (.int p3), .val (.double (FP.l2d (p1.toInt64))), .second, .val (.double (FP.l2d (p2.toInt64))), .second, .val (.double (FP.l2d (p3.toInt64))), .second, .val (.long ((p2.toInt64) - (p1.toInt64))), .second, .val (.int (1 : Int32))]) rfl ?_
    show Steps p.tables e below (s₁.setTop (mkF m 59 #[.val (.int p1), .val (.int p2), .val (.int p3), .val (.double (FP.l2d (p1.toInt64))), .second, .val (.double (FP.l2d (p2.toInt64))), .second, .val (.double (FP.l2d (p3.toInt64))), .second, .val (.long ((p2.toInt64) - (p1.toInt64))), .second, .val (.int (1 : Int32))] [])) _
    refine XS.dloadN X0.here hx rfl (hb hby at_59) rfl ?_
    show Steps p.tables e below (s₁.setTop (mkF m 60 #[.val (.int p1), .val (.int p2), .val (.int p3), .val (.double (FP.l2d (p1.toInt64))), .second, .val (.double (FP.l2d (p2.toInt64))), .second, .val (.double (FP.l2d (p3.toInt64))), .second, .val (.long ((p2.toInt64) - (p1.toInt64))), .second, .val (.int (1 : Int32))] [(.double (FP.l2d (p1.toInt64)))])) _
    refine XS.dload X0.here hx rfl (hb hby at_60) rfl ?_
    show Steps p.tables e below (s₁.setTop (mkF m 62 #[.val (.int p1), .val (.int p2), .val (.int p3), .val (.double (FP.l2d (p1.toInt64))), .second, .val (.double (FP.l2d (p2.toInt64))), .second, .val (.double (FP.l2d (p3.toInt64))), .second, .val (.long ((p2.toInt64) - (p1.toInt64))), .second, .val (.int (1 : Int32))] [(.double (FP.l2d (p2.toInt64))), (.double (FP.l2d (p1.toInt64)))])) _
    refine XS.dload X0.here hx rfl (hb hby at_62) rfl ?_
    show Steps p.tables e below (s₁.setTop (mkF m 64 #[.val (.int p1), .val (.int p2), .val (.int p3), .val (.double (FP.l2d (p1.toInt64))), .second, .val (.double (FP.l2d (p2.toInt64))), .second, .val (.double (FP.l2d (p3.toInt64))), .second, .val (.long ((p2.toInt64) - (p1.toInt64))), .second, .val (.int (1 : Int32))] [(.double (FP.l2d (p3.toInt64))), (.double (FP.l2d (p2.toInt64))), (.double (FP.l2d (p1.toInt64)))])) _
    refine st4 _ ?_
    show Steps p.tables e below (T4.setTop (mkF m 67 #[.val (.int p1), .val (.int p2), .val (.int p3), .val (.double (FP.l2d (p1.toInt64))), .second, .val (.double (FP.l2d (p2.toInt64))), .second, .val (.double (FP.l2d (p3.toInt64))), .second, .val (.long ((p2.toInt64) - (p1.toInt64))), .second, .val (.int (1 : Int32))] [(.int (1 : Int32))])) _
    refine XS.iload X4.here hx rfl (hb hby at_67) rfl ?_
    show Steps p.tables e below (T4.setTop (mkF m 69 #[.val (.int p1), .val (.int p2), .val (.int p3), .val (.double (FP.l2d (p1.toInt64))), .second, .val (.double (FP.l2d (p2.toInt64))), .second, .val (.double (FP.l2d (p3.toInt64))), .second, .val (.long ((p2.toInt64) - (p1.toInt64))), .second, .val (.int (1 : Int32))] [(.int (1 : Int32)), (.int (1 : Int32))])) _
    refine XS.icmpNo X4.here hx rfl (hb hby at_69) rfl (teq (rfl : (1 : Int32) = (1 : Int32))).2 ?_
    show Steps p.tables e below (T4.setTop (mkF m 72 #[.val (.int p1), .val (.int p2), .val (.int p3), .val (.double (FP.l2d (p1.toInt64))), .second, .val (.double (FP.l2d (p2.toInt64))), .second, .val (.double (FP.l2d (p3.toInt64))), .second, .val (.long ((p2.toInt64) - (p1.toInt64))), .second, .val (.int (1 : Int32))] [])) _
    refine XS.iconst X4.here hx rfl (hb hby at_72) ?_
    show Steps p.tables e below (T4.setTop (mkF m 73 #[.val (.int p1), .val (.int p2), .val (.int p3), .val (.double (FP.l2d (p1.toInt64))), .second, .val (.double (FP.l2d (p2.toInt64))), .second, .val (.double (FP.l2d (p3.toInt64))), .second, .val (.long ((p2.toInt64) - (p1.toInt64))), .second, .val (.int (1 : Int32))] [(.int (1 : Int32))])) _
    refine XS.goto X4.here hx rfl (pc0 := 73) (pc' := 77) rfl (hb hby at_73) (by decide) (by decide) ?_
    show Steps p.tables e below (T4.setTop (mkF m 77 #[.val (.int p1), .val (.int p2), .val (.int p3), .val (.double (FP.l2d (p1.toInt64))), .second, .val (.double (FP.l2d (p2.toInt64))), .second, .val (.double (FP.l2d (p3.toInt64))), .second, .val (.long ((p2.toInt64) - (p1.toInt64))), .second, .val (.int (1 : Int32))] [(.int (1 : Int32))])) _
    exact retN X4 hx (t := .boolean) Bd.returns (by simp) (hb hby at_77) hr
  · show Q0_N1 Z p1 p2 p3 h0 n0 _ T4.heap _
    exact ⟨rfl, N4⟩
theorem pd_0_N0_0 : parseMethodDescriptor "(DDD)Z" = some ⟨[.double, .double, .double], some .boolean⟩ := by decide +kernel
def Q0_N0 (Z : State) (p1 : Int32) (p2 : Int32) (p3 : Int32) (h0 : Heap) (n0 : Nat) (v : Option Value) (h : Heap) (L : List Loc) : Prop := v = some (.int (1 : Int32)) ∧ Fr n0 L
set_option maxRecDepth 65536 in
set_option maxHeartbeats 40000000 in
theorem rm0_N0 (l : Launch) (Z : State) (a0 : Array Value) (hw : ∀ d ∈ tables_1, d.before a0 Z = true) (ws : List Jvm.Cond) (p1 : Int32) (p2 : Int32) (p3 : Int32) (h0 : Heap) (n0 : Nat) (Z0 : n0 ≤ h0.size) (hc1 : ¬ (p3 = (0 : Int32))) (hc25 : ¬ ((0 : Int32) < p3)) (hc49 : (0 : Int32) < (lcmpW ((p2.toInt64) - (p1.toInt64)) (0 : Int64))) :
    MetFree l x (head1 (Jvm.Cond.code x code maxLocals ret :: ws) room_1) (fun a U => a = #[(.int p1), (.int p2), (.int p3)] ∧ Z.Warmed39 U.vm ∧ U.heap = h0) (fun _ _ _ _ _ => True) (fun _ U o U' => ∃ v L, o = .returned v ∧ Q0_N0 Z p1 p2 p3 h0 n0 v U'.heap L ∧ FrameEnd U o U' L room_1.cells room_1.slots) := by
  refine MetFree.of_bodySF (plainFor_of_name pn_0) hisR ?_
  intro p e s m args below meth c s₁ Bd hml0 hP hK
  obtain ⟨rfl, hZ, hh⟩ := hP
  have hx := Bd.exec
  have hby := Bd.bytes
  have hml : c.maxLocals = 12 := hml0
  have hown : s.vm.findClass "org/graftloom/lua/NumericForNodeFloatsGoOnPinLaw" = some m.cls := findClass_of_methodNamed Bd.named
  have hnm := (name_of_methodNamed Bd.named Bd.method).1
  have X0 : Stand p l e room_1 s m #[(.int p1), (.int p2), (.int p3)] below meth c s₁ [] 0 0 := Stand.of_body Bd
  have e0 : s₁.heap = h0 := by rw [← hh, Bd.state]; rfl
  have N0 := Fr.nil n0
  have pre0 : ∀ t, Steps p.tables e below (s₁.setTop (mkF m 0 #[.val (.int p1), .val (.int p2), .val (.int p3), .unset, .unset, .unset, .unset, .unset, .unset, .unset, .unset, .unset] [])) t → Steps p.tables e below (s₁.setTop (entryFrame m #[(.int p1), (.int p2), (.int p3)] maxLocals)) t := fun t k => castTop (ef_0 m p1 p2 p3) k
  obtain ⟨_, _, ⟨T4, L4, k4, n4⟩, -, X4, ⟨Lc4, hQ4, l4, y4, z4⟩, st4⟩ := Jvm.LawKit.callS X0 hx (y := (⟨"org/graftloom/lua/NumericForNode", "floatsGoOn", "(DDD)Z"⟩ : MethodName)) hown (mvT hZ (hw _ (List.mem_of_getElem? (i := 0) rfl))) (mvT hZ (hw _ (List.mem_of_getElem? (i := 1) rfl))) (mvT hZ (hw _ (List.mem_of_getElem? (i := 2) rfl))) (mvT hZ (hw _ (List.mem_of_getElem? (i := 3) rfl))) (by decide) (backOf (W := 0) (rm1_tt l Z a0 hw [] (p1.toInt64) (p2.toInt64) (p3.toInt64) h0 n0 Z0 (own_b53 p1) (own_b53 p2) (own_b53 p3) (own_npos hc25) ((own_gapG p1 p2).mp hc49)) hZ (hw _ (List.mem_of_getElem? (i := 3) rfl)) (hw _ (List.mem_of_getElem? (i := 2) rfl)) (by decide) (by decide)) (g := (mkF m 64 #[.val (.int p1), .val (.int p2), .val (.int p3), .val (.double (FP.l2d (p1.toInt64))), .second, .val (.double (FP.l2d (p2.toInt64))), .second, .val (.double (FP.l2d (p3.toInt64))), .second, .val (.long ((p2.toInt64) - (p1.toInt64))), .second, .val (.int (0 : Int32))] [(.double (FP.l2d (p3.toInt64))), (.double (FP.l2d (p2.toInt64))), (.double (FP.l2d (p1.toInt64)))])) rfl (by rw [hml]; rfl) (argsL := [(.double (FP.l2d (p1.toInt64))), (.double (FP.l2d (p2.toInt64))), (.double (FP.l2d (p3.toInt64)))]) (rest := []) (lenOf pd_0_N0_0 rfl) rfl (by show 2 * 0 + _ ≤ _; exact Nat.le_of_eq rfl) (hb hby at_64) (fun _ _ => ⟨rfl, e0, (by decide : 0 + 0 ≤ _), (by decide : 0 + 0 ≤ _)⟩)
  dsimp only [Pt.U, Pt.locs, Pt.cells, Pt.slots] at X4 l4 y4 z4 st4 hQ4
  subst l4 y4 z4
  obtain ⟨rfl, N4q, e4q⟩ := hQ4
  have N4 := Fr.app N0 N4q
  obtain ⟨fs, hr, hrun, hended, hW, hsame⟩ := X4.leave (v := some (.int (1 : Int32))) (fun h => by rw [Bd.returns] at h; cases h)
  refine ⟨_, _, pre0 _ ?_, hrun, hended, _, _, rfl, ?_, ⟨_, rfl⟩, hW, hsame.mono (by decide) (by decide)⟩
  · show Steps p.tables e below (s₁.setTop (mkF m 0 #[.val (.int p1), .val (.int p2), .val (.int p3), .unset, .unset, .unset, .unset, .unset, .unset, .unset, .unset, .unset] [])) _
    refine XS.iloadN X0.here hx rfl (hb hby at_0) rfl ?_
    show Steps p.tables e below (s₁.setTop (mkF m 1 #[.val (.int p1), .val (.int p2), .val (.int p3), .unset, .unset, .unset, .unset, .unset, .unset, .unset, .unset, .unset] [(.int p3)])) _
    refine XS.ifYes X0.here hx rfl (pc0 := 1) (pc' := 6) rfl (hb hby at_1) rfl ((if0 _ _).trans (feq hc1).2) (by decide) (by decide) ?_
    show Steps p.tables e below (s₁.setTop (mkF m 6 #[.val (.int p1), .val (.int p2), .val (.int p3), .unset, .unset, .unset, .unset, .unset, .unset, .unset, .unset, .unset] [])) _
    refine XS.iloadN X0.here hx rfl (hb hby at_6) rfl ?_
    show Steps p.tables e below (s₁.setTop (mkF m 7 #[.val (.int p1), .val (.int p2), .val (.int p3), .unset, .unset, .unset, .unset, .unset, .unset, .unset, .unset, .unset] [(.int p1)])) _
    refine XS.i2dS X0.here hx rfl (hb hby at_7) rfl (i2d_w p1) ?_
    show Steps p.tables e below (s₁.setTop (mkF m 8 #[.val (.int p1), .val (.int p2), .val (.int p3), .unset, .unset, .unset, .unset, .unset, .unset, .unset, .unset, .unset] [(.double (FP.l2d (p1.toInt64)))])) _
    refine XS.dstoreN X0.here hx rfl (hb hby at_8) rfl (l' := #[.val (.int p1), .val (.int p2), .val (.int p3), .val (.double (FP.l2d (p1.toInt64))), .second, .unset, .unset, .unset, .unset, .unset, .unset, .unset]) rfl ?_
    show Steps p.tables e below (s₁.setTop (mkF m 9 #[.val (.int p1), .val (.int p2), .val (.int p3), .val (.double (FP.l2d (p1.toInt64))), .second, .unset, .unset, .unset, .unset, .unset, .unset, .unset] [])) _
    refine XS.iloadN X0.here hx rfl (hb hby at_9) rfl ?_
    show Steps p.tables e below (s₁.setTop (mkF m 10 #[.val (.int p1), .val (.int p2), .val (.int p3), .val (.double (FP.l2d (p1.toInt64))), .second, .unset, .unset, .unset, .unset, .unset, .unset, .unset] [(.int p2)])) _
    refine XS.i2dS X0.here hx rfl (hb hby at_10) rfl (i2d_w p2) ?_
    show Steps p.tables e below (s₁.setTop (mkF m 11 #[.val (.int p1), .val (.int p2), .val (.int p3), .val (.double (FP.l2d (p1.toInt64))), .second, .unset, .unset, .unset, .unset, .unset, .unset, .unset] [(.double (FP.l2d (p2.toInt64)))])) _
    refine XS.dstore X0.here hx rfl (hb hby at_11) rfl (l' := #[.val (.int p1), .val (.int p2), .val (.int p3), .val (.double (FP.l2d (p1.toInt64))), .second, .val (.double (FP.l2d (p2.toInt64))), .second, .unset, .unset, .unset, .unset, .unset]) rfl ?_
    show Steps p.tables e below (s₁.setTop (mkF m 13 #[.val (.int p1), .val (.int p2), .val (.int p3), .val (.double (FP.l2d (p1.toInt64))), .second, .val (.double (FP.l2d (p2.toInt64))), .second, .unset, .unset, .unset, .unset, .unset] [])) _
    refine XS.iloadN X0.here hx rfl (hb hby at_13) rfl ?_
    show Steps p.tables e below (s₁.setTop (mkF m 14 #[.val (.int p1), .val (.int p2), .val (.int p3), .val (.double (FP.l2d (p1.toInt64))), .second, .val (.double (FP.l2d (p2.toInt64))), .second, .unset, .unset, .unset, .unset, .unset] [(.int p3)])) _
    refine XS.i2dS X0.here hx rfl (hb hby at_14) rfl (i2d_w p3) ?_
    show Steps p.tables e below (s₁.setTop (mkF m 15 #[.val (.int p1), .val (.int p2), .val (.int p3), .val (.double (FP.l2d (p1.toInt64))), .second, .val (.double (FP.l2d (p2.toInt64))), .second, .unset, .unset, .unset, .unset, .unset] [(.double (FP.l2d (p3.toInt64)))])) _
    refine XS.dstore X0.here hx rfl (hb hby at_15) rfl (l' := #[.val (.int p1), .val (.int p2), .val (.int p3), .val (.double (FP.l2d (p1.toInt64))), .second, .val (.double (FP.l2d (p2.toInt64))), .second, .val (.double (FP.l2d (p3.toInt64))), .second, .unset, .unset, .unset]) rfl ?_
    show Steps p.tables e below (s₁.setTop (mkF m 17 #[.val (.int p1), .val (.int p2), .val (.int p3), .val (.double (FP.l2d (p1.toInt64))), .second, .val (.double (FP.l2d (p2.toInt64))), .second, .val (.double (FP.l2d (p3.toInt64))), .second, .unset, .unset, .unset] [])) _
    refine XS.iloadN X0.here hx rfl (hb hby at_17) rfl ?_
    show Steps p.tables e below (s₁.setTop (mkF m 18 #[.val (.int p1), .val (.int p2), .val (.int p3), .val (.double (FP.l2d (p1.toInt64))), .second, .val (.double (FP.l2d (p2.toInt64))), .second, .val (.double (FP.l2d (p3.toInt64))), .second, .unset, .unset, .unset] [(.int p2)])) _
    refine XS.i2l X0.here hx rfl (hb hby at_18) rfl ?_
    show Steps p.tables e below (s₁.setTop (mkF m 19 #[.val (.int p1), .val (.int p2), .val (.int p3), .val (.double (FP.l2d (p1.toInt64))), .second, .val (.double (FP.l2d (p2.toInt64))), .second, .val (.double (FP.l2d (p3.toInt64))), .second, .unset, .unset, .unset] [(.long (p2.toInt64))])) _
    refine XS.iloadN X0.here hx rfl (hb hby at_19) rfl ?_
    show Steps p.tables e below (s₁.setTop (mkF m 20 #[.val (.int p1), .val (.int p2), .val (.int p3), .val (.double (FP.l2d (p1.toInt64))), .second, .val (.double (FP.l2d (p2.toInt64))), .second, .val (.double (FP.l2d (p3.toInt64))), .second, .unset, .unset, .unset] [(.int p1), (.long (p2.toInt64))])) _
    refine XS.i2l X0.here hx rfl (hb hby at_20) rfl ?_
    show Steps p.tables e below (s₁.setTop (mkF m 21 #[.val (.int p1), .val (.int p2), .val (.int p3), .val (.double (FP.l2d (p1.toInt64))), .second, .val (.double (FP.l2d (p2.toInt64))), .second, .val (.double (FP.l2d (p3.toInt64))), .second, .unset, .unset, .unset] [(.long (p1.toInt64)), (.long (p2.toInt64))])) _
    refine XS.lsub X0.here hx rfl (hb hby at_21) rfl ?_
    show Steps p.tables e below (s₁.setTop (mkF m 22 #[.val (.int p1), .val (.int p2), .val (.int p3), .val (.double (FP.l2d (p1.toInt64))), .second, .val (.double (FP.l2d (p2.toInt64))), .second, .val (.double (FP.l2d (p3.toInt64))), .second, .unset, .unset, .unset] [(.long ((p2.toInt64) - (p1.toInt64)))])) _
    refine XS.lstore X0.here hx rfl (hb hby at_22) rfl (l' := #[.val (.int p1), .val (.int p2), .val (.int p3), .val (.double (FP.l2d (p1.toInt64))), .second, .val (.double (FP.l2d (p2.toInt64))), .second, .val (.double (FP.l2d (p3.toInt64))), .second, .val (.long ((p2.toInt64) - (p1.toInt64))), .second, .unset]) rfl ?_
    show Steps p.tables e below (s₁.setTop (mkF m 24 #[.val (.int p1), .val (.int p2), .val (.int p3), .val (.double (FP.l2d (p1.toInt64))), .second, .val (.double (FP.l2d (p2.toInt64))), .second, .val (.double (FP.l2d (p3.toInt64))), .second, .val (.long ((p2.toInt64) - (p1.toInt64))), .second, .unset] [])) _
    refine XS.iloadN X0.here hx rfl (hb hby at_24) rfl ?_
    show Steps p.tables e below (s₁.setTop (mkF m 25 #[.val (.int p1), .val (.int p2), .val (.int p3), .val (.double (FP.l2d (p1.toInt64))), .second, .val (.double (FP.l2d (p2.toInt64))), .second, .val (.double (FP.l2d (p3.toInt64))), .second, .val (.long ((p2.toInt64) - (p1.toInt64))), .second, .unset] [(.int p3)])) _
    refine XS.ifYes X0.here hx rfl (pc0 := 25) (pc' := 45) rfl (hb hby at_25) rfl ((if0 _ _).trans (flt hc25).2.2.2) (by decide) (by decide) ?_
    show Steps p.tables e below (s₁.setTop (mkF m 45 #[.val (.int p1), .val (.int p2), .val (.int p3), .val (.double (FP.l2d (p1.toInt64))), .second, .val (.double (FP.l2d (p2.toInt64))), .second, .val (.double (FP.l2d (p3.toInt64))), .second, .val (.long ((p2.toInt64) - (p1.toInt64))), .second, .unset] [])) _
    refine XS.lload X0.here hx rfl (hb hby at_45) rfl ?_
    show Steps p.tables e below (s₁.setTop (mkF m 47 #[.val (.int p1), .val (.int p2), .val (.int p3), .val (.double (FP.l2d (p1.toInt64))), .second, .val (.double (FP.l2d (p2.toInt64))), .second, .val (.double (FP.l2d (p3.toInt64))), .second, .val (.long ((p2.toInt64) - (p1.toInt64))), .second, .unset] [(.long ((p2.toInt64) - (p1.toInt64)))])) _
    refine XS.lconst X0.here hx rfl (hb hby at_47) ?_
    show Steps p.tables e below (s₁.setTop (mkF m 48 #[.val (.int p1), .val (.int p2), .val (.int p3), .val (.double (FP.l2d (p1.toInt64))), .second, .val (.double (FP.l2d (p2.toInt64))), .second, .val (.double (FP.l2d (p3.toInt64))), .second, .val (.long ((p2.toInt64) - (p1.toInt64))), .second, .unset] [(.long (0 : Int64)), (.long ((p2.toInt64) - (p1.toInt64)))])) _
    refine XS.lcmp X0.here hx rfl (hb hby at_48) rfl ?_
    show Steps p.tables e below (s₁.setTop (mkF m 49 #[.val (.int p1), .val (.int p2), .val (.int p3), .val (.double (FP.l2d (p1.toInt64))), .second, .val (.double (FP.l2d (p2.toInt64))), .second, .val (.double (FP.l2d (p3.toInt64))), .second, .val (.long ((p2.toInt64) - (p1.toInt64))), .second, .unset] [(.int (lcmpW ((p2.toInt64) - (p1.toInt64)) (0 : Int64)))])) _
    refine XS.ifYes X0.here hx rfl (pc0 := 49) (pc' := 56) rfl (hb hby at_49) rfl ((if0 _ _).trans (tlt hc49).2.2.1) (by decide) (by decide) ?_
    show Steps p.tables e below (s₁.setTop (mkF m 56 #[.val (.int p1), .val (.int p2), .val (.int p3), .val (.double (FP.l2d (p1.toInt64))), .second, .val (.double (FP.l2d (p2.toInt64))), .second, .val (.double (FP.l2d (p3.toInt64))), .second, .val (.long ((p2.toInt64) - (p1.toInt64))), .second, .unset] [])) _
    refine XS.iconst X0.here hx rfl (hb hby at_56) ?_
    show Steps p.tables e below (s₁.setTop (mkF m 57 #[.val (.int p1), .val (.int p2), .val (.int p3), .val (.double (FP.l2d (p1.toInt64))), .second, .val (.double (FP.l2d (p2.toInt64))), .second, .val (.double (FP.l2d (p3.toInt64))), .second, .val (.long ((p2.toInt64) - (p1.toInt64))), .second, .unset] [(.int (0 : Int32))])) _
    refine XS.istore X0.here hx rfl (hb hby at_57) rfl (l' := #[.val (.int p1), .val (.int p2), .val (.int p3), .val (.double (FP.l2d (p1.toInt64))), .second, .val (.double (FP.l2d (p2.toInt64))), .second, .val (.double (FP.l2d (p3.toInt64))), .second, .val (.long ((p2.toInt64) - (p1.toInt64))), .second, .val (.int (0 : Int32))]) rfl ?_
    show Steps p.tables e below (s₁.setTop (mkF m 59 #[.val (.int p1), .val (.int p2), .val (.int p3), .val (.double (FP.l2d (p1.toInt64))), .second, .val (.double (FP.l2d (p2.toInt64))), .second, .val (.double (FP.l2d (p3.toInt64))), .second, .val (.long ((p2.toInt64) - (p1.toInt64))), .second, .val (.int (0 : Int32))] [])) _
    refine XS.dloadN X0.here hx rfl (hb hby at_59) rfl ?_
    show Steps p.tables e below (s₁.setTop (mkF m 60 #[.val (.int p1), .val (.int p2), .val (.int p3), .val (.double (FP.l2d (p1.toInt64))), .second, .val (.double (FP.l2d (p2.toInt64))), .second, .val (.double (FP.l2d (p3.toInt64))), .second, .val (.long ((p2.toInt64) - (p1.toInt64))), .second, .val (.int (0 : Int32))] [(.double (FP.l2d (p1.toInt64)))])) _
    refine XS.dload X0.here hx rfl (hb hby at_60) rfl ?_
    show Steps p.tables e below (s₁.setTop (mkF m 62 #[.val (.int p1), .val (.int p2), .val (.int p3), .val (.double (FP.l2d (p1.toInt64))), .second, .val (.double (FP.l2d (p2.toInt64))), .second, .val (.double (FP.l2d (p3.toInt64))), .second, .val (.long ((p2.toInt64) - (p1.toInt64))), .second, .val (.int (0 : Int32))] [(.double (FP.l2d (p2.toInt64))), (.double (FP.l2d (p1.toInt64)))])) _
    refine XS.dload X0.here hx rfl (hb hby at_62) rfl ?_
    show Steps p.tables e below (s₁.setTop (mkF m 64 #[.val (.int p1), .val (.int p2), .val (.int p3), .val (.double (FP.l2d (p1.toInt64))), .second, .val (.double (FP.l2d (p2.toInt64))), .second, .val (.double (FP.l2d (p3.toInt64))), .second, .val (.long ((p2.toInt64) - (p1.toInt64))), .second, .val (.int (0 : Int32))] [(.double (FP.l2d (p3.toInt64))), (.double (FP.l2d (p2.toInt64))), (.double (FP.l2d (p1.toInt64)))])) _
    refine st4 _ ?_
    show Steps p.tables e below (T4.setTop (mkF m 67 #[.val (.int p1), .val (.int p2), .val (.int p3), .val (.double (FP.l2d (p1.toInt64))), .second, .val (.double (FP.l2d (p2.toInt64))), .second, .val (.double (FP.l2d (p3.toInt64))), .second, .val (.long ((p2.toInt64) - (p1.toInt64))), .second, .val (.int (0 : Int32))] [(.int (0 : Int32))])) _
    refine XS.iload X4.here hx rfl (hb hby at_67) rfl ?_
    show Steps p.tables e below (T4.setTop (mkF m 69 #[.val (.int p1), .val (.int p2), .val (.int p3), .val (.double (FP.l2d (p1.toInt64))), .second, .val (.double (FP.l2d (p2.toInt64))), .second, .val (.double (FP.l2d (p3.toInt64))), .second, .val (.long ((p2.toInt64) - (p1.toInt64))), .second, .val (.int (0 : Int32))] [(.int (0 : Int32)), (.int (0 : Int32))])) _
    refine XS.icmpNo X4.here hx rfl (hb hby at_69) rfl (teq (rfl : (0 : Int32) = (0 : Int32))).2 ?_
    show Steps p.tables e below (T4.setTop (mkF m 72 #[.val (.int p1), .val (.int p2), .val (.int p3), .val (.double (FP.l2d (p1.toInt64))), .second, .val (.double (FP.l2d (p2.toInt64))), .second, .val (.double (FP.l2d (p3.toInt64))), .second, .val (.long ((p2.toInt64) - (p1.toInt64))), .second, .val (.int (0 : Int32))] [])) _
    refine XS.iconst X4.here hx rfl (hb hby at_72) ?_
    show Steps p.tables e below (T4.setTop (mkF m 73 #[.val (.int p1), .val (.int p2), .val (.int p3), .val (.double (FP.l2d (p1.toInt64))), .second, .val (.double (FP.l2d (p2.toInt64))), .second, .val (.double (FP.l2d (p3.toInt64))), .second, .val (.long ((p2.toInt64) - (p1.toInt64))), .second, .val (.int (0 : Int32))] [(.int (1 : Int32))])) _
    refine XS.goto X4.here hx rfl (pc0 := 73) (pc' := 77) rfl (hb hby at_73) (by decide) (by decide) ?_
    show Steps p.tables e below (T4.setTop (mkF m 77 #[.val (.int p1), .val (.int p2), .val (.int p3), .val (.double (FP.l2d (p1.toInt64))), .second, .val (.double (FP.l2d (p2.toInt64))), .second, .val (.double (FP.l2d (p3.toInt64))), .second, .val (.long ((p2.toInt64) - (p1.toInt64))), .second, .val (.int (0 : Int32))] [(.int (1 : Int32))])) _
    exact retN X4 hx (t := .boolean) Bd.returns (by simp) (hb hby at_77) hr
  · show Q0_N0 Z p1 p2 p3 h0 n0 _ T4.heap _
    exact ⟨rfl, N4⟩
def Q0 (v : Option Value) (L : List Loc) (n0 : Nat) : Prop := v = some (.int (1 : Int32)) ∧ Fr n0 L
theorem rm0 (l : Launch) (Z : State) (a0 : Array Value) (hw : ∀ d ∈ tables_1, d.before a0 Z = true) (ws : List Jvm.Cond) (p1 p2 p3 : Int32) (h0 : Heap) (n0 : Nat) (Z0 : n0 ≤ h0.size) :
    MetFree l x (head1 (Jvm.Cond.code x code maxLocals ret :: ws) room_1) (fun a U => a = #[(.int p1), (.int p2), (.int p3)] ∧ Z.Warmed39 U.vm ∧ U.heap = h0) (fun _ _ _ _ _ => True) (fun _ U o U' => ∃ v L, o = .returned v ∧ Q0 v L n0 ∧ FrameEnd U o U' L room_1.cells room_1.slots) := by
  by_cases hc1 : p3 = (0 : Int32)
  · exact rm0_z l Z a0 hw ws p1 p2 p3 h0 n0 Z0 hc1
  · by_cases hc25 : (0 : Int32) < p3
    · by_cases hc32 : (lcmpW (p2.toInt64 - p1.toInt64) (0 : Int64)) < (0 : Int32)
      · exact rm0_P0 l Z a0 hw ws p1 p2 p3 h0 n0 Z0 hc1 hc25 hc32
      · exact rm0_P1 l Z a0 hw ws p1 p2 p3 h0 n0 Z0 hc1 hc25 hc32
    · by_cases hc49 : (0 : Int32) < (lcmpW (p2.toInt64 - p1.toInt64) (0 : Int64))
      · exact rm0_N0 l Z a0 hw ws p1 p2 p3 h0 n0 Z0 hc1 hc25 hc49
      · exact rm0_N1 l Z a0 hw ws p1 p2 p3 h0 n0 Z0 hc1 hc25 hc49
set_option maxRecDepth 65536 in
set_option maxHeartbeats 40000000 in
theorem comes_1 {Post : Tables → Env → Array Value → State → Outcome → State → Prop} (hpost : ∀ tb e args s v u, (limb_1_1.after args s (.returned v) u = true ∧ limb_1_2.after args s (.returned v) u = true ∧ True) → FrameEnd s (.returned v) u (Jvm.fieldLocs frame_1_writes args s ++ Jvm.arrayLocs frame_1_arrays args s ++ Jvm.staticLocs frame_1_statics s) 0 0 → Post tb e args s (.returned v) u) :
    ArmFor flags0 classFile x code maxLocals ret World_1 tables_1 room_1 Calls_1 rest_1 Pre_1 Post := by
  intro l hfl _ _ p e ha hc hk s m args below hf hA hF happ hP
  obtain ⟨hcalls, hrest, hpre⟩ := hP
  obtain ⟨-, -, -, hnamed, -, -, -, hat⟩ := (Spec.applies_iff hf).mp happ
  obtain ⟨hg, hn⟩ := and_e (Cond.before_iff.mp (show (Jvm.Cond.and given_1 narrow_1).before args s = true from hpre))
  obtain ⟨g5, g6⟩ := and_e hg
  obtain ⟨g7, g8⟩ := and_e g6
  obtain ⟨g9, g10⟩ := and_e g8
  obtain ⟨w0, w1, w2, rfl⟩ : ∃ w0 w1 w2 : Value, args = #[w0, w1, w2] := by
    have hs : args.size = 3 := by simpa [Cond.value, given_1] using g5
    obtain ⟨L⟩ := args
    match L, hs with
    | [w0, w1, w2], _ => exact ⟨w0, w1, w2, rfl⟩
  have hw := fun d (hd : d ∈ tables_1) => atoms_spec (ws := Jvm.Cond.code x code maxLocals ret :: tables_1) hat d (List.mem_cons_of_mem _ hd)
  have hfit : Fit s := fun {y c} hc i hi => by
    obtain ⟨ha, rfl⟩ := Array.getElem?_eq_some_iff.mp hc
    have q := List.all_eq_true.mp ((Array.all_eq_true_iff_forall_mem.mp hF) _ (Array.getElem_mem ha)) i (List.mem_range.mpr hi)
    simpa [Array.getElem?_eq_getElem hi] using q
  obtain ⟨i0, ei0⟩ := is_v g7
  obtain rfl : w0 = (.int i0) := Option.some.inj ei0
  obtain ⟨i1, ei1⟩ := is_v g9
  obtain rfl : w1 = (.int i1) := Option.some.inj ei1
  obtain ⟨i2, ei2⟩ := is_v g10
  obtain rfl : w2 = (.int i2) := Option.some.inj ei2
  obtain ⟨n, o, h1, h2, h3, _, L, rfl, ⟨rfl, N⟩, hq⟩ := rm0 l s _ hw tables_1 i0 i1 i2 s.heap s.heap.size (Nat.le_refl _) p e ha hc hk s m _ below hf ((Spec.applies_iff_loose hf).mp happ).1 ⟨rfl, State.Warmed39.refl s, rfl⟩ trivial
  refine ⟨n, _, h1, h2, h3, hpost _ _ _ _ _ _ ⟨Cond.after_iff.mpr rfl, Cond.after_iff.mpr (eq_i res_at (Term.int_eval (1)) rfl), trivial⟩ ⟨hq.1, hq.2.1, (hq.2.2.sift fun y hy => Or.inr (N y hy)).mono (by decide) (by decide)⟩⟩
theorem main_1_1 : Claimed_1_1 := comes_1 fun _ _ _ _ _ _ h hF => ⟨h.1, hF⟩
theorem main_1_2 : Claimed_1_2 := comes_1 fun _ _ _ _ _ _ h hF => ⟨h.2.1, hF⟩
end Jvm.Pilot.@@N@@
namespace Jvm.Pilot.@@N@@
open Jvm Jvm.ClassFile Sem Op Lib Jvm.Free Jvm.Stand Jvm.Pilot.@@N@@.Jvm.D
/-! MADE BY PROGRAM (witnessworld.py) out of the Statement's table words and the real class files: 11 classes; the members and pool entries that the words name. The judged class is class 1, her method 1. -/
namespace start1
open Jvm.ClassFile
def u (s : String) : CpInfo := .utf8 (stringToUtf16 s)
/-- a pool by its gaps: so many unusable entries, then the entry; so many at the end -/
def gap : Nat → List CpInfo → List CpInfo
  | 0, r => r
  | n + 1, r => .unusable :: gap n r
def poolList (es : List (Nat × CpInfo)) (last : Nat) : List CpInfo := es.foldr (fun e r => gap e.1 (e.2 :: r)) (gap last [])
def pool (es : List (Nat × CpInfo)) (last : Nat) : Array CpInfo := ⟨poolList es last⟩
def fileOf (pool : Array CpInfo) (this : Nat) (attrs : Array Attribute := #[]) (ms : Array MethodInfo := #[]) (fl : Nat := 33) (sup : Nat := 0) (ifs : Array Nat := #[]) (fds : Array FieldInfo := #[]) : ClassFile where
  minorVersion := 0
  majorVersion := 65
  constantPool := pool
  accessFlags := fl
  thisClass := this
  superClass := sup
  interfaces := ifs
  fields := fds
  methods := ms
  attributes := attrs
def plain (name : String) (sup : Option ClassId) : Class where
  name := name
  kind := .ordinary
  loader := none
  accessFlags := 33
  super := sup
  interfaces := #[]
  cf := none
  fields := #[]
  methods := #[]
  instanceTypes := #[]
  staticTypes := #[]
  resolved := #[]
  callSites := []
  init := .initialized
  statics := none
  mirror := none

def pool0 : Array CpInfo := pool [(5, u "<init>"), (0, u "()V"), (1, .class_ 10), (1, u "java/lang/Object")] 113

def k0m0 : Method := { name := "<init>", desc := "()V", sig := { parameters := [], returnType := none }, accessFlags := 1, code := none }
/-- java/lang/Object -/
def k0 : Class := { plain "java/lang/Object" none with
  accessFlags := 33
  interfaces := #[]
  cf := some (fileOf pool0 8 #[] #[{ accessFlags := 1, nameIndex := 5, descriptorIndex := 6, attributes := #[] }] 33 0 #[] #[])
  fields := #[]
  methods := #[k0m0]
  instanceTypes := #[]
  staticTypes := #[]
  resolved := Array.replicate 124 none
  statics := none }

def pool1 : Array CpInfo := pool [(2, .class_ 4), (1, u "java/lang/Object"), (0, u "<init>"), (0, u "()V"), (0, .methodref 8 9), (0, .class_ 10), (0, .nameAndType 11 12), (0, u "org/graftloom/lua/NumericForNode"), (0, u "floatsGoOn"), (0, u "(DDD)Z"), (0, .class_ 14), (0, u "org/graftloom/lua/NumericForNodeFloatsGoOnPinLaw"), (2, u "law"), (0, u "(III)Z")] 3

def k1m0 : Method := { name := "<init>", desc := "()V", sig := { parameters := [], returnType := none }, accessFlags := 1, code := none }
def k1c1 : Code := { maxStack := 6, maxLocals := 12, code := code, exceptionTable := #[], attributes := #[] }
def k1m1 : Method := { name := "law", desc := "(III)Z", sig := { parameters := [.int, .int, .int], returnType := some .boolean }, accessFlags := 9, code := some k1c1 }
/-- org/graftloom/lua/NumericForNodeFloatsGoOnPinLaw -/
def k1 : Class := { plain "org/graftloom/lua/NumericForNodeFloatsGoOnPinLaw" (some 0) with
  accessFlags := 49
  interfaces := #[]
  cf := some (fileOf pool1 13 #[] #[{ accessFlags := 1, nameIndex := 5, descriptorIndex := 6, attributes := #[] }, { accessFlags := 9, nameIndex := 17, descriptorIndex := 18, attributes := #[] }] 49 2 #[] #[])
  fields := #[]
  methods := #[k1m0, k1m1]
  instanceTypes := #[]
  staticTypes := #[]
  resolved := Array.replicate 22 none
  statics := none }

def pool2 : Array CpInfo := pool [(2, .class_ 4), (1, u "java/lang/Object"), (3, .class_ 10), (1, u "org/graftloom/framework/Node"), (0, u "sourceSection"), (0, u "Lorg/graftloom/framework/SourceSection;"), (0, u "probe"), (0, u "Lorg/graftloom/framework/Probe;")] 14

/-- org/graftloom/framework/Node -/
def k2 : Class := { plain "org/graftloom/framework/Node" (some 0) with
  accessFlags := 1057
  interfaces := #[]
  cf := some (fileOf pool2 8 #[] #[] 1057 2 #[] #[{ accessFlags := 18, nameIndex := 11, descriptorIndex := 12, attributes := #[] }, { accessFlags := 0, nameIndex := 13, descriptorIndex := 14, attributes := #[] }])
  fields := #[{ name := "sourceSection", type := (.object "org/graftloom/framework/SourceSection"), accessFlags := 18, slot := 0, constantValue := 0 }, { name := "probe", type := (.object "org/graftloom/framework/Probe"), accessFlags := 0, slot := 1, constantValue := 0 }]
  methods := #[]
  instanceTypes := #[(.object "org/graftloom/framework/SourceSection"), (.object "org/graftloom/framework/Probe")]
  staticTypes := #[]
  resolved := Array.replicate 29 none
  statics := none }

def pool3 : Array CpInfo := pool [(2, .class_ 4), (1, u "org/graftloom/framework/Node"), (13, .class_ 19), (0, u "org/graftloom/lua/StatementNode"), (0, u "scope"), (0, u "Lorg/graftloom/lua/Scope;")] 11

/-- org/graftloom/lua/StatementNode -/
def k3 : Class := { plain "org/graftloom/lua/StatementNode" (some 2) with
  accessFlags := 1056
  interfaces := #[]
  cf := some (fileOf pool3 18 #[] #[] 1056 2 #[] #[{ accessFlags := 0, nameIndex := 20, descriptorIndex := 21, attributes := #[] }])
  fields := #[{ name := "scope", type := (.object "org/graftloom/lua/Scope"), accessFlags := 0, slot := 2, constantValue := 0 }]
  methods := #[]
  instanceTypes := #[(.object "org/graftloom/framework/SourceSection"), (.object "org/graftloom/framework/Probe"), (.object "org/graftloom/lua/Scope")]
  staticTypes := #[]
  resolved := Array.replicate 33 none
  statics := none }

def pool4 : Array CpInfo := pool [(2, .class_ 4), (1, u "org/graftloom/lua/StatementNode"), (3, .class_ 10), (1, u "org/graftloom/lua/NumericForNode"), (0, u "variable"), (0, u "Lorg/graftloom/lua/LocalVariable;"), (2, u "start"), (0, u "Lorg/graftloom/lua/ExpressionNode;"), (2, u "limit"), (2, u "step"), (2, u "body"), (0, u "Lorg/graftloom/lua/BlockNode;"), (112, u "(DDD)Z"), (6, u "floatsGoOn"), (17, u "STEP_IS_ZERO"), (0, u "Ljava/lang/String;"), (1, u "LIMIT"), (0, u "STEP"), (0, u "INITIAL_VALUE")] 30

def k4c0 : Code := { maxStack := 4, maxLocals := 6, code := prog_153_method_15_code, exceptionTable := #[], attributes := #[] }
def k4m0 : Method := { name := "floatsGoOn", desc := "(DDD)Z", sig := { parameters := [.double, .double, .double], returnType := some .boolean }, accessFlags := 8, code := some k4c0 }
/-- org/graftloom/lua/NumericForNode -/
def k4 : Class := { plain "org/graftloom/lua/NumericForNode" (some 3) with
  accessFlags := 48
  interfaces := #[]
  cf := some (fileOf pool4 8 #[] #[{ accessFlags := 8, nameIndex := 146, descriptorIndex := 139, attributes := #[] }] 48 2 #[] #[{ accessFlags := 26, nameIndex := 164, descriptorIndex := 165, attributes := #[] }, { accessFlags := 24, nameIndex := 167, descriptorIndex := 165, attributes := #[] }, { accessFlags := 24, nameIndex := 168, descriptorIndex := 165, attributes := #[] }, { accessFlags := 24, nameIndex := 169, descriptorIndex := 165, attributes := #[] }, { accessFlags := 18, nameIndex := 11, descriptorIndex := 12, attributes := #[] }, { accessFlags := 2, nameIndex := 15, descriptorIndex := 16, attributes := #[] }, { accessFlags := 2, nameIndex := 19, descriptorIndex := 16, attributes := #[] }, { accessFlags := 2, nameIndex := 22, descriptorIndex := 16, attributes := #[] }, { accessFlags := 2, nameIndex := 25, descriptorIndex := 26, attributes := #[] }])
  fields := #[{ name := "STEP_IS_ZERO", type := (.object "java/lang/String"), accessFlags := 26, slot := 0, constantValue := 0 }, { name := "LIMIT", type := (.object "java/lang/String"), accessFlags := 24, slot := 1, constantValue := 0 }, { name := "STEP", type := (.object "java/lang/String"), accessFlags := 24, slot := 2, constantValue := 0 }, { name := "INITIAL_VALUE", type := (.object "java/lang/String"), accessFlags := 24, slot := 3, constantValue := 0 }, { name := "variable", type := (.object "org/graftloom/lua/LocalVariable"), accessFlags := 18, slot := 3, constantValue := 0 }, { name := "start", type := (.object "org/graftloom/lua/ExpressionNode"), accessFlags := 2, slot := 4, constantValue := 0 }, { name := "limit", type := (.object "org/graftloom/lua/ExpressionNode"), accessFlags := 2, slot := 5, constantValue := 0 }, { name := "step", type := (.object "org/graftloom/lua/ExpressionNode"), accessFlags := 2, slot := 6, constantValue := 0 }, { name := "body", type := (.object "org/graftloom/lua/BlockNode"), accessFlags := 2, slot := 7, constantValue := 0 }]
  methods := #[k4m0]
  instanceTypes := #[(.object "org/graftloom/framework/SourceSection"), (.object "org/graftloom/framework/Probe"), (.object "org/graftloom/lua/Scope"), (.object "org/graftloom/lua/LocalVariable"), (.object "org/graftloom/lua/ExpressionNode"), (.object "org/graftloom/lua/ExpressionNode"), (.object "org/graftloom/lua/ExpressionNode"), (.object "org/graftloom/lua/BlockNode")]
  staticTypes := #[(.object "java/lang/String"), (.object "java/lang/String"), (.object "java/lang/String"), (.object "java/lang/String")]
  resolved := Array.replicate 200 none
  statics := none }

def pool5 : Array CpInfo := pool [(1, u "java/lang/Cloneable"), (0, .class_ 1), (0, u "java/lang/Object"), (0, .class_ 3)] 3

/-- java/lang/Cloneable -/
def k5 : Class := { plain "java/lang/Cloneable" (some 0) with
  accessFlags := 1537
  interfaces := #[]
  cf := some (fileOf pool5 2 #[] #[] 1537 4 #[] #[])
  fields := #[]
  methods := #[]
  instanceTypes := #[]
  staticTypes := #[]
  resolved := Array.replicate 8 none
  statics := none }

def pool6 : Array CpInfo := pool [(1, u "java/io/Serializable"), (0, .class_ 1), (0, u "java/lang/Object"), (0, .class_ 3)] 3

/-- java/io/Serializable -/
def k6 : Class := { plain "java/io/Serializable" (some 0) with
  accessFlags := 1537
  interfaces := #[]
  cf := some (fileOf pool6 2 #[] #[] 1537 4 #[] #[])
  fields := #[]
  methods := #[]
  instanceTypes := #[]
  staticTypes := #[]
  resolved := Array.replicate 8 none
  statics := none }

/-- the primitive byte -/
def k7 : Class := { plain "byte" none with kind := .primitive 'B', accessFlags := 0x411 }
/-- [B -/
def k8 : Class := { plain "[B" (some 0) with kind := .array 7 .byte, interfaces := #[5, 6], accessFlags := 1041 }

/-- the primitive int -/
def k9 : Class := { plain "int" none with kind := .primitive 'I', accessFlags := 0x411 }
/-- [I -/
def k10 : Class := { plain "[I" (some 0) with kind := .array 9 .int, interfaces := #[5, 6], accessFlags := 1041 }

def heap : Heap := #[]
def classes : Array Class := #[k0, k1, k2, k3, k4, k5, k6, k7, k8, k9, k10]
def interned : List (Array UInt16 × Addr) := []
def slotsUsed : Nat := 0
def theMethod : MethodId := ⟨1, 1⟩
def args0 : Array Value := #[.int 5, .int 6, .int 1]
def aboutOver (below : List Frame) : State where
  vm := { classes := classes, interned := interned.toArray }
  heap := heap
  slotsUsed := slotsUsed
  threads := #[{ frames := .invoking theMethod args0 :: below }]
def below0 : List Frame := [.native { method := ⟨0, 0⟩, args := #[] }]
def about1 : State := aboutOver below0
def p0 : Program := .bare "" "" ""
def e0 : Env := launch0.env 0 0 0
theorem w_frames : about1.frames = Frame.invoking theMethod args0 :: below0 := rfl
set_option maxRecDepth 65536 in
theorem w_args : argsFit about1.vm theMethod args0 = true := by decide +kernel
set_option maxRecDepth 65536 in
theorem w_heap : heapFits about1 = true := by decide +kernel
set_option maxRecDepth 65536 in
theorem w_runnable : about1.curStatus? = some .runnable := by decide +kernel
set_option maxRecDepth 65536 in
theorem w_alone : about1.alone = true := by decide +kernel
set_option maxRecDepth 65536 in
theorem w_named : about1.methodNamed? x = some theMethod := by decide +kernel
set_option maxRecDepth 65536 in
theorem w_hears : about1.hears theMethod below0 = true := by decide +kernel
set_option maxRecDepth 65536 in
theorem w_ripe : about1.ripe theMethod args0 below0 = true := by decide +kernel
theorem w_running : about1.status = .running := rfl
set_option maxRecDepth 65536 in
theorem w_room : about1.hasRoom e0.platform room_1 = true :=
  launch0.hasRoom_least _ room_1 (by decide +kernel) (by decide +kernel) (by decide +kernel) (by decide +kernel) (by decide +kernel) (by decide +kernel)
theorem allAtoms_all (ts : List Jvm.Cond) (a : Array Jvm.Value) (st : Jvm.State) : (allAtoms ts).before a st = ts.all (fun c => c.before a st) := by
  induction ts with
  | nil => rfl
  | cons c t ih =>
    show (Jvm.Cond.and c (allAtoms t)).before a st = _
    rw [Jvm.Cond.before_and, ih, List.all_cons]
def words1 : List Jvm.Cond := Jvm.Cond.code x code maxLocals ret :: tables_1
/-- a 'code' word, met by the world's own term for the bytes: nothing is compared byte by byte -/
theorem code_word {y : MethodName} {bytes : ByteArray} {mx : Nat} {rt : Option FieldType} {a : Array Value} {s : State} {m : MethodId} {meth : Method} {c : Code} (h1 : s.methodNamed? y = some m) (h2 : s.vm.method? m = some meth) (h3 : meth.code = some c) (h4 : c.code = bytes)
    (h5 : (c.maxLocals == mx && c.exceptionTable.isEmpty && decide (c.maxStack ≤ mostOperands) && decide (meth.sig.returnType = rt) && !meth.locks && decide (parseMethodDescriptor y.desc = some meth.sig)) = true) : (Jvm.Cond.code y bytes mx rt).before a s = true := by
  simp only [Bool.and_eq_true, beq_iff_eq, Bool.not_eq_true', decide_eq_true_eq] at h5
  obtain ⟨⟨⟨⟨⟨g1, g2⟩, g3⟩, g4⟩, g5⟩, g6⟩ := h5
  simp [Cond.before, Cond.holds, Cond.value, h1, h2, h3, h4, g1, g2, g3, g4, g5, g6]
def isCode : Jvm.Cond → Bool
  | .code _ _ _ _ => true
  | _ => false
theorem all_split {L : List Jvm.Cond} {P : Jvm.Cond → Bool} (h1 : L.all (fun c => isCode c || P c) = true) (h2 : ∀ c ∈ L.filter isCode, P c = true) : L.all P = true := by
  refine List.all_eq_true.mpr fun c hc => ?_
  have h := List.all_eq_true.mp h1 c hc
  rcases Bool.eq_false_or_eq_true (isCode c) with hi | hi
  · exact h2 c (List.mem_filter.mpr ⟨hc, hi⟩)
  · simpa [hi] using h
set_option maxRecDepth 65536 in
theorem w_c0 : (Jvm.Cond.code x code maxLocals ret).before args0 about1 = true := code_word (m := ⟨1, 1⟩) (meth := k1m1) (c := k1c1) (by decide +kernel) rfl rfl rfl (by decide +kernel)
set_option maxRecDepth 65536 in
theorem w_c1 : (Jvm.Cond.code ({ cls := "org/graftloom/lua/NumericForNode", name := "floatsGoOn", desc := "(DDD)Z" } : Jvm.MethodName) prog_153_method_15_code (6 : Nat) (Option.some Jvm.ClassFile.FieldType.boolean)).before args0 about1 = true := code_word (m := ⟨4, 0⟩) (meth := k4m0) (c := k4c0) (by decide +kernel) rfl rfl rfl (by decide +kernel)
def codes1 : List Jvm.Cond := [Jvm.Cond.code x code maxLocals ret, Jvm.Cond.code ({ cls := "org/graftloom/lua/NumericForNode", name := "floatsGoOn", desc := "(DDD)Z" } : Jvm.MethodName) prog_153_method_15_code (6 : Nat) (Option.some Jvm.ClassFile.FieldType.boolean)]
set_option maxRecDepth 65536 in
theorem codes_eq : words1.filter isCode = codes1 := rfl
theorem w_codes : ∀ c ∈ words1.filter isCode, c.before args0 about1 = true := by
  rw [codes_eq]
  intro c hc
  simp only [codes1, List.mem_cons, List.not_mem_nil, or_false] at hc
  rcases hc with rfl | rfl
  · exact w_c0
  · exact w_c1
set_option maxRecDepth 65536 in
theorem w_t1 : words1.all (fun c => isCode c || c.before args0 about1) = true := by decide +kernel
theorem w_tables : (allAtoms (Jvm.Cond.code x code maxLocals ret :: tables_1)).before args0 about1 = true := by
  rw [allAtoms_all]
  show words1.all (fun c => c.before args0 about1) = true
  refine all_split ?_ w_codes
  rw [w_t1]
set_option maxRecDepth 65536 in
theorem w_case : (Jvm.Cond.and given_1 narrow_1).before args0 about1 = true := by decide +kernel
theorem w_applies : (headSpec (Jvm.Cond.code x code maxLocals ret :: tables_1) room_1).applies x e0.platform about1 = true :=
  (Spec.applies_iff w_frames).mpr ⟨w_running, w_runnable, w_alone, w_named, w_hears, w_ripe, w_room, w_tables⟩
theorem atStart : AtStart classFile x code maxLocals ret World_1 tables_1 room_1 Calls_1 rest_1 Pre_1 launch0 p0 e0 about1 theMethod args0 below0 :=
  ⟨lists_1, trivial, launch0.admits_env _ _ _, launch0.least_env, fairChoices_fair.cas, fairChoices_fair.clock, w_frames, w_args, w_heap, w_applies, trivial, trivial, w_case⟩
end start1
theorem witness_1 : WitnessClaimed_1 := ⟨start1.p0, start1.e0, start1.about1, start1.theMethod, start1.args0, start1.below0, start1.atStart⟩
end Jvm.Pilot.@@N@@
