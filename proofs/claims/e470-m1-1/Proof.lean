import JvmDerived
import JvmDerived.Pilot.@@N@@Statement
import JvmDerived.Pilot.@@N@@Code
set_option linter.unusedVariables false
set_option linter.unusedSimpArgs false
namespace Jvm.RoadKit
open Sem ClassFile Op Lib Jvm.Stand Jvm.Free Jvm.LawKit
section New
variable {p : Program} {l : Launch} {e : Env} {R : Room} {s : State} {m : MethodId} {args : Array Value} {below : List Frame} {meth : Method} {c : Code} {T : State} {locs : List Loc} {cells slots : Nat}
theorem retI (X : Stand p l e R s m args below meth c T locs cells slots) (hx : p.tables.exec = Jvm.exec) {pc : Nat} {Ls : Array Slot} {z : Int32} {rest : List Value} (hret : meth.sig.returnType = some .int) (hd : decode c.code pc = .ok (.ireturn, 1)) {fs : List Frame}
    (hl : ∀ (f : JFrame) (acts : List Action), f.method = m → f.locked = none → f.entered = [] → (doReturn e (T.setTop f) acts (some (.int z))).1 = T.setFrames fs) : Steps p.tables e below (T.setTop (mkF m pc Ls (.int z :: rest))) (T.setFrames fs) := by
  have hm' : T.vm.method? m = some meth := X.method'
  have hn : narrow .int (.int z) = .int z := rfl
  show Steps p.tables e below (T.setTop { method := m, pc := pc, locals := Ls, stack := _ :: rest, locked := none }) _
  jvm_step X.here [X.here.top, hx, hd, hm', hret, hn]
  first | (intro acts; rw [hl _ acts rfl rfl rfl]) | rw [hl _ _ rfl rfl rfl]
  exact Steps.refl _
theorem retL (X : Stand p l e R s m args below meth c T locs cells slots) (hx : p.tables.exec = Jvm.exec) {pc : Nat} {Ls : Array Slot} {z : Int64} {rest : List Value} (hret : meth.sig.returnType = some .long) (hd : decode c.code pc = .ok (.lreturn, 1)) {fs : List Frame}
    (hl : ∀ (f : JFrame) (acts : List Action), f.method = m → f.locked = none → f.entered = [] → (doReturn e (T.setTop f) acts (some (.long z))).1 = T.setFrames fs) : Steps p.tables e below (T.setTop (mkF m pc Ls (.long z :: rest))) (T.setFrames fs) := by
  have hm' : T.vm.method? m = some meth := X.method'
  have hn : narrow .long (.long z) = .long z := rfl
  show Steps p.tables e below (T.setTop { method := m, pc := pc, locals := Ls, stack := _ :: rest, locked := none }) _
  jvm_step X.here [X.here.top, hx, hd, hm', hret, hn]
  first | (intro acts; rw [hl _ acts rfl rfl rfl]) | rw [hl _ _ rfl rfl rfl]
  exact Steps.refl _
end New
end Jvm.RoadKit
namespace Jvm.Pilot.@@N@@
open Jvm Jvm.ClassFile Sem Op Lib Jvm.Free Jvm.Stand Jvm.LawKit Jvm.RoadKit Bundle Jvm.Pilot.@@N@@.Jvm.D
def own_Q (x : Value) (h0 : Heap) (n0 : Nat) (v : Option Value) (h : Heap) (L : List Loc) : Prop := v = some x ∧ Fr n0 L ∧ h = h0
def own_rem (x y : Int32) : Int32 := x - (x / y) * y
theorem own_rng (x : Int32) : -2147483648 ≤ x.toInt ∧ x.toInt < 2147483648 := ⟨Int32.le_toInt x, Int32.toInt_lt x⟩
theorem own_div_toInt (x y : Int32) (hx : 0 ≤ x.toInt) (hy : 0 < y.toInt) : (x / y).toInt = x.toInt / y.toInt := by
  have := own_rng x
  have := own_rng y
  have h1 : 0 ≤ x.toInt / y.toInt := Int.ediv_nonneg hx (Int.le_of_lt hy)
  have h2 : x.toInt / y.toInt ≤ x.toInt := Int.ediv_le_self _ hx
  rw [Int32.toInt_div, Int.tdiv_eq_ediv_of_nonneg hx]
  exact Int.bmod_eq_of_le (by omega) (by omega)
theorem own_rem_toInt (x y : Int32) (hx : 0 ≤ x.toInt) (hy : 0 < y.toInt) : (own_rem x y).toInt = x.toInt % y.toInt := by
  have hxr := own_rng x
  have hyr := own_rng y
  have h1 : 0 ≤ x.toInt / y.toInt := Int.ediv_nonneg hx (Int.le_of_lt hy)
  have h3 : x.toInt / y.toInt * y.toInt ≤ x.toInt := Int.ediv_mul_le _ (by omega)
  have h4 : 0 ≤ x.toInt / y.toInt * y.toInt := Int.mul_nonneg h1 (by omega)
  have e : (x / y * y).toInt = x.toInt / y.toInt * y.toInt := by
    rw [Int32.toInt_mul, own_div_toInt x y hx hy]
    exact Int.bmod_eq_of_le (by omega) (by omega)
  have e2 : x.toInt % y.toInt = x.toInt - x.toInt / y.toInt * y.toInt := by
    rw [Int.emod_def, Int.mul_comm]
  unfold own_rem
  rw [Int32.toInt_sub, e, e2]
  exact Int.bmod_eq_of_le (by omega) (by omega)
theorem own_and_toNat (x : Int32) (k : Nat) (hk : k < 32) (m : Int32) (hm : m.toBitVec.toNat = 2 ^ k - 1) : (x &&& m).toInt = ((x.toBitVec.toNat % 2 ^ k : Nat) : Int) := by
  have e : (x &&& m).toBitVec.toNat = x.toBitVec.toNat % 2 ^ k := by
    rw [Int32.toBitVec_and, BitVec.toNat_and, hm, Nat.and_two_pow_sub_one_eq_mod]
  have hlt : x.toBitVec.toNat % 2 ^ k < 2 ^ k := Nat.mod_lt _ (Nat.two_pow_pos k)
  have hle : 2 ^ k ≤ 2 ^ 31 := Nat.pow_le_pow_right (by decide) (by omega)
  show (x &&& m).toBitVec.toInt = _
  rw [BitVec.toInt_eq_toNat_of_lt (by rw [e]; omega), e]
theorem own_and_rng (x : Int32) (k : Nat) (hk : k < 32) (m : Int32) (hm : m.toBitVec.toNat = 2 ^ k - 1) : 0 ≤ (x &&& m).toInt ∧ (x &&& m).toInt < 2 ^ k := by
  rw [own_and_toNat x k hk m hm]
  have hlt : x.toBitVec.toNat % 2 ^ k < 2 ^ k := Nat.mod_lt _ (Nat.two_pow_pos k)
  have : ((2 ^ k : Nat) : Int) = 2 ^ k := by simp
  omega
def own_ge (c b : Int32) : Int32 := if c < b then 0 else 1
theorem d1_0 : decode method_3_code 0 = .ok (.iload_n 0, 1) := by decide +kernel
theorem d1_1 : decode method_3_code 1 = .ok (.iload_n 1, 1) := by decide +kernel
theorem d1_2 : decode method_3_code 2 = .ok (.if_icmp .lt 7, 3) := by decide +kernel
theorem d1_9 : decode method_3_code 9 = .ok (.iconst 0, 1) := by decide +kernel
theorem d1_10 : decode method_3_code 10 = .ok (.ireturn, 1) := by decide +kernel
theorem pn_1 : plainName "com/example/coarsen/coarsen/xml/XmlNamesIsNameStartCharPinLaw" = true := by first | (simp [plainName, overriddenIn]; done) | decide +kernel
theorem ef_1 (m : MethodId) (x0 : Int32) (x1 : Int32) : entryFrame m #[(.int x0), (.int x1)] 2 = mkF m 0 #[.val (.int x0), .val (.int x1)] [] := by first | (simp [entryFrame, mkF, argsToLocals, Value.category]; done) | rfl
def Q1_t (Z : State) (p1 : Int32) (p2 : Int32) (h0 : Heap) (n0 : Nat) (v : Option Value) (h : Heap) (L : List Loc) : Prop := v = some (.int (0 : Int32)) ∧ Fr n0 L ∧ h = h0
set_option maxRecDepth 65536 in
set_option maxHeartbeats 40000000 in
theorem rm1_t (l : Launch) (Z : State) (a0 : Array Value) (hw : ∀ d ∈ tables_1, d.before a0 Z = true) (ws : List Jvm.Cond) (p1 : Int32) (p2 : Int32) (h0 : Heap) (n0 : Nat) (Z0 : n0 ≤ h0.size) (hc2 : p1 < p2) :
    MetFree l (⟨"com/example/coarsen/coarsen/xml/XmlNamesIsNameStartCharPinLaw", "ge", "(II)I"⟩ : MethodName) (head1 (Jvm.Cond.code (⟨"com/example/coarsen/coarsen/xml/XmlNamesIsNameStartCharPinLaw", "ge", "(II)I"⟩ : MethodName) method_3_code 2 (some .int) :: ws) ({ frames := 0, cells := 0, slots := 0, locals := 0 } : Room)) (fun a U => a = #[(.int p1), (.int p2)] ∧ Z.Warmed39 U.vm ∧ U.heap = h0) (fun _ _ _ _ _ => True) (fun _ U o U' => ∃ v L, o = .returned v ∧ Q1_t Z p1 p2 h0 n0 v U'.heap L ∧ FrameEnd U o U' L ({ frames := 0, cells := 0, slots := 0, locals := 0 } : Room).cells ({ frames := 0, cells := 0, slots := 0, locals := 0 } : Room).slots) := by
  refine MetFree.of_bodySF (plainFor_of_name pn_1) hisR ?_
  intro p e s m args below meth c s₁ Bd hml0 hP hK
  obtain ⟨rfl, hZ, hh⟩ := hP
  have hx := Bd.exec
  have hby := Bd.bytes
  have hml : c.maxLocals = 2 := hml0
  have hown : s.vm.findClass "com/example/coarsen/coarsen/xml/XmlNamesIsNameStartCharPinLaw" = some m.cls := findClass_of_methodNamed Bd.named
  have hnm := (name_of_methodNamed Bd.named Bd.method).1
  have X0 : Stand p l e ({ frames := 0, cells := 0, slots := 0, locals := 0 } : Room) s m #[(.int p1), (.int p2)] below meth c s₁ [] 0 0 := Stand.of_body Bd
  have e0 : s₁.heap = h0 := by rw [← hh, Bd.state]; rfl
  have N0 := Fr.nil n0
  have pre0 : ∀ t, Steps p.tables e below (s₁.setTop (mkF m 0 #[.val (.int p1), .val (.int p2)] [])) t → Steps p.tables e below (s₁.setTop (entryFrame m #[(.int p1), (.int p2)] 2)) t := fun t k => castTop (ef_1 m p1 p2) k

  obtain ⟨fs, hr, hrun, hended, hW, hsame⟩ := X0.leave (v := some (.int (0 : Int32))) (fun h => by rw [Bd.returns] at h; cases h)
  refine ⟨_, _, pre0 _ ?_, hrun, hended, _, _, rfl, ?_, ⟨_, rfl⟩, hW, hsame.mono (by decide) (by decide)⟩
  · show Steps p.tables e below (s₁.setTop (mkF m 0 #[.val (.int p1), .val (.int p2)] [])) _
    refine XS.iloadN X0.here hx rfl (hb hby d1_0) rfl ?_
    show Steps p.tables e below (s₁.setTop (mkF m 1 #[.val (.int p1), .val (.int p2)] [(.int p1)])) _
    refine XS.iloadN X0.here hx rfl (hb hby d1_1) rfl ?_
    show Steps p.tables e below (s₁.setTop (mkF m 2 #[.val (.int p1), .val (.int p2)] [(.int p2), (.int p1)])) _
    refine XS.icmpYes X0.here hx rfl (pc0 := 2) (pc' := 9) rfl (hb hby d1_2) rfl (tlt hc2).1 (by decide) (by decide) ?_
    show Steps p.tables e below (s₁.setTop (mkF m 9 #[.val (.int p1), .val (.int p2)] [])) _
    refine XS.iconst X0.here hx rfl (hb hby d1_9) ?_
    show Steps p.tables e below (s₁.setTop (mkF m 10 #[.val (.int p1), .val (.int p2)] [(.int (0 : Int32))])) _
    exact retI X0 hx Bd.returns (hb hby d1_10) hr      -- retI stands in the head ('lawwalk <made dir>' prints it)
  · show Q1_t Z p1 p2 h0 n0 _ s₁.heap _
    rw [e0]
    exact ⟨rfl, N0, rfl⟩
theorem d1_5 : decode method_3_code 5 = .ok (.iconst 1, 1) := by decide +kernel
theorem d1_6 : decode method_3_code 6 = .ok (.goto 4, 3) := by decide +kernel
def Q1_f (Z : State) (p1 : Int32) (p2 : Int32) (h0 : Heap) (n0 : Nat) (v : Option Value) (h : Heap) (L : List Loc) : Prop := v = some (.int (1 : Int32)) ∧ Fr n0 L ∧ h = h0
set_option maxRecDepth 65536 in
set_option maxHeartbeats 40000000 in
theorem rm1_f (l : Launch) (Z : State) (a0 : Array Value) (hw : ∀ d ∈ tables_1, d.before a0 Z = true) (ws : List Jvm.Cond) (p1 : Int32) (p2 : Int32) (h0 : Heap) (n0 : Nat) (Z0 : n0 ≤ h0.size) (hc2 : ¬ (p1 < p2)) :
    MetFree l (⟨"com/example/coarsen/coarsen/xml/XmlNamesIsNameStartCharPinLaw", "ge", "(II)I"⟩ : MethodName) (head1 (Jvm.Cond.code (⟨"com/example/coarsen/coarsen/xml/XmlNamesIsNameStartCharPinLaw", "ge", "(II)I"⟩ : MethodName) method_3_code 2 (some .int) :: ws) ({ frames := 0, cells := 0, slots := 0, locals := 0 } : Room)) (fun a U => a = #[(.int p1), (.int p2)] ∧ Z.Warmed39 U.vm ∧ U.heap = h0) (fun _ _ _ _ _ => True) (fun _ U o U' => ∃ v L, o = .returned v ∧ Q1_f Z p1 p2 h0 n0 v U'.heap L ∧ FrameEnd U o U' L ({ frames := 0, cells := 0, slots := 0, locals := 0 } : Room).cells ({ frames := 0, cells := 0, slots := 0, locals := 0 } : Room).slots) := by
  refine MetFree.of_bodySF (plainFor_of_name pn_1) hisR ?_
  intro p e s m args below meth c s₁ Bd hml0 hP hK
  obtain ⟨rfl, hZ, hh⟩ := hP
  have hx := Bd.exec
  have hby := Bd.bytes
  have hml : c.maxLocals = 2 := hml0
  have hown : s.vm.findClass "com/example/coarsen/coarsen/xml/XmlNamesIsNameStartCharPinLaw" = some m.cls := findClass_of_methodNamed Bd.named
  have hnm := (name_of_methodNamed Bd.named Bd.method).1
  have X0 : Stand p l e ({ frames := 0, cells := 0, slots := 0, locals := 0 } : Room) s m #[(.int p1), (.int p2)] below meth c s₁ [] 0 0 := Stand.of_body Bd
  have e0 : s₁.heap = h0 := by rw [← hh, Bd.state]; rfl
  have N0 := Fr.nil n0
  have pre0 : ∀ t, Steps p.tables e below (s₁.setTop (mkF m 0 #[.val (.int p1), .val (.int p2)] [])) t → Steps p.tables e below (s₁.setTop (entryFrame m #[(.int p1), (.int p2)] 2)) t := fun t k => castTop (ef_1 m p1 p2) k

  obtain ⟨fs, hr, hrun, hended, hW, hsame⟩ := X0.leave (v := some (.int (1 : Int32))) (fun h => by rw [Bd.returns] at h; cases h)
  refine ⟨_, _, pre0 _ ?_, hrun, hended, _, _, rfl, ?_, ⟨_, rfl⟩, hW, hsame.mono (by decide) (by decide)⟩
  · show Steps p.tables e below (s₁.setTop (mkF m 0 #[.val (.int p1), .val (.int p2)] [])) _
    refine XS.iloadN X0.here hx rfl (hb hby d1_0) rfl ?_
    show Steps p.tables e below (s₁.setTop (mkF m 1 #[.val (.int p1), .val (.int p2)] [(.int p1)])) _
    refine XS.iloadN X0.here hx rfl (hb hby d1_1) rfl ?_
    show Steps p.tables e below (s₁.setTop (mkF m 2 #[.val (.int p1), .val (.int p2)] [(.int p2), (.int p1)])) _
    refine XS.icmpNo X0.here hx rfl (hb hby d1_2) rfl (flt hc2).1 ?_
    show Steps p.tables e below (s₁.setTop (mkF m 5 #[.val (.int p1), .val (.int p2)] [])) _
    refine XS.iconst X0.here hx rfl (hb hby d1_5) ?_
    show Steps p.tables e below (s₁.setTop (mkF m 6 #[.val (.int p1), .val (.int p2)] [(.int (1 : Int32))])) _
    refine XS.goto X0.here hx rfl (pc0 := 6) (pc' := 10) rfl (hb hby d1_6) (by decide) (by decide) ?_
    show Steps p.tables e below (s₁.setTop (mkF m 10 #[.val (.int p1), .val (.int p2)] [(.int (1 : Int32))])) _
    exact retI X0 hx Bd.returns (hb hby d1_10) hr      -- retI stands in the head ('lawwalk <made dir>' prints it)
  · show Q1_f Z p1 p2 h0 n0 _ s₁.heap _
    rw [e0]
    exact ⟨rfl, N0, rfl⟩
theorem rm1 (l : Launch) (Z : State) (a0 : Array Value) (hw : ∀ d ∈ tables_1, d.before a0 Z = true) (ws : List Jvm.Cond) (p1 p2 : Int32) (h0 : Heap) (n0 : Nat) (Z0 : n0 ≤ h0.size) :
    MetFree l (⟨"com/example/coarsen/coarsen/xml/XmlNamesIsNameStartCharPinLaw", "ge", "(II)I"⟩ : MethodName) (head1 (Jvm.Cond.code (⟨"com/example/coarsen/coarsen/xml/XmlNamesIsNameStartCharPinLaw", "ge", "(II)I"⟩ : MethodName) method_3_code 2 (some .int) :: ws) ({ frames := 0, cells := 0, slots := 0, locals := 0 } : Room)) (fun a U => a = #[(.int p1), (.int p2)] ∧ Z.Warmed39 U.vm ∧ U.heap = h0) (fun _ _ _ _ _ => True) (fun _ U o U' => ∃ v L, o = .returned v ∧ own_Q (.int (own_ge p1 p2)) h0 n0 v U'.heap L ∧ FrameEnd U o U' L ({ frames := 0, cells := 0, slots := 0, locals := 0 } : Room).cells ({ frames := 0, cells := 0, slots := 0, locals := 0 } : Room).slots) := by
  by_cases hc2 : p1 < p2
  · rw [show own_ge p1 p2 = 0 from if_pos hc2]; exact rm1_t l Z a0 hw ws p1 p2 h0 n0 Z0 hc2
  · rw [show own_ge p1 p2 = 1 from if_neg hc2]; exact rm1_f l Z a0 hw ws p1 p2 h0 n0 Z0 hc2
theorem d2_0 : decode prog_211_method_3_code 0 = .ok (.iload_n 0, 1) := by decide +kernel
theorem d2_1 : decode prog_211_method_3_code 1 = .ok (.bipush 97, 2) := by decide +kernel
theorem d2_3 : decode prog_211_method_3_code 3 = .ok (.if_icmp .lt 9, 3) := by decide +kernel
theorem d2_6 : decode prog_211_method_3_code 6 = .ok (.iload_n 0, 1) := by decide +kernel
theorem d2_7 : decode prog_211_method_3_code 7 = .ok (.bipush 122, 2) := by decide +kernel
theorem d2_9 : decode prog_211_method_3_code 9 = .ok (.if_icmp .le 182, 3) := by decide +kernel
theorem d2_12 : decode prog_211_method_3_code 12 = .ok (.iload_n 0, 1) := by decide +kernel
theorem d2_13 : decode prog_211_method_3_code 13 = .ok (.bipush 65, 2) := by decide +kernel
theorem d2_15 : decode prog_211_method_3_code 15 = .ok (.if_icmp .lt 9, 3) := by decide +kernel
theorem d2_18 : decode prog_211_method_3_code 18 = .ok (.iload_n 0, 1) := by decide +kernel
theorem d2_19 : decode prog_211_method_3_code 19 = .ok (.bipush 90, 2) := by decide +kernel
theorem d2_21 : decode prog_211_method_3_code 21 = .ok (.if_icmp .le 170, 3) := by decide +kernel
theorem d2_24 : decode prog_211_method_3_code 24 = .ok (.iload_n 0, 1) := by decide +kernel
theorem d2_25 : decode prog_211_method_3_code 25 = .ok (.bipush 95, 2) := by decide +kernel
theorem d2_27 : decode prog_211_method_3_code 27 = .ok (.if_icmp .eq 164, 3) := by decide +kernel
theorem d2_30 : decode prog_211_method_3_code 30 = .ok (.iload_n 0, 1) := by decide +kernel
theorem d2_31 : decode prog_211_method_3_code 31 = .ok (.sipush 192, 3) := by decide +kernel
theorem d2_34 : decode prog_211_method_3_code 34 = .ok (.if_icmp .lt 10, 3) := by decide +kernel
theorem d2_37 : decode prog_211_method_3_code 37 = .ok (.iload_n 0, 1) := by decide +kernel
theorem d2_38 : decode prog_211_method_3_code 38 = .ok (.sipush 214, 3) := by decide +kernel
theorem d2_41 : decode prog_211_method_3_code 41 = .ok (.if_icmp .le 150, 3) := by decide +kernel
theorem d2_44 : decode prog_211_method_3_code 44 = .ok (.iload_n 0, 1) := by decide +kernel
theorem d2_45 : decode prog_211_method_3_code 45 = .ok (.sipush 216, 3) := by decide +kernel
theorem d2_48 : decode prog_211_method_3_code 48 = .ok (.if_icmp .lt 10, 3) := by decide +kernel
theorem d2_51 : decode prog_211_method_3_code 51 = .ok (.iload_n 0, 1) := by decide +kernel
theorem d2_52 : decode prog_211_method_3_code 52 = .ok (.sipush 246, 3) := by decide +kernel
theorem d2_55 : decode prog_211_method_3_code 55 = .ok (.if_icmp .le 136, 3) := by decide +kernel
theorem d2_58 : decode prog_211_method_3_code 58 = .ok (.iload_n 0, 1) := by decide +kernel
theorem d2_59 : decode prog_211_method_3_code 59 = .ok (.sipush 248, 3) := by decide +kernel
theorem d2_62 : decode prog_211_method_3_code 62 = .ok (.if_icmp .lt 10, 3) := by decide +kernel
theorem d2_65 : decode prog_211_method_3_code 65 = .ok (.iload_n 0, 1) := by decide +kernel
theorem d2_66 : decode prog_211_method_3_code 66 = .ok (.sipush 767, 3) := by decide +kernel
theorem d2_69 : decode prog_211_method_3_code 69 = .ok (.if_icmp .le 122, 3) := by decide +kernel
theorem d2_72 : decode prog_211_method_3_code 72 = .ok (.iload_n 0, 1) := by decide +kernel
theorem d2_73 : decode prog_211_method_3_code 73 = .ok (.sipush 880, 3) := by decide +kernel
theorem d2_76 : decode prog_211_method_3_code 76 = .ok (.if_icmp .lt 10, 3) := by decide +kernel
theorem d2_79 : decode prog_211_method_3_code 79 = .ok (.iload_n 0, 1) := by decide +kernel
theorem d2_80 : decode prog_211_method_3_code 80 = .ok (.sipush 893, 3) := by decide +kernel
theorem d2_83 : decode prog_211_method_3_code 83 = .ok (.if_icmp .le 108, 3) := by decide +kernel
theorem d2_86 : decode prog_211_method_3_code 86 = .ok (.iload_n 0, 1) := by decide +kernel
theorem d2_87 : decode prog_211_method_3_code 87 = .ok (.sipush 895, 3) := by decide +kernel
theorem d2_90 : decode prog_211_method_3_code 90 = .ok (.if_icmp .lt 10, 3) := by decide +kernel
theorem d2_93 : decode prog_211_method_3_code 93 = .ok (.iload_n 0, 1) := by decide +kernel
theorem d2_94 : decode prog_211_method_3_code 94 = .ok (.sipush 8191, 3) := by decide +kernel
theorem d2_97 : decode prog_211_method_3_code 97 = .ok (.if_icmp .le 94, 3) := by decide +kernel
theorem d2_100 : decode prog_211_method_3_code 100 = .ok (.iload_n 0, 1) := by decide +kernel
theorem d2_101 : decode prog_211_method_3_code 101 = .ok (.sipush 8204, 3) := by decide +kernel
theorem d2_104 : decode prog_211_method_3_code 104 = .ok (.if_icmp .eq 87, 3) := by decide +kernel
theorem d2_107 : decode prog_211_method_3_code 107 = .ok (.iload_n 0, 1) := by decide +kernel
theorem d2_108 : decode prog_211_method_3_code 108 = .ok (.sipush 8205, 3) := by decide +kernel
theorem d2_111 : decode prog_211_method_3_code 111 = .ok (.if_icmp .eq 80, 3) := by decide +kernel
theorem d2_114 : decode prog_211_method_3_code 114 = .ok (.iload_n 0, 1) := by decide +kernel
theorem d2_115 : decode prog_211_method_3_code 115 = .ok (.sipush 8304, 3) := by decide +kernel
theorem d2_118 : decode prog_211_method_3_code 118 = .ok (.if_icmp .lt 10, 3) := by decide +kernel
theorem d2_121 : decode prog_211_method_3_code 121 = .ok (.iload_n 0, 1) := by decide +kernel
theorem d2_122 : decode prog_211_method_3_code 122 = .ok (.sipush 8591, 3) := by decide +kernel
theorem d2_125 : decode prog_211_method_3_code 125 = .ok (.if_icmp .le 66, 3) := by decide +kernel
theorem d2_128 : decode prog_211_method_3_code 128 = .ok (.iload_n 0, 1) := by decide +kernel
theorem d2_129 : decode prog_211_method_3_code 129 = .ok (.sipush 11264, 3) := by decide +kernel
theorem d2_132 : decode prog_211_method_3_code 132 = .ok (.if_icmp .lt 10, 3) := by decide +kernel
theorem d2_135 : decode prog_211_method_3_code 135 = .ok (.iload_n 0, 1) := by decide +kernel
theorem d2_136 : decode prog_211_method_3_code 136 = .ok (.sipush 12271, 3) := by decide +kernel
theorem d2_139 : decode prog_211_method_3_code 139 = .ok (.if_icmp .le 52, 3) := by decide +kernel
theorem d2_142 : decode prog_211_method_3_code 142 = .ok (.iload_n 0, 1) := by decide +kernel
theorem d2_143 : decode prog_211_method_3_code 143 = .ok (.sipush 12289, 3) := by decide +kernel
theorem d2_146 : decode prog_211_method_3_code 146 = .ok (.if_icmp .lt 9, 3) := by decide +kernel
theorem d2_149 : decode prog_211_method_3_code 149 = .ok (.iload_n 0, 1) := by decide +kernel
theorem d2_150 : decode prog_211_method_3_code 150 = .ok (.ldc 35, 2) := by decide +kernel
theorem d2_152 : decode prog_211_method_3_code 152 = .ok (.if_icmp .le 39, 3) := by decide +kernel
theorem d2_155 : decode prog_211_method_3_code 155 = .ok (.iload_n 0, 1) := by decide +kernel
theorem d2_156 : decode prog_211_method_3_code 156 = .ok (.ldc 36, 2) := by decide +kernel
theorem d2_158 : decode prog_211_method_3_code 158 = .ok (.if_icmp .lt 9, 3) := by decide +kernel
theorem d2_161 : decode prog_211_method_3_code 161 = .ok (.iload_n 0, 1) := by decide +kernel
theorem d2_162 : decode prog_211_method_3_code 162 = .ok (.ldc 37, 2) := by decide +kernel
theorem d2_164 : decode prog_211_method_3_code 164 = .ok (.if_icmp .le 27, 3) := by decide +kernel
theorem d2_167 : decode prog_211_method_3_code 167 = .ok (.iload_n 0, 1) := by decide +kernel
theorem d2_168 : decode prog_211_method_3_code 168 = .ok (.ldc 38, 2) := by decide +kernel
theorem d2_170 : decode prog_211_method_3_code 170 = .ok (.if_icmp .lt 9, 3) := by decide +kernel
theorem d2_173 : decode prog_211_method_3_code 173 = .ok (.iload_n 0, 1) := by decide +kernel
theorem d2_174 : decode prog_211_method_3_code 174 = .ok (.ldc 39, 2) := by decide +kernel
theorem d2_176 : decode prog_211_method_3_code 176 = .ok (.if_icmp .le 15, 3) := by decide +kernel
theorem d2_179 : decode prog_211_method_3_code 179 = .ok (.iload_n 0, 1) := by decide +kernel
theorem d2_180 : decode prog_211_method_3_code 180 = .ok (.ldc 40, 2) := by decide +kernel
theorem d2_182 : decode prog_211_method_3_code 182 = .ok (.if_icmp .lt 13, 3) := by decide +kernel
theorem d2_185 : decode prog_211_method_3_code 185 = .ok (.iload_n 0, 1) := by decide +kernel
theorem d2_186 : decode prog_211_method_3_code 186 = .ok (.ldc 41, 2) := by decide +kernel
theorem d2_188 : decode prog_211_method_3_code 188 = .ok (.if_icmp .gt 7, 3) := by decide +kernel
theorem d2_191 : decode prog_211_method_3_code 191 = .ok (.iconst 1, 1) := by decide +kernel
theorem d2_192 : decode prog_211_method_3_code 192 = .ok (.goto 4, 3) := by decide +kernel
theorem d2_195 : decode prog_211_method_3_code 195 = .ok (.iconst 0, 1) := by decide +kernel
theorem d2_196 : decode prog_211_method_3_code 196 = .ok (.ireturn, 1) := by decide +kernel
def own_f185 (c : Int32) : Int32 := if (983039 : Int32) < c then 0 else 1
def own_f179 (c : Int32) : Int32 := if c < (65536 : Int32) then 0 else own_f185 c
def own_f173 (c : Int32) : Int32 := if (65533 : Int32) < c then own_f179 c else 1
def own_f167 (c : Int32) : Int32 := if c < (65008 : Int32) then own_f179 c else own_f173 c
def own_f161 (c : Int32) : Int32 := if (64975 : Int32) < c then own_f167 c else 1
def own_f155 (c : Int32) : Int32 := if c < (63744 : Int32) then own_f167 c else own_f161 c
def own_f149 (c : Int32) : Int32 := if (55295 : Int32) < c then own_f155 c else 1
def own_f142 (c : Int32) : Int32 := if c < (12289 : Int32) then own_f155 c else own_f149 c
def own_f135 (c : Int32) : Int32 := if (12271 : Int32) < c then own_f142 c else 1
def own_f128 (c : Int32) : Int32 := if c < (11264 : Int32) then own_f142 c else own_f135 c
def own_f121 (c : Int32) : Int32 := if (8591 : Int32) < c then own_f128 c else 1
def own_f114 (c : Int32) : Int32 := if c < (8304 : Int32) then own_f128 c else own_f121 c
def own_f107 (c : Int32) : Int32 := if c = (8205 : Int32) then 1 else own_f114 c
def own_f100 (c : Int32) : Int32 := if c = (8204 : Int32) then 1 else own_f107 c
def own_f93 (c : Int32) : Int32 := if (8191 : Int32) < c then own_f100 c else 1
def own_f86 (c : Int32) : Int32 := if c < (895 : Int32) then own_f100 c else own_f93 c
def own_f79 (c : Int32) : Int32 := if (893 : Int32) < c then own_f86 c else 1
def own_f72 (c : Int32) : Int32 := if c < (880 : Int32) then own_f86 c else own_f79 c
def own_f65 (c : Int32) : Int32 := if (767 : Int32) < c then own_f72 c else 1
def own_f58 (c : Int32) : Int32 := if c < (248 : Int32) then own_f72 c else own_f65 c
def own_f51 (c : Int32) : Int32 := if (246 : Int32) < c then own_f58 c else 1
def own_f44 (c : Int32) : Int32 := if c < (216 : Int32) then own_f58 c else own_f51 c
def own_f37 (c : Int32) : Int32 := if (214 : Int32) < c then own_f44 c else 1
def own_f30 (c : Int32) : Int32 := if c < (192 : Int32) then own_f44 c else own_f37 c
def own_f24 (c : Int32) : Int32 := if c = (95 : Int32) then 1 else own_f30 c
def own_f18 (c : Int32) : Int32 := if (90 : Int32) < c then own_f24 c else 1
def own_f12 (c : Int32) : Int32 := if c < (65 : Int32) then own_f24 c else own_f18 c
def own_f6 (c : Int32) : Int32 := if (122 : Int32) < c then own_f12 c else 1
def own_f0 (c : Int32) : Int32 := if c < (97 : Int32) then own_f12 c else own_f6 c
theorem pn_2 : plainName "com/example/coarsen/coarsen/xml/XmlNames" = true := by first | (simp [plainName, overriddenIn]; done) | decide +kernel
theorem ef_2 (m : MethodId) (x0 : Int32) : entryFrame m #[(.int x0)] 1 = mkF m 0 #[.val (.int x0)] [] := by first | (simp [entryFrame, mkF, argsToLocals, Value.category]; done) | rfl
def Q2 (Z : State) (p1 : Int32) (h0 : Heap) (n0 : Nat) (v : Option Value) (h : Heap) (L : List Loc) : Prop := v = some (.int (own_f0 p1)) ∧ Fr n0 L ∧ h = h0
set_option maxRecDepth 65536 in
set_option maxHeartbeats 40000000 in
theorem rm2 (l : Launch) (Z : State) (a0 : Array Value) (hw : ∀ d ∈ tables_1, d.before a0 Z = true) (ws : List Jvm.Cond) (p1 : Int32) (h0 : Heap) (n0 : Nat) (Z0 : n0 ≤ h0.size) :
    MetFree l (⟨"com/example/coarsen/coarsen/xml/XmlNames", "isNameStartChar", "(I)Z"⟩ : MethodName) (head1 (Jvm.Cond.code (⟨"com/example/coarsen/coarsen/xml/XmlNames", "isNameStartChar", "(I)Z"⟩ : MethodName) prog_211_method_3_code 1 (some .boolean) :: ws) ({ frames := 0, cells := 0, slots := 0, locals := 0 } : Room)) (fun a U => a = #[(.int p1)] ∧ Z.Warmed39 U.vm ∧ U.heap = h0) (fun _ _ _ _ _ => True) (fun _ U o U' => ∃ v L, o = .returned v ∧ Q2 Z p1 h0 n0 v U'.heap L ∧ FrameEnd U o U' L ({ frames := 0, cells := 0, slots := 0, locals := 0 } : Room).cells ({ frames := 0, cells := 0, slots := 0, locals := 0 } : Room).slots) := by
  refine MetFree.of_bodySF (plainFor_of_name pn_2) hisR ?_
  intro p e s m args below meth c s₁ Bd hml0 hP hK
  obtain ⟨rfl, hZ, hh⟩ := hP
  have hx := Bd.exec
  have hby := Bd.bytes
  have hml : c.maxLocals = 1 := hml0
  have hown : s.vm.findClass "com/example/coarsen/coarsen/xml/XmlNames" = some m.cls := findClass_of_methodNamed Bd.named
  have hnm := (name_of_methodNamed Bd.named Bd.method).1
  have X0 : Stand p l e ({ frames := 0, cells := 0, slots := 0, locals := 0 } : Room) s m #[(.int p1)] below meth c s₁ [] 0 0 := Stand.of_body Bd
  have e0 : s₁.heap = h0 := by rw [← hh, Bd.state]; rfl
  have N0 := Fr.nil n0
  have pre0 : ∀ t, Steps p.tables e below (s₁.setTop (mkF m 0 #[.val (.int p1)] [])) t → Steps p.tables e below (s₁.setTop (entryFrame m #[(.int p1)] 1)) t := fun t k => castTop (ef_2 m p1) k

  obtain ⟨fs, hr, hrun, hended, hW, hsame⟩ := X0.leave (v := some (.int (own_f0 p1))) (fun h => by rw [Bd.returns] at h; cases h)
  refine ⟨_, _, pre0 _ ?_, hrun, hended, _, _, rfl, ?_, ⟨_, rfl⟩, hW, hsame.mono (by decide) (by decide)⟩
  · have k191 : own_f0 p1 = 1 → Steps p.tables e below (s₁.setTop (mkF m 191 #[.val (.int p1)] [])) (s₁.setFrames fs) := by
      intro hv
      rw [hv] at hr
      refine XS.iconst X0.here hx rfl (hb hby d2_191) ?_
      show Steps p.tables e below (s₁.setTop (mkF m 192 #[.val (.int p1)] [(.int (1 : Int32))])) _
      refine XS.goto X0.here hx rfl (pc0 := 192) (pc' := 196) rfl (hb hby d2_192) (by decide) (by decide) ?_
      show Steps p.tables e below (s₁.setTop (mkF m 196 #[.val (.int p1)] [(.int (1 : Int32))])) _
      exact retN X0 hx (t := .boolean) Bd.returns (by simp) (hb hby d2_196) hr
    have k195 : own_f0 p1 = 0 → Steps p.tables e below (s₁.setTop (mkF m 195 #[.val (.int p1)] [])) (s₁.setFrames fs) := by
      intro hv
      rw [hv] at hr
      refine XS.iconst X0.here hx rfl (hb hby d2_195) ?_
      show Steps p.tables e below (s₁.setTop (mkF m 196 #[.val (.int p1)] [(.int (0 : Int32))])) _
      exact retN X0 hx (t := .boolean) Bd.returns (by simp) (hb hby d2_196) hr
    have k185 : own_f0 p1 = own_f185 p1 → Steps p.tables e below (s₁.setTop (mkF m 185 #[.val (.int p1)] [])) (s₁.setFrames fs) := by
      intro hv
      refine XS.iloadN X0.here hx rfl (hb hby d2_185) rfl ?_
      show Steps p.tables e below (s₁.setTop (mkF m 186 #[.val (.int p1)] [(.int p1)])) _
      refine X0.ldcInt hx hown (mvT hZ (hw _ (List.mem_of_getElem? (i := 24) rfl))) (g := (mkF m 186 #[.val (.int p1)] [(.int p1)])) rfl (hb hby d2_186) _ ?_
      show Steps p.tables e below (s₁.setTop (mkF m 188 #[.val (.int p1)] [(.int (983039 : Int32)), (.int p1)])) _
      by_cases h : (983039 : Int32) < p1
      · refine XS.icmpYes X0.here hx rfl (pc0 := 188) (pc' := 195) rfl (hb hby d2_188) rfl (tlt h).2.2.1 (by decide) (by decide) ?_
        exact k195 (hv.trans (if_pos h))
      · refine XS.icmpNo X0.here hx rfl (hb hby d2_188) rfl (flt h).2.2.1 ?_
        exact k191 (hv.trans (if_neg h))
    have k179 : own_f0 p1 = own_f179 p1 → Steps p.tables e below (s₁.setTop (mkF m 179 #[.val (.int p1)] [])) (s₁.setFrames fs) := by
      intro hv
      refine XS.iloadN X0.here hx rfl (hb hby d2_179) rfl ?_
      show Steps p.tables e below (s₁.setTop (mkF m 180 #[.val (.int p1)] [(.int p1)])) _
      refine X0.ldcInt hx hown (mvT hZ (hw _ (List.mem_of_getElem? (i := 19) rfl))) (g := (mkF m 180 #[.val (.int p1)] [(.int p1)])) rfl (hb hby d2_180) _ ?_
      show Steps p.tables e below (s₁.setTop (mkF m 182 #[.val (.int p1)] [(.int (65536 : Int32)), (.int p1)])) _
      by_cases h : p1 < (65536 : Int32)
      · refine XS.icmpYes X0.here hx rfl (pc0 := 182) (pc' := 195) rfl (hb hby d2_182) rfl (tlt h).1 (by decide) (by decide) ?_
        exact k195 (hv.trans (if_pos h))
      · refine XS.icmpNo X0.here hx rfl (hb hby d2_182) rfl (flt h).1 ?_
        exact k185 (hv.trans (if_neg h))
    have k173 : own_f0 p1 = own_f173 p1 → Steps p.tables e below (s₁.setTop (mkF m 173 #[.val (.int p1)] [])) (s₁.setFrames fs) := by
      intro hv
      refine XS.iloadN X0.here hx rfl (hb hby d2_173) rfl ?_
      show Steps p.tables e below (s₁.setTop (mkF m 174 #[.val (.int p1)] [(.int p1)])) _
      refine X0.ldcInt hx hown (mvT hZ (hw _ (List.mem_of_getElem? (i := 23) rfl))) (g := (mkF m 174 #[.val (.int p1)] [(.int p1)])) rfl (hb hby d2_174) _ ?_
      show Steps p.tables e below (s₁.setTop (mkF m 176 #[.val (.int p1)] [(.int (65533 : Int32)), (.int p1)])) _
      by_cases h : (65533 : Int32) < p1
      · refine XS.icmpNo X0.here hx rfl (hb hby d2_176) rfl (tlt h).2.2.2 ?_
        exact k179 (hv.trans (if_pos h))
      · refine XS.icmpYes X0.here hx rfl (pc0 := 176) (pc' := 191) rfl (hb hby d2_176) rfl (flt h).2.2.2 (by decide) (by decide) ?_
        exact k191 (hv.trans (if_neg h))
    have k167 : own_f0 p1 = own_f167 p1 → Steps p.tables e below (s₁.setTop (mkF m 167 #[.val (.int p1)] [])) (s₁.setFrames fs) := by
      intro hv
      refine XS.iloadN X0.here hx rfl (hb hby d2_167) rfl ?_
      show Steps p.tables e below (s₁.setTop (mkF m 168 #[.val (.int p1)] [(.int p1)])) _
      refine X0.ldcInt hx hown (mvT hZ (hw _ (List.mem_of_getElem? (i := 18) rfl))) (g := (mkF m 168 #[.val (.int p1)] [(.int p1)])) rfl (hb hby d2_168) _ ?_
      show Steps p.tables e below (s₁.setTop (mkF m 170 #[.val (.int p1)] [(.int (65008 : Int32)), (.int p1)])) _
      by_cases h : p1 < (65008 : Int32)
      · refine XS.icmpYes X0.here hx rfl (pc0 := 170) (pc' := 179) rfl (hb hby d2_170) rfl (tlt h).1 (by decide) (by decide) ?_
        exact k179 (hv.trans (if_pos h))
      · refine XS.icmpNo X0.here hx rfl (hb hby d2_170) rfl (flt h).1 ?_
        exact k173 (hv.trans (if_neg h))
    have k161 : own_f0 p1 = own_f161 p1 → Steps p.tables e below (s₁.setTop (mkF m 161 #[.val (.int p1)] [])) (s₁.setFrames fs) := by
      intro hv
      refine XS.iloadN X0.here hx rfl (hb hby d2_161) rfl ?_
      show Steps p.tables e below (s₁.setTop (mkF m 162 #[.val (.int p1)] [(.int p1)])) _
      refine X0.ldcInt hx hown (mvT hZ (hw _ (List.mem_of_getElem? (i := 22) rfl))) (g := (mkF m 162 #[.val (.int p1)] [(.int p1)])) rfl (hb hby d2_162) _ ?_
      show Steps p.tables e below (s₁.setTop (mkF m 164 #[.val (.int p1)] [(.int (64975 : Int32)), (.int p1)])) _
      by_cases h : (64975 : Int32) < p1
      · refine XS.icmpNo X0.here hx rfl (hb hby d2_164) rfl (tlt h).2.2.2 ?_
        exact k167 (hv.trans (if_pos h))
      · refine XS.icmpYes X0.here hx rfl (pc0 := 164) (pc' := 191) rfl (hb hby d2_164) rfl (flt h).2.2.2 (by decide) (by decide) ?_
        exact k191 (hv.trans (if_neg h))
    have k155 : own_f0 p1 = own_f155 p1 → Steps p.tables e below (s₁.setTop (mkF m 155 #[.val (.int p1)] [])) (s₁.setFrames fs) := by
      intro hv
      refine XS.iloadN X0.here hx rfl (hb hby d2_155) rfl ?_
      show Steps p.tables e below (s₁.setTop (mkF m 156 #[.val (.int p1)] [(.int p1)])) _
      refine X0.ldcInt hx hown (mvT hZ (hw _ (List.mem_of_getElem? (i := 17) rfl))) (g := (mkF m 156 #[.val (.int p1)] [(.int p1)])) rfl (hb hby d2_156) _ ?_
      show Steps p.tables e below (s₁.setTop (mkF m 158 #[.val (.int p1)] [(.int (63744 : Int32)), (.int p1)])) _
      by_cases h : p1 < (63744 : Int32)
      · refine XS.icmpYes X0.here hx rfl (pc0 := 158) (pc' := 167) rfl (hb hby d2_158) rfl (tlt h).1 (by decide) (by decide) ?_
        exact k167 (hv.trans (if_pos h))
      · refine XS.icmpNo X0.here hx rfl (hb hby d2_158) rfl (flt h).1 ?_
        exact k161 (hv.trans (if_neg h))
    have k149 : own_f0 p1 = own_f149 p1 → Steps p.tables e below (s₁.setTop (mkF m 149 #[.val (.int p1)] [])) (s₁.setFrames fs) := by
      intro hv
      refine XS.iloadN X0.here hx rfl (hb hby d2_149) rfl ?_
      show Steps p.tables e below (s₁.setTop (mkF m 150 #[.val (.int p1)] [(.int p1)])) _
      refine X0.ldcInt hx hown (mvT hZ (hw _ (List.mem_of_getElem? (i := 21) rfl))) (g := (mkF m 150 #[.val (.int p1)] [(.int p1)])) rfl (hb hby d2_150) _ ?_
      show Steps p.tables e below (s₁.setTop (mkF m 152 #[.val (.int p1)] [(.int (55295 : Int32)), (.int p1)])) _
      by_cases h : (55295 : Int32) < p1
      · refine XS.icmpNo X0.here hx rfl (hb hby d2_152) rfl (tlt h).2.2.2 ?_
        exact k155 (hv.trans (if_pos h))
      · refine XS.icmpYes X0.here hx rfl (pc0 := 152) (pc' := 191) rfl (hb hby d2_152) rfl (flt h).2.2.2 (by decide) (by decide) ?_
        exact k191 (hv.trans (if_neg h))
    have k142 : own_f0 p1 = own_f142 p1 → Steps p.tables e below (s₁.setTop (mkF m 142 #[.val (.int p1)] [])) (s₁.setFrames fs) := by
      intro hv
      refine XS.iloadN X0.here hx rfl (hb hby d2_142) rfl ?_
      show Steps p.tables e below (s₁.setTop (mkF m 143 #[.val (.int p1)] [(.int p1)])) _
      refine XS.sipush X0.here hx rfl (hb hby d2_143) ?_
      show Steps p.tables e below (s₁.setTop (mkF m 146 #[.val (.int p1)] [(.int (12289 : Int32)), (.int p1)])) _
      by_cases h : p1 < (12289 : Int32)
      · refine XS.icmpYes X0.here hx rfl (pc0 := 146) (pc' := 155) rfl (hb hby d2_146) rfl (tlt h).1 (by decide) (by decide) ?_
        exact k155 (hv.trans (if_pos h))
      · refine XS.icmpNo X0.here hx rfl (hb hby d2_146) rfl (flt h).1 ?_
        exact k149 (hv.trans (if_neg h))
    have k135 : own_f0 p1 = own_f135 p1 → Steps p.tables e below (s₁.setTop (mkF m 135 #[.val (.int p1)] [])) (s₁.setFrames fs) := by
      intro hv
      refine XS.iloadN X0.here hx rfl (hb hby d2_135) rfl ?_
      show Steps p.tables e below (s₁.setTop (mkF m 136 #[.val (.int p1)] [(.int p1)])) _
      refine XS.sipush X0.here hx rfl (hb hby d2_136) ?_
      show Steps p.tables e below (s₁.setTop (mkF m 139 #[.val (.int p1)] [(.int (12271 : Int32)), (.int p1)])) _
      by_cases h : (12271 : Int32) < p1
      · refine XS.icmpNo X0.here hx rfl (hb hby d2_139) rfl (tlt h).2.2.2 ?_
        exact k142 (hv.trans (if_pos h))
      · refine XS.icmpYes X0.here hx rfl (pc0 := 139) (pc' := 191) rfl (hb hby d2_139) rfl (flt h).2.2.2 (by decide) (by decide) ?_
        exact k191 (hv.trans (if_neg h))
    have k128 : own_f0 p1 = own_f128 p1 → Steps p.tables e below (s₁.setTop (mkF m 128 #[.val (.int p1)] [])) (s₁.setFrames fs) := by
      intro hv
      refine XS.iloadN X0.here hx rfl (hb hby d2_128) rfl ?_
      show Steps p.tables e below (s₁.setTop (mkF m 129 #[.val (.int p1)] [(.int p1)])) _
      refine XS.sipush X0.here hx rfl (hb hby d2_129) ?_
      show Steps p.tables e below (s₁.setTop (mkF m 132 #[.val (.int p1)] [(.int (11264 : Int32)), (.int p1)])) _
      by_cases h : p1 < (11264 : Int32)
      · refine XS.icmpYes X0.here hx rfl (pc0 := 132) (pc' := 142) rfl (hb hby d2_132) rfl (tlt h).1 (by decide) (by decide) ?_
        exact k142 (hv.trans (if_pos h))
      · refine XS.icmpNo X0.here hx rfl (hb hby d2_132) rfl (flt h).1 ?_
        exact k135 (hv.trans (if_neg h))
    have k121 : own_f0 p1 = own_f121 p1 → Steps p.tables e below (s₁.setTop (mkF m 121 #[.val (.int p1)] [])) (s₁.setFrames fs) := by
      intro hv
      refine XS.iloadN X0.here hx rfl (hb hby d2_121) rfl ?_
      show Steps p.tables e below (s₁.setTop (mkF m 122 #[.val (.int p1)] [(.int p1)])) _
      refine XS.sipush X0.here hx rfl (hb hby d2_122) ?_
      show Steps p.tables e below (s₁.setTop (mkF m 125 #[.val (.int p1)] [(.int (8591 : Int32)), (.int p1)])) _
      by_cases h : (8591 : Int32) < p1
      · refine XS.icmpNo X0.here hx rfl (hb hby d2_125) rfl (tlt h).2.2.2 ?_
        exact k128 (hv.trans (if_pos h))
      · refine XS.icmpYes X0.here hx rfl (pc0 := 125) (pc' := 191) rfl (hb hby d2_125) rfl (flt h).2.2.2 (by decide) (by decide) ?_
        exact k191 (hv.trans (if_neg h))
    have k114 : own_f0 p1 = own_f114 p1 → Steps p.tables e below (s₁.setTop (mkF m 114 #[.val (.int p1)] [])) (s₁.setFrames fs) := by
      intro hv
      refine XS.iloadN X0.here hx rfl (hb hby d2_114) rfl ?_
      show Steps p.tables e below (s₁.setTop (mkF m 115 #[.val (.int p1)] [(.int p1)])) _
      refine XS.sipush X0.here hx rfl (hb hby d2_115) ?_
      show Steps p.tables e below (s₁.setTop (mkF m 118 #[.val (.int p1)] [(.int (8304 : Int32)), (.int p1)])) _
      by_cases h : p1 < (8304 : Int32)
      · refine XS.icmpYes X0.here hx rfl (pc0 := 118) (pc' := 128) rfl (hb hby d2_118) rfl (tlt h).1 (by decide) (by decide) ?_
        exact k128 (hv.trans (if_pos h))
      · refine XS.icmpNo X0.here hx rfl (hb hby d2_118) rfl (flt h).1 ?_
        exact k121 (hv.trans (if_neg h))
    have k107 : own_f0 p1 = own_f107 p1 → Steps p.tables e below (s₁.setTop (mkF m 107 #[.val (.int p1)] [])) (s₁.setFrames fs) := by
      intro hv
      refine XS.iloadN X0.here hx rfl (hb hby d2_107) rfl ?_
      show Steps p.tables e below (s₁.setTop (mkF m 108 #[.val (.int p1)] [(.int p1)])) _
      refine XS.sipush X0.here hx rfl (hb hby d2_108) ?_
      show Steps p.tables e below (s₁.setTop (mkF m 111 #[.val (.int p1)] [(.int (8205 : Int32)), (.int p1)])) _
      by_cases h : p1 = (8205 : Int32)
      · refine XS.icmpYes X0.here hx rfl (pc0 := 111) (pc' := 191) rfl (hb hby d2_111) rfl (teq h).1 (by decide) (by decide) ?_
        exact k191 (hv.trans (if_pos h))
      · refine XS.icmpNo X0.here hx rfl (hb hby d2_111) rfl (feq h).1 ?_
        exact k114 (hv.trans (if_neg h))
    have k100 : own_f0 p1 = own_f100 p1 → Steps p.tables e below (s₁.setTop (mkF m 100 #[.val (.int p1)] [])) (s₁.setFrames fs) := by
      intro hv
      refine XS.iloadN X0.here hx rfl (hb hby d2_100) rfl ?_
      show Steps p.tables e below (s₁.setTop (mkF m 101 #[.val (.int p1)] [(.int p1)])) _
      refine XS.sipush X0.here hx rfl (hb hby d2_101) ?_
      show Steps p.tables e below (s₁.setTop (mkF m 104 #[.val (.int p1)] [(.int (8204 : Int32)), (.int p1)])) _
      by_cases h : p1 = (8204 : Int32)
      · refine XS.icmpYes X0.here hx rfl (pc0 := 104) (pc' := 191) rfl (hb hby d2_104) rfl (teq h).1 (by decide) (by decide) ?_
        exact k191 (hv.trans (if_pos h))
      · refine XS.icmpNo X0.here hx rfl (hb hby d2_104) rfl (feq h).1 ?_
        exact k107 (hv.trans (if_neg h))
    have k93 : own_f0 p1 = own_f93 p1 → Steps p.tables e below (s₁.setTop (mkF m 93 #[.val (.int p1)] [])) (s₁.setFrames fs) := by
      intro hv
      refine XS.iloadN X0.here hx rfl (hb hby d2_93) rfl ?_
      show Steps p.tables e below (s₁.setTop (mkF m 94 #[.val (.int p1)] [(.int p1)])) _
      refine XS.sipush X0.here hx rfl (hb hby d2_94) ?_
      show Steps p.tables e below (s₁.setTop (mkF m 97 #[.val (.int p1)] [(.int (8191 : Int32)), (.int p1)])) _
      by_cases h : (8191 : Int32) < p1
      · refine XS.icmpNo X0.here hx rfl (hb hby d2_97) rfl (tlt h).2.2.2 ?_
        exact k100 (hv.trans (if_pos h))
      · refine XS.icmpYes X0.here hx rfl (pc0 := 97) (pc' := 191) rfl (hb hby d2_97) rfl (flt h).2.2.2 (by decide) (by decide) ?_
        exact k191 (hv.trans (if_neg h))
    have k86 : own_f0 p1 = own_f86 p1 → Steps p.tables e below (s₁.setTop (mkF m 86 #[.val (.int p1)] [])) (s₁.setFrames fs) := by
      intro hv
      refine XS.iloadN X0.here hx rfl (hb hby d2_86) rfl ?_
      show Steps p.tables e below (s₁.setTop (mkF m 87 #[.val (.int p1)] [(.int p1)])) _
      refine XS.sipush X0.here hx rfl (hb hby d2_87) ?_
      show Steps p.tables e below (s₁.setTop (mkF m 90 #[.val (.int p1)] [(.int (895 : Int32)), (.int p1)])) _
      by_cases h : p1 < (895 : Int32)
      · refine XS.icmpYes X0.here hx rfl (pc0 := 90) (pc' := 100) rfl (hb hby d2_90) rfl (tlt h).1 (by decide) (by decide) ?_
        exact k100 (hv.trans (if_pos h))
      · refine XS.icmpNo X0.here hx rfl (hb hby d2_90) rfl (flt h).1 ?_
        exact k93 (hv.trans (if_neg h))
    have k79 : own_f0 p1 = own_f79 p1 → Steps p.tables e below (s₁.setTop (mkF m 79 #[.val (.int p1)] [])) (s₁.setFrames fs) := by
      intro hv
      refine XS.iloadN X0.here hx rfl (hb hby d2_79) rfl ?_
      show Steps p.tables e below (s₁.setTop (mkF m 80 #[.val (.int p1)] [(.int p1)])) _
      refine XS.sipush X0.here hx rfl (hb hby d2_80) ?_
      show Steps p.tables e below (s₁.setTop (mkF m 83 #[.val (.int p1)] [(.int (893 : Int32)), (.int p1)])) _
      by_cases h : (893 : Int32) < p1
      · refine XS.icmpNo X0.here hx rfl (hb hby d2_83) rfl (tlt h).2.2.2 ?_
        exact k86 (hv.trans (if_pos h))
      · refine XS.icmpYes X0.here hx rfl (pc0 := 83) (pc' := 191) rfl (hb hby d2_83) rfl (flt h).2.2.2 (by decide) (by decide) ?_
        exact k191 (hv.trans (if_neg h))
    have k72 : own_f0 p1 = own_f72 p1 → Steps p.tables e below (s₁.setTop (mkF m 72 #[.val (.int p1)] [])) (s₁.setFrames fs) := by
      intro hv
      refine XS.iloadN X0.here hx rfl (hb hby d2_72) rfl ?_
      show Steps p.tables e below (s₁.setTop (mkF m 73 #[.val (.int p1)] [(.int p1)])) _
      refine XS.sipush X0.here hx rfl (hb hby d2_73) ?_
      show Steps p.tables e below (s₁.setTop (mkF m 76 #[.val (.int p1)] [(.int (880 : Int32)), (.int p1)])) _
      by_cases h : p1 < (880 : Int32)
      · refine XS.icmpYes X0.here hx rfl (pc0 := 76) (pc' := 86) rfl (hb hby d2_76) rfl (tlt h).1 (by decide) (by decide) ?_
        exact k86 (hv.trans (if_pos h))
      · refine XS.icmpNo X0.here hx rfl (hb hby d2_76) rfl (flt h).1 ?_
        exact k79 (hv.trans (if_neg h))
    have k65 : own_f0 p1 = own_f65 p1 → Steps p.tables e below (s₁.setTop (mkF m 65 #[.val (.int p1)] [])) (s₁.setFrames fs) := by
      intro hv
      refine XS.iloadN X0.here hx rfl (hb hby d2_65) rfl ?_
      show Steps p.tables e below (s₁.setTop (mkF m 66 #[.val (.int p1)] [(.int p1)])) _
      refine XS.sipush X0.here hx rfl (hb hby d2_66) ?_
      show Steps p.tables e below (s₁.setTop (mkF m 69 #[.val (.int p1)] [(.int (767 : Int32)), (.int p1)])) _
      by_cases h : (767 : Int32) < p1
      · refine XS.icmpNo X0.here hx rfl (hb hby d2_69) rfl (tlt h).2.2.2 ?_
        exact k72 (hv.trans (if_pos h))
      · refine XS.icmpYes X0.here hx rfl (pc0 := 69) (pc' := 191) rfl (hb hby d2_69) rfl (flt h).2.2.2 (by decide) (by decide) ?_
        exact k191 (hv.trans (if_neg h))
    have k58 : own_f0 p1 = own_f58 p1 → Steps p.tables e below (s₁.setTop (mkF m 58 #[.val (.int p1)] [])) (s₁.setFrames fs) := by
      intro hv
      refine XS.iloadN X0.here hx rfl (hb hby d2_58) rfl ?_
      show Steps p.tables e below (s₁.setTop (mkF m 59 #[.val (.int p1)] [(.int p1)])) _
      refine XS.sipush X0.here hx rfl (hb hby d2_59) ?_
      show Steps p.tables e below (s₁.setTop (mkF m 62 #[.val (.int p1)] [(.int (248 : Int32)), (.int p1)])) _
      by_cases h : p1 < (248 : Int32)
      · refine XS.icmpYes X0.here hx rfl (pc0 := 62) (pc' := 72) rfl (hb hby d2_62) rfl (tlt h).1 (by decide) (by decide) ?_
        exact k72 (hv.trans (if_pos h))
      · refine XS.icmpNo X0.here hx rfl (hb hby d2_62) rfl (flt h).1 ?_
        exact k65 (hv.trans (if_neg h))
    have k51 : own_f0 p1 = own_f51 p1 → Steps p.tables e below (s₁.setTop (mkF m 51 #[.val (.int p1)] [])) (s₁.setFrames fs) := by
      intro hv
      refine XS.iloadN X0.here hx rfl (hb hby d2_51) rfl ?_
      show Steps p.tables e below (s₁.setTop (mkF m 52 #[.val (.int p1)] [(.int p1)])) _
      refine XS.sipush X0.here hx rfl (hb hby d2_52) ?_
      show Steps p.tables e below (s₁.setTop (mkF m 55 #[.val (.int p1)] [(.int (246 : Int32)), (.int p1)])) _
      by_cases h : (246 : Int32) < p1
      · refine XS.icmpNo X0.here hx rfl (hb hby d2_55) rfl (tlt h).2.2.2 ?_
        exact k58 (hv.trans (if_pos h))
      · refine XS.icmpYes X0.here hx rfl (pc0 := 55) (pc' := 191) rfl (hb hby d2_55) rfl (flt h).2.2.2 (by decide) (by decide) ?_
        exact k191 (hv.trans (if_neg h))
    have k44 : own_f0 p1 = own_f44 p1 → Steps p.tables e below (s₁.setTop (mkF m 44 #[.val (.int p1)] [])) (s₁.setFrames fs) := by
      intro hv
      refine XS.iloadN X0.here hx rfl (hb hby d2_44) rfl ?_
      show Steps p.tables e below (s₁.setTop (mkF m 45 #[.val (.int p1)] [(.int p1)])) _
      refine XS.sipush X0.here hx rfl (hb hby d2_45) ?_
      show Steps p.tables e below (s₁.setTop (mkF m 48 #[.val (.int p1)] [(.int (216 : Int32)), (.int p1)])) _
      by_cases h : p1 < (216 : Int32)
      · refine XS.icmpYes X0.here hx rfl (pc0 := 48) (pc' := 58) rfl (hb hby d2_48) rfl (tlt h).1 (by decide) (by decide) ?_
        exact k58 (hv.trans (if_pos h))
      · refine XS.icmpNo X0.here hx rfl (hb hby d2_48) rfl (flt h).1 ?_
        exact k51 (hv.trans (if_neg h))
    have k37 : own_f0 p1 = own_f37 p1 → Steps p.tables e below (s₁.setTop (mkF m 37 #[.val (.int p1)] [])) (s₁.setFrames fs) := by
      intro hv
      refine XS.iloadN X0.here hx rfl (hb hby d2_37) rfl ?_
      show Steps p.tables e below (s₁.setTop (mkF m 38 #[.val (.int p1)] [(.int p1)])) _
      refine XS.sipush X0.here hx rfl (hb hby d2_38) ?_
      show Steps p.tables e below (s₁.setTop (mkF m 41 #[.val (.int p1)] [(.int (214 : Int32)), (.int p1)])) _
      by_cases h : (214 : Int32) < p1
      · refine XS.icmpNo X0.here hx rfl (hb hby d2_41) rfl (tlt h).2.2.2 ?_
        exact k44 (hv.trans (if_pos h))
      · refine XS.icmpYes X0.here hx rfl (pc0 := 41) (pc' := 191) rfl (hb hby d2_41) rfl (flt h).2.2.2 (by decide) (by decide) ?_
        exact k191 (hv.trans (if_neg h))
    have k30 : own_f0 p1 = own_f30 p1 → Steps p.tables e below (s₁.setTop (mkF m 30 #[.val (.int p1)] [])) (s₁.setFrames fs) := by
      intro hv
      refine XS.iloadN X0.here hx rfl (hb hby d2_30) rfl ?_
      show Steps p.tables e below (s₁.setTop (mkF m 31 #[.val (.int p1)] [(.int p1)])) _
      refine XS.sipush X0.here hx rfl (hb hby d2_31) ?_
      show Steps p.tables e below (s₁.setTop (mkF m 34 #[.val (.int p1)] [(.int (192 : Int32)), (.int p1)])) _
      by_cases h : p1 < (192 : Int32)
      · refine XS.icmpYes X0.here hx rfl (pc0 := 34) (pc' := 44) rfl (hb hby d2_34) rfl (tlt h).1 (by decide) (by decide) ?_
        exact k44 (hv.trans (if_pos h))
      · refine XS.icmpNo X0.here hx rfl (hb hby d2_34) rfl (flt h).1 ?_
        exact k37 (hv.trans (if_neg h))
    have k24 : own_f0 p1 = own_f24 p1 → Steps p.tables e below (s₁.setTop (mkF m 24 #[.val (.int p1)] [])) (s₁.setFrames fs) := by
      intro hv
      refine XS.iloadN X0.here hx rfl (hb hby d2_24) rfl ?_
      show Steps p.tables e below (s₁.setTop (mkF m 25 #[.val (.int p1)] [(.int p1)])) _
      refine XS.bipush X0.here hx rfl (hb hby d2_25) ?_
      show Steps p.tables e below (s₁.setTop (mkF m 27 #[.val (.int p1)] [(.int (95 : Int32)), (.int p1)])) _
      by_cases h : p1 = (95 : Int32)
      · refine XS.icmpYes X0.here hx rfl (pc0 := 27) (pc' := 191) rfl (hb hby d2_27) rfl (teq h).1 (by decide) (by decide) ?_
        exact k191 (hv.trans (if_pos h))
      · refine XS.icmpNo X0.here hx rfl (hb hby d2_27) rfl (feq h).1 ?_
        exact k30 (hv.trans (if_neg h))
    have k18 : own_f0 p1 = own_f18 p1 → Steps p.tables e below (s₁.setTop (mkF m 18 #[.val (.int p1)] [])) (s₁.setFrames fs) := by
      intro hv
      refine XS.iloadN X0.here hx rfl (hb hby d2_18) rfl ?_
      show Steps p.tables e below (s₁.setTop (mkF m 19 #[.val (.int p1)] [(.int p1)])) _
      refine XS.bipush X0.here hx rfl (hb hby d2_19) ?_
      show Steps p.tables e below (s₁.setTop (mkF m 21 #[.val (.int p1)] [(.int (90 : Int32)), (.int p1)])) _
      by_cases h : (90 : Int32) < p1
      · refine XS.icmpNo X0.here hx rfl (hb hby d2_21) rfl (tlt h).2.2.2 ?_
        exact k24 (hv.trans (if_pos h))
      · refine XS.icmpYes X0.here hx rfl (pc0 := 21) (pc' := 191) rfl (hb hby d2_21) rfl (flt h).2.2.2 (by decide) (by decide) ?_
        exact k191 (hv.trans (if_neg h))
    have k12 : own_f0 p1 = own_f12 p1 → Steps p.tables e below (s₁.setTop (mkF m 12 #[.val (.int p1)] [])) (s₁.setFrames fs) := by
      intro hv
      refine XS.iloadN X0.here hx rfl (hb hby d2_12) rfl ?_
      show Steps p.tables e below (s₁.setTop (mkF m 13 #[.val (.int p1)] [(.int p1)])) _
      refine XS.bipush X0.here hx rfl (hb hby d2_13) ?_
      show Steps p.tables e below (s₁.setTop (mkF m 15 #[.val (.int p1)] [(.int (65 : Int32)), (.int p1)])) _
      by_cases h : p1 < (65 : Int32)
      · refine XS.icmpYes X0.here hx rfl (pc0 := 15) (pc' := 24) rfl (hb hby d2_15) rfl (tlt h).1 (by decide) (by decide) ?_
        exact k24 (hv.trans (if_pos h))
      · refine XS.icmpNo X0.here hx rfl (hb hby d2_15) rfl (flt h).1 ?_
        exact k18 (hv.trans (if_neg h))
    have k6 : own_f0 p1 = own_f6 p1 → Steps p.tables e below (s₁.setTop (mkF m 6 #[.val (.int p1)] [])) (s₁.setFrames fs) := by
      intro hv
      refine XS.iloadN X0.here hx rfl (hb hby d2_6) rfl ?_
      show Steps p.tables e below (s₁.setTop (mkF m 7 #[.val (.int p1)] [(.int p1)])) _
      refine XS.bipush X0.here hx rfl (hb hby d2_7) ?_
      show Steps p.tables e below (s₁.setTop (mkF m 9 #[.val (.int p1)] [(.int (122 : Int32)), (.int p1)])) _
      by_cases h : (122 : Int32) < p1
      · refine XS.icmpNo X0.here hx rfl (hb hby d2_9) rfl (tlt h).2.2.2 ?_
        exact k12 (hv.trans (if_pos h))
      · refine XS.icmpYes X0.here hx rfl (pc0 := 9) (pc' := 191) rfl (hb hby d2_9) rfl (flt h).2.2.2 (by decide) (by decide) ?_
        exact k191 (hv.trans (if_neg h))
    have k0 : own_f0 p1 = own_f0 p1 → Steps p.tables e below (s₁.setTop (mkF m 0 #[.val (.int p1)] [])) (s₁.setFrames fs) := by
      intro hv
      refine XS.iloadN X0.here hx rfl (hb hby d2_0) rfl ?_
      show Steps p.tables e below (s₁.setTop (mkF m 1 #[.val (.int p1)] [(.int p1)])) _
      refine XS.bipush X0.here hx rfl (hb hby d2_1) ?_
      show Steps p.tables e below (s₁.setTop (mkF m 3 #[.val (.int p1)] [(.int (97 : Int32)), (.int p1)])) _
      by_cases h : p1 < (97 : Int32)
      · refine XS.icmpYes X0.here hx rfl (pc0 := 3) (pc' := 12) rfl (hb hby d2_3) rfl (tlt h).1 (by decide) (by decide) ?_
        exact k12 (hv.trans (if_pos h))
      · refine XS.icmpNo X0.here hx rfl (hb hby d2_3) rfl (flt h).1 ?_
        exact k6 (hv.trans (if_neg h))
    exact k0 rfl
  · show Q2 Z p1 h0 n0 _ s₁.heap _
    rw [e0]
    exact ⟨rfl, N0, rfl⟩
def own_e (n : Int32) : Int32 := if (n &&& (1 : Int32)) = (1 : Int32) then 1 else 0
theorem own_ge1 {c b : Int32} (h : b.toInt ≤ c.toInt) : own_ge c b = 1 := if_neg (fun q => by rw [Int32.lt_iff_toInt_lt] at q; omega)
theorem own_ge0 {c b : Int32} (h : c.toInt < b.toInt) : own_ge c b = 0 := if_pos (Int32.lt_iff_toInt_lt.mpr h)
theorem own_leaf0 (c : Int32) (h2 : c.toInt < (65 : Int)) : own_f0 c = own_e ((((((((((((((((((((((((((((((own_ge c (65 : Int32)) + (own_ge c (91 : Int32))) + (own_ge c (95 : Int32))) + (own_ge c (96 : Int32))) + (own_ge c (97 : Int32))) + (own_ge c (123 : Int32))) + (own_ge c (192 : Int32))) + (own_ge c (215 : Int32))) + (own_ge c (216 : Int32))) + (own_ge c (247 : Int32))) + (own_ge c (248 : Int32))) + (own_ge c (768 : Int32))) + (own_ge c (880 : Int32))) + (own_ge c (894 : Int32))) + (own_ge c (895 : Int32))) + (own_ge c (8192 : Int32))) + (own_ge c (8204 : Int32))) + (own_ge c (8206 : Int32))) + (own_ge c (8304 : Int32))) + (own_ge c (8592 : Int32))) + (own_ge c (11264 : Int32))) + (own_ge c (12272 : Int32))) + (own_ge c (12289 : Int32))) + (own_ge c (55296 : Int32))) + (own_ge c (63744 : Int32))) + (own_ge c (64976 : Int32))) + (own_ge c (65008 : Int32))) + (own_ge c (65534 : Int32))) + (own_ge c (65536 : Int32))) + (own_ge c (983040 : Int32))) := by
  rw [show own_ge c (65 : Int32) = 0 from own_ge0 (by rw [show ((65 : Int32)).toInt = 65 from by decide]; omega)]
  rw [show own_ge c (91 : Int32) = 0 from own_ge0 (by rw [show ((91 : Int32)).toInt = 91 from by decide]; omega)]
  rw [show own_ge c (95 : Int32) = 0 from own_ge0 (by rw [show ((95 : Int32)).toInt = 95 from by decide]; omega)]
  rw [show own_ge c (96 : Int32) = 0 from own_ge0 (by rw [show ((96 : Int32)).toInt = 96 from by decide]; omega)]
  rw [show own_ge c (97 : Int32) = 0 from own_ge0 (by rw [show ((97 : Int32)).toInt = 97 from by decide]; omega)]
  rw [show own_ge c (123 : Int32) = 0 from own_ge0 (by rw [show ((123 : Int32)).toInt = 123 from by decide]; omega)]
  rw [show own_ge c (192 : Int32) = 0 from own_ge0 (by rw [show ((192 : Int32)).toInt = 192 from by decide]; omega)]
  rw [show own_ge c (215 : Int32) = 0 from own_ge0 (by rw [show ((215 : Int32)).toInt = 215 from by decide]; omega)]
  rw [show own_ge c (216 : Int32) = 0 from own_ge0 (by rw [show ((216 : Int32)).toInt = 216 from by decide]; omega)]
  rw [show own_ge c (247 : Int32) = 0 from own_ge0 (by rw [show ((247 : Int32)).toInt = 247 from by decide]; omega)]
  rw [show own_ge c (248 : Int32) = 0 from own_ge0 (by rw [show ((248 : Int32)).toInt = 248 from by decide]; omega)]
  rw [show own_ge c (768 : Int32) = 0 from own_ge0 (by rw [show ((768 : Int32)).toInt = 768 from by decide]; omega)]
  rw [show own_ge c (880 : Int32) = 0 from own_ge0 (by rw [show ((880 : Int32)).toInt = 880 from by decide]; omega)]
  rw [show own_ge c (894 : Int32) = 0 from own_ge0 (by rw [show ((894 : Int32)).toInt = 894 from by decide]; omega)]
  rw [show own_ge c (895 : Int32) = 0 from own_ge0 (by rw [show ((895 : Int32)).toInt = 895 from by decide]; omega)]
  rw [show own_ge c (8192 : Int32) = 0 from own_ge0 (by rw [show ((8192 : Int32)).toInt = 8192 from by decide]; omega)]
  rw [show own_ge c (8204 : Int32) = 0 from own_ge0 (by rw [show ((8204 : Int32)).toInt = 8204 from by decide]; omega)]
  rw [show own_ge c (8206 : Int32) = 0 from own_ge0 (by rw [show ((8206 : Int32)).toInt = 8206 from by decide]; omega)]
  rw [show own_ge c (8304 : Int32) = 0 from own_ge0 (by rw [show ((8304 : Int32)).toInt = 8304 from by decide]; omega)]
  rw [show own_ge c (8592 : Int32) = 0 from own_ge0 (by rw [show ((8592 : Int32)).toInt = 8592 from by decide]; omega)]
  rw [show own_ge c (11264 : Int32) = 0 from own_ge0 (by rw [show ((11264 : Int32)).toInt = 11264 from by decide]; omega)]
  rw [show own_ge c (12272 : Int32) = 0 from own_ge0 (by rw [show ((12272 : Int32)).toInt = 12272 from by decide]; omega)]
  rw [show own_ge c (12289 : Int32) = 0 from own_ge0 (by rw [show ((12289 : Int32)).toInt = 12289 from by decide]; omega)]
  rw [show own_ge c (55296 : Int32) = 0 from own_ge0 (by rw [show ((55296 : Int32)).toInt = 55296 from by decide]; omega)]
  rw [show own_ge c (63744 : Int32) = 0 from own_ge0 (by rw [show ((63744 : Int32)).toInt = 63744 from by decide]; omega)]
  rw [show own_ge c (64976 : Int32) = 0 from own_ge0 (by rw [show ((64976 : Int32)).toInt = 64976 from by decide]; omega)]
  rw [show own_ge c (65008 : Int32) = 0 from own_ge0 (by rw [show ((65008 : Int32)).toInt = 65008 from by decide]; omega)]
  rw [show own_ge c (65534 : Int32) = 0 from own_ge0 (by rw [show ((65534 : Int32)).toInt = 65534 from by decide]; omega)]
  rw [show own_ge c (65536 : Int32) = 0 from own_ge0 (by rw [show ((65536 : Int32)).toInt = 65536 from by decide]; omega)]
  rw [show own_ge c (983040 : Int32) = 0 from own_ge0 (by rw [show ((983040 : Int32)).toInt = 983040 from by decide]; omega)]
  rw [show own_e _ = 0 from by decide]
  show own_f0 c = 0
  rw [own_f0, if_pos (show c < (97 : Int32) from by rw [Int32.lt_iff_toInt_lt, show ((97 : Int32)).toInt = 97 from by decide]; omega)]
  show own_f12 c = 0
  rw [own_f12, if_pos (show c < (65 : Int32) from by rw [Int32.lt_iff_toInt_lt, show ((65 : Int32)).toInt = 65 from by decide]; omega)]
  show own_f24 c = 0
  rw [own_f24, if_neg (show ¬ (c = (95 : Int32)) from by intro q; have q2 := congrArg Int32.toInt q; rw [show ((95 : Int32)).toInt = 95 from by decide] at q2; omega)]
  show own_f30 c = 0
  rw [own_f30, if_pos (show c < (192 : Int32) from by rw [Int32.lt_iff_toInt_lt, show ((192 : Int32)).toInt = 192 from by decide]; omega)]
  show own_f44 c = 0
  rw [own_f44, if_pos (show c < (216 : Int32) from by rw [Int32.lt_iff_toInt_lt, show ((216 : Int32)).toInt = 216 from by decide]; omega)]
  show own_f58 c = 0
  rw [own_f58, if_pos (show c < (248 : Int32) from by rw [Int32.lt_iff_toInt_lt, show ((248 : Int32)).toInt = 248 from by decide]; omega)]
  show own_f72 c = 0
  rw [own_f72, if_pos (show c < (880 : Int32) from by rw [Int32.lt_iff_toInt_lt, show ((880 : Int32)).toInt = 880 from by decide]; omega)]
  show own_f86 c = 0
  rw [own_f86, if_pos (show c < (895 : Int32) from by rw [Int32.lt_iff_toInt_lt, show ((895 : Int32)).toInt = 895 from by decide]; omega)]
  show own_f100 c = 0
  rw [own_f100, if_neg (show ¬ (c = (8204 : Int32)) from by intro q; have q2 := congrArg Int32.toInt q; rw [show ((8204 : Int32)).toInt = 8204 from by decide] at q2; omega)]
  show own_f107 c = 0
  rw [own_f107, if_neg (show ¬ (c = (8205 : Int32)) from by intro q; have q2 := congrArg Int32.toInt q; rw [show ((8205 : Int32)).toInt = 8205 from by decide] at q2; omega)]
  show own_f114 c = 0
  rw [own_f114, if_pos (show c < (8304 : Int32) from by rw [Int32.lt_iff_toInt_lt, show ((8304 : Int32)).toInt = 8304 from by decide]; omega)]
  show own_f128 c = 0
  rw [own_f128, if_pos (show c < (11264 : Int32) from by rw [Int32.lt_iff_toInt_lt, show ((11264 : Int32)).toInt = 11264 from by decide]; omega)]
  show own_f142 c = 0
  rw [own_f142, if_pos (show c < (12289 : Int32) from by rw [Int32.lt_iff_toInt_lt, show ((12289 : Int32)).toInt = 12289 from by decide]; omega)]
  show own_f155 c = 0
  rw [own_f155, if_pos (show c < (63744 : Int32) from by rw [Int32.lt_iff_toInt_lt, show ((63744 : Int32)).toInt = 63744 from by decide]; omega)]
  show own_f167 c = 0
  rw [own_f167, if_pos (show c < (65008 : Int32) from by rw [Int32.lt_iff_toInt_lt, show ((65008 : Int32)).toInt = 65008 from by decide]; omega)]
  show own_f179 c = 0
  rw [own_f179, if_pos (show c < (65536 : Int32) from by rw [Int32.lt_iff_toInt_lt, show ((65536 : Int32)).toInt = 65536 from by decide]; omega)]
theorem own_leaf1 (c : Int32) (h1 : (65 : Int) ≤ c.toInt) (h2 : c.toInt < (91 : Int)) : own_f0 c = own_e ((((((((((((((((((((((((((((((own_ge c (65 : Int32)) + (own_ge c (91 : Int32))) + (own_ge c (95 : Int32))) + (own_ge c (96 : Int32))) + (own_ge c (97 : Int32))) + (own_ge c (123 : Int32))) + (own_ge c (192 : Int32))) + (own_ge c (215 : Int32))) + (own_ge c (216 : Int32))) + (own_ge c (247 : Int32))) + (own_ge c (248 : Int32))) + (own_ge c (768 : Int32))) + (own_ge c (880 : Int32))) + (own_ge c (894 : Int32))) + (own_ge c (895 : Int32))) + (own_ge c (8192 : Int32))) + (own_ge c (8204 : Int32))) + (own_ge c (8206 : Int32))) + (own_ge c (8304 : Int32))) + (own_ge c (8592 : Int32))) + (own_ge c (11264 : Int32))) + (own_ge c (12272 : Int32))) + (own_ge c (12289 : Int32))) + (own_ge c (55296 : Int32))) + (own_ge c (63744 : Int32))) + (own_ge c (64976 : Int32))) + (own_ge c (65008 : Int32))) + (own_ge c (65534 : Int32))) + (own_ge c (65536 : Int32))) + (own_ge c (983040 : Int32))) := by
  rw [show own_ge c (65 : Int32) = 1 from own_ge1 (by rw [show ((65 : Int32)).toInt = 65 from by decide]; omega)]
  rw [show own_ge c (91 : Int32) = 0 from own_ge0 (by rw [show ((91 : Int32)).toInt = 91 from by decide]; omega)]
  rw [show own_ge c (95 : Int32) = 0 from own_ge0 (by rw [show ((95 : Int32)).toInt = 95 from by decide]; omega)]
  rw [show own_ge c (96 : Int32) = 0 from own_ge0 (by rw [show ((96 : Int32)).toInt = 96 from by decide]; omega)]
  rw [show own_ge c (97 : Int32) = 0 from own_ge0 (by rw [show ((97 : Int32)).toInt = 97 from by decide]; omega)]
  rw [show own_ge c (123 : Int32) = 0 from own_ge0 (by rw [show ((123 : Int32)).toInt = 123 from by decide]; omega)]
  rw [show own_ge c (192 : Int32) = 0 from own_ge0 (by rw [show ((192 : Int32)).toInt = 192 from by decide]; omega)]
  rw [show own_ge c (215 : Int32) = 0 from own_ge0 (by rw [show ((215 : Int32)).toInt = 215 from by decide]; omega)]
  rw [show own_ge c (216 : Int32) = 0 from own_ge0 (by rw [show ((216 : Int32)).toInt = 216 from by decide]; omega)]
  rw [show own_ge c (247 : Int32) = 0 from own_ge0 (by rw [show ((247 : Int32)).toInt = 247 from by decide]; omega)]
  rw [show own_ge c (248 : Int32) = 0 from own_ge0 (by rw [show ((248 : Int32)).toInt = 248 from by decide]; omega)]
  rw [show own_ge c (768 : Int32) = 0 from own_ge0 (by rw [show ((768 : Int32)).toInt = 768 from by decide]; omega)]
  rw [show own_ge c (880 : Int32) = 0 from own_ge0 (by rw [show ((880 : Int32)).toInt = 880 from by decide]; omega)]
  rw [show own_ge c (894 : Int32) = 0 from own_ge0 (by rw [show ((894 : Int32)).toInt = 894 from by decide]; omega)]
  rw [show own_ge c (895 : Int32) = 0 from own_ge0 (by rw [show ((895 : Int32)).toInt = 895 from by decide]; omega)]
  rw [show own_ge c (8192 : Int32) = 0 from own_ge0 (by rw [show ((8192 : Int32)).toInt = 8192 from by decide]; omega)]
  rw [show own_ge c (8204 : Int32) = 0 from own_ge0 (by rw [show ((8204 : Int32)).toInt = 8204 from by decide]; omega)]
  rw [show own_ge c (8206 : Int32) = 0 from own_ge0 (by rw [show ((8206 : Int32)).toInt = 8206 from by decide]; omega)]
  rw [show own_ge c (8304 : Int32) = 0 from own_ge0 (by rw [show ((8304 : Int32)).toInt = 8304 from by decide]; omega)]
  rw [show own_ge c (8592 : Int32) = 0 from own_ge0 (by rw [show ((8592 : Int32)).toInt = 8592 from by decide]; omega)]
  rw [show own_ge c (11264 : Int32) = 0 from own_ge0 (by rw [show ((11264 : Int32)).toInt = 11264 from by decide]; omega)]
  rw [show own_ge c (12272 : Int32) = 0 from own_ge0 (by rw [show ((12272 : Int32)).toInt = 12272 from by decide]; omega)]
  rw [show own_ge c (12289 : Int32) = 0 from own_ge0 (by rw [show ((12289 : Int32)).toInt = 12289 from by decide]; omega)]
  rw [show own_ge c (55296 : Int32) = 0 from own_ge0 (by rw [show ((55296 : Int32)).toInt = 55296 from by decide]; omega)]
  rw [show own_ge c (63744 : Int32) = 0 from own_ge0 (by rw [show ((63744 : Int32)).toInt = 63744 from by decide]; omega)]
  rw [show own_ge c (64976 : Int32) = 0 from own_ge0 (by rw [show ((64976 : Int32)).toInt = 64976 from by decide]; omega)]
  rw [show own_ge c (65008 : Int32) = 0 from own_ge0 (by rw [show ((65008 : Int32)).toInt = 65008 from by decide]; omega)]
  rw [show own_ge c (65534 : Int32) = 0 from own_ge0 (by rw [show ((65534 : Int32)).toInt = 65534 from by decide]; omega)]
  rw [show own_ge c (65536 : Int32) = 0 from own_ge0 (by rw [show ((65536 : Int32)).toInt = 65536 from by decide]; omega)]
  rw [show own_ge c (983040 : Int32) = 0 from own_ge0 (by rw [show ((983040 : Int32)).toInt = 983040 from by decide]; omega)]
  rw [show own_e _ = 1 from by decide]
  show own_f0 c = 1
  rw [own_f0, if_pos (show c < (97 : Int32) from by rw [Int32.lt_iff_toInt_lt, show ((97 : Int32)).toInt = 97 from by decide]; omega)]
  show own_f12 c = 1
  rw [own_f12, if_neg (show ¬ (c < (65 : Int32)) from by rw [Int32.lt_iff_toInt_lt, show ((65 : Int32)).toInt = 65 from by decide]; omega)]
  show own_f18 c = 1
  rw [own_f18, if_neg (show ¬ ((90 : Int32) < c) from by rw [Int32.lt_iff_toInt_lt, show ((90 : Int32)).toInt = 90 from by decide]; omega)]
theorem own_leaf2 (c : Int32) (h1 : (91 : Int) ≤ c.toInt) (h2 : c.toInt < (95 : Int)) : own_f0 c = own_e ((((((((((((((((((((((((((((((own_ge c (65 : Int32)) + (own_ge c (91 : Int32))) + (own_ge c (95 : Int32))) + (own_ge c (96 : Int32))) + (own_ge c (97 : Int32))) + (own_ge c (123 : Int32))) + (own_ge c (192 : Int32))) + (own_ge c (215 : Int32))) + (own_ge c (216 : Int32))) + (own_ge c (247 : Int32))) + (own_ge c (248 : Int32))) + (own_ge c (768 : Int32))) + (own_ge c (880 : Int32))) + (own_ge c (894 : Int32))) + (own_ge c (895 : Int32))) + (own_ge c (8192 : Int32))) + (own_ge c (8204 : Int32))) + (own_ge c (8206 : Int32))) + (own_ge c (8304 : Int32))) + (own_ge c (8592 : Int32))) + (own_ge c (11264 : Int32))) + (own_ge c (12272 : Int32))) + (own_ge c (12289 : Int32))) + (own_ge c (55296 : Int32))) + (own_ge c (63744 : Int32))) + (own_ge c (64976 : Int32))) + (own_ge c (65008 : Int32))) + (own_ge c (65534 : Int32))) + (own_ge c (65536 : Int32))) + (own_ge c (983040 : Int32))) := by
  rw [show own_ge c (65 : Int32) = 1 from own_ge1 (by rw [show ((65 : Int32)).toInt = 65 from by decide]; omega)]
  rw [show own_ge c (91 : Int32) = 1 from own_ge1 (by rw [show ((91 : Int32)).toInt = 91 from by decide]; omega)]
  rw [show own_ge c (95 : Int32) = 0 from own_ge0 (by rw [show ((95 : Int32)).toInt = 95 from by decide]; omega)]
  rw [show own_ge c (96 : Int32) = 0 from own_ge0 (by rw [show ((96 : Int32)).toInt = 96 from by decide]; omega)]
  rw [show own_ge c (97 : Int32) = 0 from own_ge0 (by rw [show ((97 : Int32)).toInt = 97 from by decide]; omega)]
  rw [show own_ge c (123 : Int32) = 0 from own_ge0 (by rw [show ((123 : Int32)).toInt = 123 from by decide]; omega)]
  rw [show own_ge c (192 : Int32) = 0 from own_ge0 (by rw [show ((192 : Int32)).toInt = 192 from by decide]; omega)]
  rw [show own_ge c (215 : Int32) = 0 from own_ge0 (by rw [show ((215 : Int32)).toInt = 215 from by decide]; omega)]
  rw [show own_ge c (216 : Int32) = 0 from own_ge0 (by rw [show ((216 : Int32)).toInt = 216 from by decide]; omega)]
  rw [show own_ge c (247 : Int32) = 0 from own_ge0 (by rw [show ((247 : Int32)).toInt = 247 from by decide]; omega)]
  rw [show own_ge c (248 : Int32) = 0 from own_ge0 (by rw [show ((248 : Int32)).toInt = 248 from by decide]; omega)]
  rw [show own_ge c (768 : Int32) = 0 from own_ge0 (by rw [show ((768 : Int32)).toInt = 768 from by decide]; omega)]
  rw [show own_ge c (880 : Int32) = 0 from own_ge0 (by rw [show ((880 : Int32)).toInt = 880 from by decide]; omega)]
  rw [show own_ge c (894 : Int32) = 0 from own_ge0 (by rw [show ((894 : Int32)).toInt = 894 from by decide]; omega)]
  rw [show own_ge c (895 : Int32) = 0 from own_ge0 (by rw [show ((895 : Int32)).toInt = 895 from by decide]; omega)]
  rw [show own_ge c (8192 : Int32) = 0 from own_ge0 (by rw [show ((8192 : Int32)).toInt = 8192 from by decide]; omega)]
  rw [show own_ge c (8204 : Int32) = 0 from own_ge0 (by rw [show ((8204 : Int32)).toInt = 8204 from by decide]; omega)]
  rw [show own_ge c (8206 : Int32) = 0 from own_ge0 (by rw [show ((8206 : Int32)).toInt = 8206 from by decide]; omega)]
  rw [show own_ge c (8304 : Int32) = 0 from own_ge0 (by rw [show ((8304 : Int32)).toInt = 8304 from by decide]; omega)]
  rw [show own_ge c (8592 : Int32) = 0 from own_ge0 (by rw [show ((8592 : Int32)).toInt = 8592 from by decide]; omega)]
  rw [show own_ge c (11264 : Int32) = 0 from own_ge0 (by rw [show ((11264 : Int32)).toInt = 11264 from by decide]; omega)]
  rw [show own_ge c (12272 : Int32) = 0 from own_ge0 (by rw [show ((12272 : Int32)).toInt = 12272 from by decide]; omega)]
  rw [show own_ge c (12289 : Int32) = 0 from own_ge0 (by rw [show ((12289 : Int32)).toInt = 12289 from by decide]; omega)]
  rw [show own_ge c (55296 : Int32) = 0 from own_ge0 (by rw [show ((55296 : Int32)).toInt = 55296 from by decide]; omega)]
  rw [show own_ge c (63744 : Int32) = 0 from own_ge0 (by rw [show ((63744 : Int32)).toInt = 63744 from by decide]; omega)]
  rw [show own_ge c (64976 : Int32) = 0 from own_ge0 (by rw [show ((64976 : Int32)).toInt = 64976 from by decide]; omega)]
  rw [show own_ge c (65008 : Int32) = 0 from own_ge0 (by rw [show ((65008 : Int32)).toInt = 65008 from by decide]; omega)]
  rw [show own_ge c (65534 : Int32) = 0 from own_ge0 (by rw [show ((65534 : Int32)).toInt = 65534 from by decide]; omega)]
  rw [show own_ge c (65536 : Int32) = 0 from own_ge0 (by rw [show ((65536 : Int32)).toInt = 65536 from by decide]; omega)]
  rw [show own_ge c (983040 : Int32) = 0 from own_ge0 (by rw [show ((983040 : Int32)).toInt = 983040 from by decide]; omega)]
  rw [show own_e _ = 0 from by decide]
  show own_f0 c = 0
  rw [own_f0, if_pos (show c < (97 : Int32) from by rw [Int32.lt_iff_toInt_lt, show ((97 : Int32)).toInt = 97 from by decide]; omega)]
  show own_f12 c = 0
  rw [own_f12, if_neg (show ¬ (c < (65 : Int32)) from by rw [Int32.lt_iff_toInt_lt, show ((65 : Int32)).toInt = 65 from by decide]; omega)]
  show own_f18 c = 0
  rw [own_f18, if_pos (show (90 : Int32) < c from by rw [Int32.lt_iff_toInt_lt, show ((90 : Int32)).toInt = 90 from by decide]; omega)]
  show own_f24 c = 0
  rw [own_f24, if_neg (show ¬ (c = (95 : Int32)) from by intro q; have q2 := congrArg Int32.toInt q; rw [show ((95 : Int32)).toInt = 95 from by decide] at q2; omega)]
  show own_f30 c = 0
  rw [own_f30, if_pos (show c < (192 : Int32) from by rw [Int32.lt_iff_toInt_lt, show ((192 : Int32)).toInt = 192 from by decide]; omega)]
  show own_f44 c = 0
  rw [own_f44, if_pos (show c < (216 : Int32) from by rw [Int32.lt_iff_toInt_lt, show ((216 : Int32)).toInt = 216 from by decide]; omega)]
  show own_f58 c = 0
  rw [own_f58, if_pos (show c < (248 : Int32) from by rw [Int32.lt_iff_toInt_lt, show ((248 : Int32)).toInt = 248 from by decide]; omega)]
  show own_f72 c = 0
  rw [own_f72, if_pos (show c < (880 : Int32) from by rw [Int32.lt_iff_toInt_lt, show ((880 : Int32)).toInt = 880 from by decide]; omega)]
  show own_f86 c = 0
  rw [own_f86, if_pos (show c < (895 : Int32) from by rw [Int32.lt_iff_toInt_lt, show ((895 : Int32)).toInt = 895 from by decide]; omega)]
  show own_f100 c = 0
  rw [own_f100, if_neg (show ¬ (c = (8204 : Int32)) from by intro q; have q2 := congrArg Int32.toInt q; rw [show ((8204 : Int32)).toInt = 8204 from by decide] at q2; omega)]
  show own_f107 c = 0
  rw [own_f107, if_neg (show ¬ (c = (8205 : Int32)) from by intro q; have q2 := congrArg Int32.toInt q; rw [show ((8205 : Int32)).toInt = 8205 from by decide] at q2; omega)]
  show own_f114 c = 0
  rw [own_f114, if_pos (show c < (8304 : Int32) from by rw [Int32.lt_iff_toInt_lt, show ((8304 : Int32)).toInt = 8304 from by decide]; omega)]
  show own_f128 c = 0
  rw [own_f128, if_pos (show c < (11264 : Int32) from by rw [Int32.lt_iff_toInt_lt, show ((11264 : Int32)).toInt = 11264 from by decide]; omega)]
  show own_f142 c = 0
  rw [own_f142, if_pos (show c < (12289 : Int32) from by rw [Int32.lt_iff_toInt_lt, show ((12289 : Int32)).toInt = 12289 from by decide]; omega)]
  show own_f155 c = 0
  rw [own_f155, if_pos (show c < (63744 : Int32) from by rw [Int32.lt_iff_toInt_lt, show ((63744 : Int32)).toInt = 63744 from by decide]; omega)]
  show own_f167 c = 0
  rw [own_f167, if_pos (show c < (65008 : Int32) from by rw [Int32.lt_iff_toInt_lt, show ((65008 : Int32)).toInt = 65008 from by decide]; omega)]
  show own_f179 c = 0
  rw [own_f179, if_pos (show c < (65536 : Int32) from by rw [Int32.lt_iff_toInt_lt, show ((65536 : Int32)).toInt = 65536 from by decide]; omega)]
theorem own_leaf3 (c : Int32) (h1 : (95 : Int) ≤ c.toInt) (h2 : c.toInt < (96 : Int)) : own_f0 c = own_e ((((((((((((((((((((((((((((((own_ge c (65 : Int32)) + (own_ge c (91 : Int32))) + (own_ge c (95 : Int32))) + (own_ge c (96 : Int32))) + (own_ge c (97 : Int32))) + (own_ge c (123 : Int32))) + (own_ge c (192 : Int32))) + (own_ge c (215 : Int32))) + (own_ge c (216 : Int32))) + (own_ge c (247 : Int32))) + (own_ge c (248 : Int32))) + (own_ge c (768 : Int32))) + (own_ge c (880 : Int32))) + (own_ge c (894 : Int32))) + (own_ge c (895 : Int32))) + (own_ge c (8192 : Int32))) + (own_ge c (8204 : Int32))) + (own_ge c (8206 : Int32))) + (own_ge c (8304 : Int32))) + (own_ge c (8592 : Int32))) + (own_ge c (11264 : Int32))) + (own_ge c (12272 : Int32))) + (own_ge c (12289 : Int32))) + (own_ge c (55296 : Int32))) + (own_ge c (63744 : Int32))) + (own_ge c (64976 : Int32))) + (own_ge c (65008 : Int32))) + (own_ge c (65534 : Int32))) + (own_ge c (65536 : Int32))) + (own_ge c (983040 : Int32))) := by
  rw [show own_ge c (65 : Int32) = 1 from own_ge1 (by rw [show ((65 : Int32)).toInt = 65 from by decide]; omega)]
  rw [show own_ge c (91 : Int32) = 1 from own_ge1 (by rw [show ((91 : Int32)).toInt = 91 from by decide]; omega)]
  rw [show own_ge c (95 : Int32) = 1 from own_ge1 (by rw [show ((95 : Int32)).toInt = 95 from by decide]; omega)]
  rw [show own_ge c (96 : Int32) = 0 from own_ge0 (by rw [show ((96 : Int32)).toInt = 96 from by decide]; omega)]
  rw [show own_ge c (97 : Int32) = 0 from own_ge0 (by rw [show ((97 : Int32)).toInt = 97 from by decide]; omega)]
  rw [show own_ge c (123 : Int32) = 0 from own_ge0 (by rw [show ((123 : Int32)).toInt = 123 from by decide]; omega)]
  rw [show own_ge c (192 : Int32) = 0 from own_ge0 (by rw [show ((192 : Int32)).toInt = 192 from by decide]; omega)]
  rw [show own_ge c (215 : Int32) = 0 from own_ge0 (by rw [show ((215 : Int32)).toInt = 215 from by decide]; omega)]
  rw [show own_ge c (216 : Int32) = 0 from own_ge0 (by rw [show ((216 : Int32)).toInt = 216 from by decide]; omega)]
  rw [show own_ge c (247 : Int32) = 0 from own_ge0 (by rw [show ((247 : Int32)).toInt = 247 from by decide]; omega)]
  rw [show own_ge c (248 : Int32) = 0 from own_ge0 (by rw [show ((248 : Int32)).toInt = 248 from by decide]; omega)]
  rw [show own_ge c (768 : Int32) = 0 from own_ge0 (by rw [show ((768 : Int32)).toInt = 768 from by decide]; omega)]
  rw [show own_ge c (880 : Int32) = 0 from own_ge0 (by rw [show ((880 : Int32)).toInt = 880 from by decide]; omega)]
  rw [show own_ge c (894 : Int32) = 0 from own_ge0 (by rw [show ((894 : Int32)).toInt = 894 from by decide]; omega)]
  rw [show own_ge c (895 : Int32) = 0 from own_ge0 (by rw [show ((895 : Int32)).toInt = 895 from by decide]; omega)]
  rw [show own_ge c (8192 : Int32) = 0 from own_ge0 (by rw [show ((8192 : Int32)).toInt = 8192 from by decide]; omega)]
  rw [show own_ge c (8204 : Int32) = 0 from own_ge0 (by rw [show ((8204 : Int32)).toInt = 8204 from by decide]; omega)]
  rw [show own_ge c (8206 : Int32) = 0 from own_ge0 (by rw [show ((8206 : Int32)).toInt = 8206 from by decide]; omega)]
  rw [show own_ge c (8304 : Int32) = 0 from own_ge0 (by rw [show ((8304 : Int32)).toInt = 8304 from by decide]; omega)]
  rw [show own_ge c (8592 : Int32) = 0 from own_ge0 (by rw [show ((8592 : Int32)).toInt = 8592 from by decide]; omega)]
  rw [show own_ge c (11264 : Int32) = 0 from own_ge0 (by rw [show ((11264 : Int32)).toInt = 11264 from by decide]; omega)]
  rw [show own_ge c (12272 : Int32) = 0 from own_ge0 (by rw [show ((12272 : Int32)).toInt = 12272 from by decide]; omega)]
  rw [show own_ge c (12289 : Int32) = 0 from own_ge0 (by rw [show ((12289 : Int32)).toInt = 12289 from by decide]; omega)]
  rw [show own_ge c (55296 : Int32) = 0 from own_ge0 (by rw [show ((55296 : Int32)).toInt = 55296 from by decide]; omega)]
  rw [show own_ge c (63744 : Int32) = 0 from own_ge0 (by rw [show ((63744 : Int32)).toInt = 63744 from by decide]; omega)]
  rw [show own_ge c (64976 : Int32) = 0 from own_ge0 (by rw [show ((64976 : Int32)).toInt = 64976 from by decide]; omega)]
  rw [show own_ge c (65008 : Int32) = 0 from own_ge0 (by rw [show ((65008 : Int32)).toInt = 65008 from by decide]; omega)]
  rw [show own_ge c (65534 : Int32) = 0 from own_ge0 (by rw [show ((65534 : Int32)).toInt = 65534 from by decide]; omega)]
  rw [show own_ge c (65536 : Int32) = 0 from own_ge0 (by rw [show ((65536 : Int32)).toInt = 65536 from by decide]; omega)]
  rw [show own_ge c (983040 : Int32) = 0 from own_ge0 (by rw [show ((983040 : Int32)).toInt = 983040 from by decide]; omega)]
  rw [show own_e _ = 1 from by decide]
  show own_f0 c = 1
  rw [own_f0, if_pos (show c < (97 : Int32) from by rw [Int32.lt_iff_toInt_lt, show ((97 : Int32)).toInt = 97 from by decide]; omega)]
  show own_f12 c = 1
  rw [own_f12, if_neg (show ¬ (c < (65 : Int32)) from by rw [Int32.lt_iff_toInt_lt, show ((65 : Int32)).toInt = 65 from by decide]; omega)]
  show own_f18 c = 1
  rw [own_f18, if_pos (show (90 : Int32) < c from by rw [Int32.lt_iff_toInt_lt, show ((90 : Int32)).toInt = 90 from by decide]; omega)]
  show own_f24 c = 1
  rw [own_f24, if_pos (show c = (95 : Int32) from by apply Int32.toInt_inj.mp; rw [show ((95 : Int32)).toInt = 95 from by decide]; omega)]
theorem own_leaf4 (c : Int32) (h1 : (96 : Int) ≤ c.toInt) (h2 : c.toInt < (97 : Int)) : own_f0 c = own_e ((((((((((((((((((((((((((((((own_ge c (65 : Int32)) + (own_ge c (91 : Int32))) + (own_ge c (95 : Int32))) + (own_ge c (96 : Int32))) + (own_ge c (97 : Int32))) + (own_ge c (123 : Int32))) + (own_ge c (192 : Int32))) + (own_ge c (215 : Int32))) + (own_ge c (216 : Int32))) + (own_ge c (247 : Int32))) + (own_ge c (248 : Int32))) + (own_ge c (768 : Int32))) + (own_ge c (880 : Int32))) + (own_ge c (894 : Int32))) + (own_ge c (895 : Int32))) + (own_ge c (8192 : Int32))) + (own_ge c (8204 : Int32))) + (own_ge c (8206 : Int32))) + (own_ge c (8304 : Int32))) + (own_ge c (8592 : Int32))) + (own_ge c (11264 : Int32))) + (own_ge c (12272 : Int32))) + (own_ge c (12289 : Int32))) + (own_ge c (55296 : Int32))) + (own_ge c (63744 : Int32))) + (own_ge c (64976 : Int32))) + (own_ge c (65008 : Int32))) + (own_ge c (65534 : Int32))) + (own_ge c (65536 : Int32))) + (own_ge c (983040 : Int32))) := by
  rw [show own_ge c (65 : Int32) = 1 from own_ge1 (by rw [show ((65 : Int32)).toInt = 65 from by decide]; omega)]
  rw [show own_ge c (91 : Int32) = 1 from own_ge1 (by rw [show ((91 : Int32)).toInt = 91 from by decide]; omega)]
  rw [show own_ge c (95 : Int32) = 1 from own_ge1 (by rw [show ((95 : Int32)).toInt = 95 from by decide]; omega)]
  rw [show own_ge c (96 : Int32) = 1 from own_ge1 (by rw [show ((96 : Int32)).toInt = 96 from by decide]; omega)]
  rw [show own_ge c (97 : Int32) = 0 from own_ge0 (by rw [show ((97 : Int32)).toInt = 97 from by decide]; omega)]
  rw [show own_ge c (123 : Int32) = 0 from own_ge0 (by rw [show ((123 : Int32)).toInt = 123 from by decide]; omega)]
  rw [show own_ge c (192 : Int32) = 0 from own_ge0 (by rw [show ((192 : Int32)).toInt = 192 from by decide]; omega)]
  rw [show own_ge c (215 : Int32) = 0 from own_ge0 (by rw [show ((215 : Int32)).toInt = 215 from by decide]; omega)]
  rw [show own_ge c (216 : Int32) = 0 from own_ge0 (by rw [show ((216 : Int32)).toInt = 216 from by decide]; omega)]
  rw [show own_ge c (247 : Int32) = 0 from own_ge0 (by rw [show ((247 : Int32)).toInt = 247 from by decide]; omega)]
  rw [show own_ge c (248 : Int32) = 0 from own_ge0 (by rw [show ((248 : Int32)).toInt = 248 from by decide]; omega)]
  rw [show own_ge c (768 : Int32) = 0 from own_ge0 (by rw [show ((768 : Int32)).toInt = 768 from by decide]; omega)]
  rw [show own_ge c (880 : Int32) = 0 from own_ge0 (by rw [show ((880 : Int32)).toInt = 880 from by decide]; omega)]
  rw [show own_ge c (894 : Int32) = 0 from own_ge0 (by rw [show ((894 : Int32)).toInt = 894 from by decide]; omega)]
  rw [show own_ge c (895 : Int32) = 0 from own_ge0 (by rw [show ((895 : Int32)).toInt = 895 from by decide]; omega)]
  rw [show own_ge c (8192 : Int32) = 0 from own_ge0 (by rw [show ((8192 : Int32)).toInt = 8192 from by decide]; omega)]
  rw [show own_ge c (8204 : Int32) = 0 from own_ge0 (by rw [show ((8204 : Int32)).toInt = 8204 from by decide]; omega)]
  rw [show own_ge c (8206 : Int32) = 0 from own_ge0 (by rw [show ((8206 : Int32)).toInt = 8206 from by decide]; omega)]
  rw [show own_ge c (8304 : Int32) = 0 from own_ge0 (by rw [show ((8304 : Int32)).toInt = 8304 from by decide]; omega)]
  rw [show own_ge c (8592 : Int32) = 0 from own_ge0 (by rw [show ((8592 : Int32)).toInt = 8592 from by decide]; omega)]
  rw [show own_ge c (11264 : Int32) = 0 from own_ge0 (by rw [show ((11264 : Int32)).toInt = 11264 from by decide]; omega)]
  rw [show own_ge c (12272 : Int32) = 0 from own_ge0 (by rw [show ((12272 : Int32)).toInt = 12272 from by decide]; omega)]
  rw [show own_ge c (12289 : Int32) = 0 from own_ge0 (by rw [show ((12289 : Int32)).toInt = 12289 from by decide]; omega)]
  rw [show own_ge c (55296 : Int32) = 0 from own_ge0 (by rw [show ((55296 : Int32)).toInt = 55296 from by decide]; omega)]
  rw [show own_ge c (63744 : Int32) = 0 from own_ge0 (by rw [show ((63744 : Int32)).toInt = 63744 from by decide]; omega)]
  rw [show own_ge c (64976 : Int32) = 0 from own_ge0 (by rw [show ((64976 : Int32)).toInt = 64976 from by decide]; omega)]
  rw [show own_ge c (65008 : Int32) = 0 from own_ge0 (by rw [show ((65008 : Int32)).toInt = 65008 from by decide]; omega)]
  rw [show own_ge c (65534 : Int32) = 0 from own_ge0 (by rw [show ((65534 : Int32)).toInt = 65534 from by decide]; omega)]
  rw [show own_ge c (65536 : Int32) = 0 from own_ge0 (by rw [show ((65536 : Int32)).toInt = 65536 from by decide]; omega)]
  rw [show own_ge c (983040 : Int32) = 0 from own_ge0 (by rw [show ((983040 : Int32)).toInt = 983040 from by decide]; omega)]
  rw [show own_e _ = 0 from by decide]
  show own_f0 c = 0
  rw [own_f0, if_pos (show c < (97 : Int32) from by rw [Int32.lt_iff_toInt_lt, show ((97 : Int32)).toInt = 97 from by decide]; omega)]
  show own_f12 c = 0
  rw [own_f12, if_neg (show ¬ (c < (65 : Int32)) from by rw [Int32.lt_iff_toInt_lt, show ((65 : Int32)).toInt = 65 from by decide]; omega)]
  show own_f18 c = 0
  rw [own_f18, if_pos (show (90 : Int32) < c from by rw [Int32.lt_iff_toInt_lt, show ((90 : Int32)).toInt = 90 from by decide]; omega)]
  show own_f24 c = 0
  rw [own_f24, if_neg (show ¬ (c = (95 : Int32)) from by intro q; have q2 := congrArg Int32.toInt q; rw [show ((95 : Int32)).toInt = 95 from by decide] at q2; omega)]
  show own_f30 c = 0
  rw [own_f30, if_pos (show c < (192 : Int32) from by rw [Int32.lt_iff_toInt_lt, show ((192 : Int32)).toInt = 192 from by decide]; omega)]
  show own_f44 c = 0
  rw [own_f44, if_pos (show c < (216 : Int32) from by rw [Int32.lt_iff_toInt_lt, show ((216 : Int32)).toInt = 216 from by decide]; omega)]
  show own_f58 c = 0
  rw [own_f58, if_pos (show c < (248 : Int32) from by rw [Int32.lt_iff_toInt_lt, show ((248 : Int32)).toInt = 248 from by decide]; omega)]
  show own_f72 c = 0
  rw [own_f72, if_pos (show c < (880 : Int32) from by rw [Int32.lt_iff_toInt_lt, show ((880 : Int32)).toInt = 880 from by decide]; omega)]
  show own_f86 c = 0
  rw [own_f86, if_pos (show c < (895 : Int32) from by rw [Int32.lt_iff_toInt_lt, show ((895 : Int32)).toInt = 895 from by decide]; omega)]
  show own_f100 c = 0
  rw [own_f100, if_neg (show ¬ (c = (8204 : Int32)) from by intro q; have q2 := congrArg Int32.toInt q; rw [show ((8204 : Int32)).toInt = 8204 from by decide] at q2; omega)]
  show own_f107 c = 0
  rw [own_f107, if_neg (show ¬ (c = (8205 : Int32)) from by intro q; have q2 := congrArg Int32.toInt q; rw [show ((8205 : Int32)).toInt = 8205 from by decide] at q2; omega)]
  show own_f114 c = 0
  rw [own_f114, if_pos (show c < (8304 : Int32) from by rw [Int32.lt_iff_toInt_lt, show ((8304 : Int32)).toInt = 8304 from by decide]; omega)]
  show own_f128 c = 0
  rw [own_f128, if_pos (show c < (11264 : Int32) from by rw [Int32.lt_iff_toInt_lt, show ((11264 : Int32)).toInt = 11264 from by decide]; omega)]
  show own_f142 c = 0
  rw [own_f142, if_pos (show c < (12289 : Int32) from by rw [Int32.lt_iff_toInt_lt, show ((12289 : Int32)).toInt = 12289 from by decide]; omega)]
  show own_f155 c = 0
  rw [own_f155, if_pos (show c < (63744 : Int32) from by rw [Int32.lt_iff_toInt_lt, show ((63744 : Int32)).toInt = 63744 from by decide]; omega)]
  show own_f167 c = 0
  rw [own_f167, if_pos (show c < (65008 : Int32) from by rw [Int32.lt_iff_toInt_lt, show ((65008 : Int32)).toInt = 65008 from by decide]; omega)]
  show own_f179 c = 0
  rw [own_f179, if_pos (show c < (65536 : Int32) from by rw [Int32.lt_iff_toInt_lt, show ((65536 : Int32)).toInt = 65536 from by decide]; omega)]
theorem own_leaf5 (c : Int32) (h1 : (97 : Int) ≤ c.toInt) (h2 : c.toInt < (123 : Int)) : own_f0 c = own_e ((((((((((((((((((((((((((((((own_ge c (65 : Int32)) + (own_ge c (91 : Int32))) + (own_ge c (95 : Int32))) + (own_ge c (96 : Int32))) + (own_ge c (97 : Int32))) + (own_ge c (123 : Int32))) + (own_ge c (192 : Int32))) + (own_ge c (215 : Int32))) + (own_ge c (216 : Int32))) + (own_ge c (247 : Int32))) + (own_ge c (248 : Int32))) + (own_ge c (768 : Int32))) + (own_ge c (880 : Int32))) + (own_ge c (894 : Int32))) + (own_ge c (895 : Int32))) + (own_ge c (8192 : Int32))) + (own_ge c (8204 : Int32))) + (own_ge c (8206 : Int32))) + (own_ge c (8304 : Int32))) + (own_ge c (8592 : Int32))) + (own_ge c (11264 : Int32))) + (own_ge c (12272 : Int32))) + (own_ge c (12289 : Int32))) + (own_ge c (55296 : Int32))) + (own_ge c (63744 : Int32))) + (own_ge c (64976 : Int32))) + (own_ge c (65008 : Int32))) + (own_ge c (65534 : Int32))) + (own_ge c (65536 : Int32))) + (own_ge c (983040 : Int32))) := by
  rw [show own_ge c (65 : Int32) = 1 from own_ge1 (by rw [show ((65 : Int32)).toInt = 65 from by decide]; omega)]
  rw [show own_ge c (91 : Int32) = 1 from own_ge1 (by rw [show ((91 : Int32)).toInt = 91 from by decide]; omega)]
  rw [show own_ge c (95 : Int32) = 1 from own_ge1 (by rw [show ((95 : Int32)).toInt = 95 from by decide]; omega)]
  rw [show own_ge c (96 : Int32) = 1 from own_ge1 (by rw [show ((96 : Int32)).toInt = 96 from by decide]; omega)]
  rw [show own_ge c (97 : Int32) = 1 from own_ge1 (by rw [show ((97 : Int32)).toInt = 97 from by decide]; omega)]
  rw [show own_ge c (123 : Int32) = 0 from own_ge0 (by rw [show ((123 : Int32)).toInt = 123 from by decide]; omega)]
  rw [show own_ge c (192 : Int32) = 0 from own_ge0 (by rw [show ((192 : Int32)).toInt = 192 from by decide]; omega)]
  rw [show own_ge c (215 : Int32) = 0 from own_ge0 (by rw [show ((215 : Int32)).toInt = 215 from by decide]; omega)]
  rw [show own_ge c (216 : Int32) = 0 from own_ge0 (by rw [show ((216 : Int32)).toInt = 216 from by decide]; omega)]
  rw [show own_ge c (247 : Int32) = 0 from own_ge0 (by rw [show ((247 : Int32)).toInt = 247 from by decide]; omega)]
  rw [show own_ge c (248 : Int32) = 0 from own_ge0 (by rw [show ((248 : Int32)).toInt = 248 from by decide]; omega)]
  rw [show own_ge c (768 : Int32) = 0 from own_ge0 (by rw [show ((768 : Int32)).toInt = 768 from by decide]; omega)]
  rw [show own_ge c (880 : Int32) = 0 from own_ge0 (by rw [show ((880 : Int32)).toInt = 880 from by decide]; omega)]
  rw [show own_ge c (894 : Int32) = 0 from own_ge0 (by rw [show ((894 : Int32)).toInt = 894 from by decide]; omega)]
  rw [show own_ge c (895 : Int32) = 0 from own_ge0 (by rw [show ((895 : Int32)).toInt = 895 from by decide]; omega)]
  rw [show own_ge c (8192 : Int32) = 0 from own_ge0 (by rw [show ((8192 : Int32)).toInt = 8192 from by decide]; omega)]
  rw [show own_ge c (8204 : Int32) = 0 from own_ge0 (by rw [show ((8204 : Int32)).toInt = 8204 from by decide]; omega)]
  rw [show own_ge c (8206 : Int32) = 0 from own_ge0 (by rw [show ((8206 : Int32)).toInt = 8206 from by decide]; omega)]
  rw [show own_ge c (8304 : Int32) = 0 from own_ge0 (by rw [show ((8304 : Int32)).toInt = 8304 from by decide]; omega)]
  rw [show own_ge c (8592 : Int32) = 0 from own_ge0 (by rw [show ((8592 : Int32)).toInt = 8592 from by decide]; omega)]
  rw [show own_ge c (11264 : Int32) = 0 from own_ge0 (by rw [show ((11264 : Int32)).toInt = 11264 from by decide]; omega)]
  rw [show own_ge c (12272 : Int32) = 0 from own_ge0 (by rw [show ((12272 : Int32)).toInt = 12272 from by decide]; omega)]
  rw [show own_ge c (12289 : Int32) = 0 from own_ge0 (by rw [show ((12289 : Int32)).toInt = 12289 from by decide]; omega)]
  rw [show own_ge c (55296 : Int32) = 0 from own_ge0 (by rw [show ((55296 : Int32)).toInt = 55296 from by decide]; omega)]
  rw [show own_ge c (63744 : Int32) = 0 from own_ge0 (by rw [show ((63744 : Int32)).toInt = 63744 from by decide]; omega)]
  rw [show own_ge c (64976 : Int32) = 0 from own_ge0 (by rw [show ((64976 : Int32)).toInt = 64976 from by decide]; omega)]
  rw [show own_ge c (65008 : Int32) = 0 from own_ge0 (by rw [show ((65008 : Int32)).toInt = 65008 from by decide]; omega)]
  rw [show own_ge c (65534 : Int32) = 0 from own_ge0 (by rw [show ((65534 : Int32)).toInt = 65534 from by decide]; omega)]
  rw [show own_ge c (65536 : Int32) = 0 from own_ge0 (by rw [show ((65536 : Int32)).toInt = 65536 from by decide]; omega)]
  rw [show own_ge c (983040 : Int32) = 0 from own_ge0 (by rw [show ((983040 : Int32)).toInt = 983040 from by decide]; omega)]
  rw [show own_e _ = 1 from by decide]
  show own_f0 c = 1
  rw [own_f0, if_neg (show ¬ (c < (97 : Int32)) from by rw [Int32.lt_iff_toInt_lt, show ((97 : Int32)).toInt = 97 from by decide]; omega)]
  show own_f6 c = 1
  rw [own_f6, if_neg (show ¬ ((122 : Int32) < c) from by rw [Int32.lt_iff_toInt_lt, show ((122 : Int32)).toInt = 122 from by decide]; omega)]
theorem own_leaf6 (c : Int32) (h1 : (123 : Int) ≤ c.toInt) (h2 : c.toInt < (192 : Int)) : own_f0 c = own_e ((((((((((((((((((((((((((((((own_ge c (65 : Int32)) + (own_ge c (91 : Int32))) + (own_ge c (95 : Int32))) + (own_ge c (96 : Int32))) + (own_ge c (97 : Int32))) + (own_ge c (123 : Int32))) + (own_ge c (192 : Int32))) + (own_ge c (215 : Int32))) + (own_ge c (216 : Int32))) + (own_ge c (247 : Int32))) + (own_ge c (248 : Int32))) + (own_ge c (768 : Int32))) + (own_ge c (880 : Int32))) + (own_ge c (894 : Int32))) + (own_ge c (895 : Int32))) + (own_ge c (8192 : Int32))) + (own_ge c (8204 : Int32))) + (own_ge c (8206 : Int32))) + (own_ge c (8304 : Int32))) + (own_ge c (8592 : Int32))) + (own_ge c (11264 : Int32))) + (own_ge c (12272 : Int32))) + (own_ge c (12289 : Int32))) + (own_ge c (55296 : Int32))) + (own_ge c (63744 : Int32))) + (own_ge c (64976 : Int32))) + (own_ge c (65008 : Int32))) + (own_ge c (65534 : Int32))) + (own_ge c (65536 : Int32))) + (own_ge c (983040 : Int32))) := by
  rw [show own_ge c (65 : Int32) = 1 from own_ge1 (by rw [show ((65 : Int32)).toInt = 65 from by decide]; omega)]
  rw [show own_ge c (91 : Int32) = 1 from own_ge1 (by rw [show ((91 : Int32)).toInt = 91 from by decide]; omega)]
  rw [show own_ge c (95 : Int32) = 1 from own_ge1 (by rw [show ((95 : Int32)).toInt = 95 from by decide]; omega)]
  rw [show own_ge c (96 : Int32) = 1 from own_ge1 (by rw [show ((96 : Int32)).toInt = 96 from by decide]; omega)]
  rw [show own_ge c (97 : Int32) = 1 from own_ge1 (by rw [show ((97 : Int32)).toInt = 97 from by decide]; omega)]
  rw [show own_ge c (123 : Int32) = 1 from own_ge1 (by rw [show ((123 : Int32)).toInt = 123 from by decide]; omega)]
  rw [show own_ge c (192 : Int32) = 0 from own_ge0 (by rw [show ((192 : Int32)).toInt = 192 from by decide]; omega)]
  rw [show own_ge c (215 : Int32) = 0 from own_ge0 (by rw [show ((215 : Int32)).toInt = 215 from by decide]; omega)]
  rw [show own_ge c (216 : Int32) = 0 from own_ge0 (by rw [show ((216 : Int32)).toInt = 216 from by decide]; omega)]
  rw [show own_ge c (247 : Int32) = 0 from own_ge0 (by rw [show ((247 : Int32)).toInt = 247 from by decide]; omega)]
  rw [show own_ge c (248 : Int32) = 0 from own_ge0 (by rw [show ((248 : Int32)).toInt = 248 from by decide]; omega)]
  rw [show own_ge c (768 : Int32) = 0 from own_ge0 (by rw [show ((768 : Int32)).toInt = 768 from by decide]; omega)]
  rw [show own_ge c (880 : Int32) = 0 from own_ge0 (by rw [show ((880 : Int32)).toInt = 880 from by decide]; omega)]
  rw [show own_ge c (894 : Int32) = 0 from own_ge0 (by rw [show ((894 : Int32)).toInt = 894 from by decide]; omega)]
  rw [show own_ge c (895 : Int32) = 0 from own_ge0 (by rw [show ((895 : Int32)).toInt = 895 from by decide]; omega)]
  rw [show own_ge c (8192 : Int32) = 0 from own_ge0 (by rw [show ((8192 : Int32)).toInt = 8192 from by decide]; omega)]
  rw [show own_ge c (8204 : Int32) = 0 from own_ge0 (by rw [show ((8204 : Int32)).toInt = 8204 from by decide]; omega)]
  rw [show own_ge c (8206 : Int32) = 0 from own_ge0 (by rw [show ((8206 : Int32)).toInt = 8206 from by decide]; omega)]
  rw [show own_ge c (8304 : Int32) = 0 from own_ge0 (by rw [show ((8304 : Int32)).toInt = 8304 from by decide]; omega)]
  rw [show own_ge c (8592 : Int32) = 0 from own_ge0 (by rw [show ((8592 : Int32)).toInt = 8592 from by decide]; omega)]
  rw [show own_ge c (11264 : Int32) = 0 from own_ge0 (by rw [show ((11264 : Int32)).toInt = 11264 from by decide]; omega)]
  rw [show own_ge c (12272 : Int32) = 0 from own_ge0 (by rw [show ((12272 : Int32)).toInt = 12272 from by decide]; omega)]
  rw [show own_ge c (12289 : Int32) = 0 from own_ge0 (by rw [show ((12289 : Int32)).toInt = 12289 from by decide]; omega)]
  rw [show own_ge c (55296 : Int32) = 0 from own_ge0 (by rw [show ((55296 : Int32)).toInt = 55296 from by decide]; omega)]
  rw [show own_ge c (63744 : Int32) = 0 from own_ge0 (by rw [show ((63744 : Int32)).toInt = 63744 from by decide]; omega)]
  rw [show own_ge c (64976 : Int32) = 0 from own_ge0 (by rw [show ((64976 : Int32)).toInt = 64976 from by decide]; omega)]
  rw [show own_ge c (65008 : Int32) = 0 from own_ge0 (by rw [show ((65008 : Int32)).toInt = 65008 from by decide]; omega)]
  rw [show own_ge c (65534 : Int32) = 0 from own_ge0 (by rw [show ((65534 : Int32)).toInt = 65534 from by decide]; omega)]
  rw [show own_ge c (65536 : Int32) = 0 from own_ge0 (by rw [show ((65536 : Int32)).toInt = 65536 from by decide]; omega)]
  rw [show own_ge c (983040 : Int32) = 0 from own_ge0 (by rw [show ((983040 : Int32)).toInt = 983040 from by decide]; omega)]
  rw [show own_e _ = 0 from by decide]
  show own_f0 c = 0
  rw [own_f0, if_neg (show ¬ (c < (97 : Int32)) from by rw [Int32.lt_iff_toInt_lt, show ((97 : Int32)).toInt = 97 from by decide]; omega)]
  show own_f6 c = 0
  rw [own_f6, if_pos (show (122 : Int32) < c from by rw [Int32.lt_iff_toInt_lt, show ((122 : Int32)).toInt = 122 from by decide]; omega)]
  show own_f12 c = 0
  rw [own_f12, if_neg (show ¬ (c < (65 : Int32)) from by rw [Int32.lt_iff_toInt_lt, show ((65 : Int32)).toInt = 65 from by decide]; omega)]
  show own_f18 c = 0
  rw [own_f18, if_pos (show (90 : Int32) < c from by rw [Int32.lt_iff_toInt_lt, show ((90 : Int32)).toInt = 90 from by decide]; omega)]
  show own_f24 c = 0
  rw [own_f24, if_neg (show ¬ (c = (95 : Int32)) from by intro q; have q2 := congrArg Int32.toInt q; rw [show ((95 : Int32)).toInt = 95 from by decide] at q2; omega)]
  show own_f30 c = 0
  rw [own_f30, if_pos (show c < (192 : Int32) from by rw [Int32.lt_iff_toInt_lt, show ((192 : Int32)).toInt = 192 from by decide]; omega)]
  show own_f44 c = 0
  rw [own_f44, if_pos (show c < (216 : Int32) from by rw [Int32.lt_iff_toInt_lt, show ((216 : Int32)).toInt = 216 from by decide]; omega)]
  show own_f58 c = 0
  rw [own_f58, if_pos (show c < (248 : Int32) from by rw [Int32.lt_iff_toInt_lt, show ((248 : Int32)).toInt = 248 from by decide]; omega)]
  show own_f72 c = 0
  rw [own_f72, if_pos (show c < (880 : Int32) from by rw [Int32.lt_iff_toInt_lt, show ((880 : Int32)).toInt = 880 from by decide]; omega)]
  show own_f86 c = 0
  rw [own_f86, if_pos (show c < (895 : Int32) from by rw [Int32.lt_iff_toInt_lt, show ((895 : Int32)).toInt = 895 from by decide]; omega)]
  show own_f100 c = 0
  rw [own_f100, if_neg (show ¬ (c = (8204 : Int32)) from by intro q; have q2 := congrArg Int32.toInt q; rw [show ((8204 : Int32)).toInt = 8204 from by decide] at q2; omega)]
  show own_f107 c = 0
  rw [own_f107, if_neg (show ¬ (c = (8205 : Int32)) from by intro q; have q2 := congrArg Int32.toInt q; rw [show ((8205 : Int32)).toInt = 8205 from by decide] at q2; omega)]
  show own_f114 c = 0
  rw [own_f114, if_pos (show c < (8304 : Int32) from by rw [Int32.lt_iff_toInt_lt, show ((8304 : Int32)).toInt = 8304 from by decide]; omega)]
  show own_f128 c = 0
  rw [own_f128, if_pos (show c < (11264 : Int32) from by rw [Int32.lt_iff_toInt_lt, show ((11264 : Int32)).toInt = 11264 from by decide]; omega)]
  show own_f142 c = 0
  rw [own_f142, if_pos (show c < (12289 : Int32) from by rw [Int32.lt_iff_toInt_lt, show ((12289 : Int32)).toInt = 12289 from by decide]; omega)]
  show own_f155 c = 0
  rw [own_f155, if_pos (show c < (63744 : Int32) from by rw [Int32.lt_iff_toInt_lt, show ((63744 : Int32)).toInt = 63744 from by decide]; omega)]
  show own_f167 c = 0
  rw [own_f167, if_pos (show c < (65008 : Int32) from by rw [Int32.lt_iff_toInt_lt, show ((65008 : Int32)).toInt = 65008 from by decide]; omega)]
  show own_f179 c = 0
  rw [own_f179, if_pos (show c < (65536 : Int32) from by rw [Int32.lt_iff_toInt_lt, show ((65536 : Int32)).toInt = 65536 from by decide]; omega)]
theorem own_leaf7 (c : Int32) (h1 : (192 : Int) ≤ c.toInt) (h2 : c.toInt < (215 : Int)) : own_f0 c = own_e ((((((((((((((((((((((((((((((own_ge c (65 : Int32)) + (own_ge c (91 : Int32))) + (own_ge c (95 : Int32))) + (own_ge c (96 : Int32))) + (own_ge c (97 : Int32))) + (own_ge c (123 : Int32))) + (own_ge c (192 : Int32))) + (own_ge c (215 : Int32))) + (own_ge c (216 : Int32))) + (own_ge c (247 : Int32))) + (own_ge c (248 : Int32))) + (own_ge c (768 : Int32))) + (own_ge c (880 : Int32))) + (own_ge c (894 : Int32))) + (own_ge c (895 : Int32))) + (own_ge c (8192 : Int32))) + (own_ge c (8204 : Int32))) + (own_ge c (8206 : Int32))) + (own_ge c (8304 : Int32))) + (own_ge c (8592 : Int32))) + (own_ge c (11264 : Int32))) + (own_ge c (12272 : Int32))) + (own_ge c (12289 : Int32))) + (own_ge c (55296 : Int32))) + (own_ge c (63744 : Int32))) + (own_ge c (64976 : Int32))) + (own_ge c (65008 : Int32))) + (own_ge c (65534 : Int32))) + (own_ge c (65536 : Int32))) + (own_ge c (983040 : Int32))) := by
  rw [show own_ge c (65 : Int32) = 1 from own_ge1 (by rw [show ((65 : Int32)).toInt = 65 from by decide]; omega)]
  rw [show own_ge c (91 : Int32) = 1 from own_ge1 (by rw [show ((91 : Int32)).toInt = 91 from by decide]; omega)]
  rw [show own_ge c (95 : Int32) = 1 from own_ge1 (by rw [show ((95 : Int32)).toInt = 95 from by decide]; omega)]
  rw [show own_ge c (96 : Int32) = 1 from own_ge1 (by rw [show ((96 : Int32)).toInt = 96 from by decide]; omega)]
  rw [show own_ge c (97 : Int32) = 1 from own_ge1 (by rw [show ((97 : Int32)).toInt = 97 from by decide]; omega)]
  rw [show own_ge c (123 : Int32) = 1 from own_ge1 (by rw [show ((123 : Int32)).toInt = 123 from by decide]; omega)]
  rw [show own_ge c (192 : Int32) = 1 from own_ge1 (by rw [show ((192 : Int32)).toInt = 192 from by decide]; omega)]
  rw [show own_ge c (215 : Int32) = 0 from own_ge0 (by rw [show ((215 : Int32)).toInt = 215 from by decide]; omega)]
  rw [show own_ge c (216 : Int32) = 0 from own_ge0 (by rw [show ((216 : Int32)).toInt = 216 from by decide]; omega)]
  rw [show own_ge c (247 : Int32) = 0 from own_ge0 (by rw [show ((247 : Int32)).toInt = 247 from by decide]; omega)]
  rw [show own_ge c (248 : Int32) = 0 from own_ge0 (by rw [show ((248 : Int32)).toInt = 248 from by decide]; omega)]
  rw [show own_ge c (768 : Int32) = 0 from own_ge0 (by rw [show ((768 : Int32)).toInt = 768 from by decide]; omega)]
  rw [show own_ge c (880 : Int32) = 0 from own_ge0 (by rw [show ((880 : Int32)).toInt = 880 from by decide]; omega)]
  rw [show own_ge c (894 : Int32) = 0 from own_ge0 (by rw [show ((894 : Int32)).toInt = 894 from by decide]; omega)]
  rw [show own_ge c (895 : Int32) = 0 from own_ge0 (by rw [show ((895 : Int32)).toInt = 895 from by decide]; omega)]
  rw [show own_ge c (8192 : Int32) = 0 from own_ge0 (by rw [show ((8192 : Int32)).toInt = 8192 from by decide]; omega)]
  rw [show own_ge c (8204 : Int32) = 0 from own_ge0 (by rw [show ((8204 : Int32)).toInt = 8204 from by decide]; omega)]
  rw [show own_ge c (8206 : Int32) = 0 from own_ge0 (by rw [show ((8206 : Int32)).toInt = 8206 from by decide]; omega)]
  rw [show own_ge c (8304 : Int32) = 0 from own_ge0 (by rw [show ((8304 : Int32)).toInt = 8304 from by decide]; omega)]
  rw [show own_ge c (8592 : Int32) = 0 from own_ge0 (by rw [show ((8592 : Int32)).toInt = 8592 from by decide]; omega)]
  rw [show own_ge c (11264 : Int32) = 0 from own_ge0 (by rw [show ((11264 : Int32)).toInt = 11264 from by decide]; omega)]
  rw [show own_ge c (12272 : Int32) = 0 from own_ge0 (by rw [show ((12272 : Int32)).toInt = 12272 from by decide]; omega)]
  rw [show own_ge c (12289 : Int32) = 0 from own_ge0 (by rw [show ((12289 : Int32)).toInt = 12289 from by decide]; omega)]
  rw [show own_ge c (55296 : Int32) = 0 from own_ge0 (by rw [show ((55296 : Int32)).toInt = 55296 from by decide]; omega)]
  rw [show own_ge c (63744 : Int32) = 0 from own_ge0 (by rw [show ((63744 : Int32)).toInt = 63744 from by decide]; omega)]
  rw [show own_ge c (64976 : Int32) = 0 from own_ge0 (by rw [show ((64976 : Int32)).toInt = 64976 from by decide]; omega)]
  rw [show own_ge c (65008 : Int32) = 0 from own_ge0 (by rw [show ((65008 : Int32)).toInt = 65008 from by decide]; omega)]
  rw [show own_ge c (65534 : Int32) = 0 from own_ge0 (by rw [show ((65534 : Int32)).toInt = 65534 from by decide]; omega)]
  rw [show own_ge c (65536 : Int32) = 0 from own_ge0 (by rw [show ((65536 : Int32)).toInt = 65536 from by decide]; omega)]
  rw [show own_ge c (983040 : Int32) = 0 from own_ge0 (by rw [show ((983040 : Int32)).toInt = 983040 from by decide]; omega)]
  rw [show own_e _ = 1 from by decide]
  show own_f0 c = 1
  rw [own_f0, if_neg (show ¬ (c < (97 : Int32)) from by rw [Int32.lt_iff_toInt_lt, show ((97 : Int32)).toInt = 97 from by decide]; omega)]
  show own_f6 c = 1
  rw [own_f6, if_pos (show (122 : Int32) < c from by rw [Int32.lt_iff_toInt_lt, show ((122 : Int32)).toInt = 122 from by decide]; omega)]
  show own_f12 c = 1
  rw [own_f12, if_neg (show ¬ (c < (65 : Int32)) from by rw [Int32.lt_iff_toInt_lt, show ((65 : Int32)).toInt = 65 from by decide]; omega)]
  show own_f18 c = 1
  rw [own_f18, if_pos (show (90 : Int32) < c from by rw [Int32.lt_iff_toInt_lt, show ((90 : Int32)).toInt = 90 from by decide]; omega)]
  show own_f24 c = 1
  rw [own_f24, if_neg (show ¬ (c = (95 : Int32)) from by intro q; have q2 := congrArg Int32.toInt q; rw [show ((95 : Int32)).toInt = 95 from by decide] at q2; omega)]
  show own_f30 c = 1
  rw [own_f30, if_neg (show ¬ (c < (192 : Int32)) from by rw [Int32.lt_iff_toInt_lt, show ((192 : Int32)).toInt = 192 from by decide]; omega)]
  show own_f37 c = 1
  rw [own_f37, if_neg (show ¬ ((214 : Int32) < c) from by rw [Int32.lt_iff_toInt_lt, show ((214 : Int32)).toInt = 214 from by decide]; omega)]
theorem own_leaf8 (c : Int32) (h1 : (215 : Int) ≤ c.toInt) (h2 : c.toInt < (216 : Int)) : own_f0 c = own_e ((((((((((((((((((((((((((((((own_ge c (65 : Int32)) + (own_ge c (91 : Int32))) + (own_ge c (95 : Int32))) + (own_ge c (96 : Int32))) + (own_ge c (97 : Int32))) + (own_ge c (123 : Int32))) + (own_ge c (192 : Int32))) + (own_ge c (215 : Int32))) + (own_ge c (216 : Int32))) + (own_ge c (247 : Int32))) + (own_ge c (248 : Int32))) + (own_ge c (768 : Int32))) + (own_ge c (880 : Int32))) + (own_ge c (894 : Int32))) + (own_ge c (895 : Int32))) + (own_ge c (8192 : Int32))) + (own_ge c (8204 : Int32))) + (own_ge c (8206 : Int32))) + (own_ge c (8304 : Int32))) + (own_ge c (8592 : Int32))) + (own_ge c (11264 : Int32))) + (own_ge c (12272 : Int32))) + (own_ge c (12289 : Int32))) + (own_ge c (55296 : Int32))) + (own_ge c (63744 : Int32))) + (own_ge c (64976 : Int32))) + (own_ge c (65008 : Int32))) + (own_ge c (65534 : Int32))) + (own_ge c (65536 : Int32))) + (own_ge c (983040 : Int32))) := by
  rw [show own_ge c (65 : Int32) = 1 from own_ge1 (by rw [show ((65 : Int32)).toInt = 65 from by decide]; omega)]
  rw [show own_ge c (91 : Int32) = 1 from own_ge1 (by rw [show ((91 : Int32)).toInt = 91 from by decide]; omega)]
  rw [show own_ge c (95 : Int32) = 1 from own_ge1 (by rw [show ((95 : Int32)).toInt = 95 from by decide]; omega)]
  rw [show own_ge c (96 : Int32) = 1 from own_ge1 (by rw [show ((96 : Int32)).toInt = 96 from by decide]; omega)]
  rw [show own_ge c (97 : Int32) = 1 from own_ge1 (by rw [show ((97 : Int32)).toInt = 97 from by decide]; omega)]
  rw [show own_ge c (123 : Int32) = 1 from own_ge1 (by rw [show ((123 : Int32)).toInt = 123 from by decide]; omega)]
  rw [show own_ge c (192 : Int32) = 1 from own_ge1 (by rw [show ((192 : Int32)).toInt = 192 from by decide]; omega)]
  rw [show own_ge c (215 : Int32) = 1 from own_ge1 (by rw [show ((215 : Int32)).toInt = 215 from by decide]; omega)]
  rw [show own_ge c (216 : Int32) = 0 from own_ge0 (by rw [show ((216 : Int32)).toInt = 216 from by decide]; omega)]
  rw [show own_ge c (247 : Int32) = 0 from own_ge0 (by rw [show ((247 : Int32)).toInt = 247 from by decide]; omega)]
  rw [show own_ge c (248 : Int32) = 0 from own_ge0 (by rw [show ((248 : Int32)).toInt = 248 from by decide]; omega)]
  rw [show own_ge c (768 : Int32) = 0 from own_ge0 (by rw [show ((768 : Int32)).toInt = 768 from by decide]; omega)]
  rw [show own_ge c (880 : Int32) = 0 from own_ge0 (by rw [show ((880 : Int32)).toInt = 880 from by decide]; omega)]
  rw [show own_ge c (894 : Int32) = 0 from own_ge0 (by rw [show ((894 : Int32)).toInt = 894 from by decide]; omega)]
  rw [show own_ge c (895 : Int32) = 0 from own_ge0 (by rw [show ((895 : Int32)).toInt = 895 from by decide]; omega)]
  rw [show own_ge c (8192 : Int32) = 0 from own_ge0 (by rw [show ((8192 : Int32)).toInt = 8192 from by decide]; omega)]
  rw [show own_ge c (8204 : Int32) = 0 from own_ge0 (by rw [show ((8204 : Int32)).toInt = 8204 from by decide]; omega)]
  rw [show own_ge c (8206 : Int32) = 0 from own_ge0 (by rw [show ((8206 : Int32)).toInt = 8206 from by decide]; omega)]
  rw [show own_ge c (8304 : Int32) = 0 from own_ge0 (by rw [show ((8304 : Int32)).toInt = 8304 from by decide]; omega)]
  rw [show own_ge c (8592 : Int32) = 0 from own_ge0 (by rw [show ((8592 : Int32)).toInt = 8592 from by decide]; omega)]
  rw [show own_ge c (11264 : Int32) = 0 from own_ge0 (by rw [show ((11264 : Int32)).toInt = 11264 from by decide]; omega)]
  rw [show own_ge c (12272 : Int32) = 0 from own_ge0 (by rw [show ((12272 : Int32)).toInt = 12272 from by decide]; omega)]
  rw [show own_ge c (12289 : Int32) = 0 from own_ge0 (by rw [show ((12289 : Int32)).toInt = 12289 from by decide]; omega)]
  rw [show own_ge c (55296 : Int32) = 0 from own_ge0 (by rw [show ((55296 : Int32)).toInt = 55296 from by decide]; omega)]
  rw [show own_ge c (63744 : Int32) = 0 from own_ge0 (by rw [show ((63744 : Int32)).toInt = 63744 from by decide]; omega)]
  rw [show own_ge c (64976 : Int32) = 0 from own_ge0 (by rw [show ((64976 : Int32)).toInt = 64976 from by decide]; omega)]
  rw [show own_ge c (65008 : Int32) = 0 from own_ge0 (by rw [show ((65008 : Int32)).toInt = 65008 from by decide]; omega)]
  rw [show own_ge c (65534 : Int32) = 0 from own_ge0 (by rw [show ((65534 : Int32)).toInt = 65534 from by decide]; omega)]
  rw [show own_ge c (65536 : Int32) = 0 from own_ge0 (by rw [show ((65536 : Int32)).toInt = 65536 from by decide]; omega)]
  rw [show own_ge c (983040 : Int32) = 0 from own_ge0 (by rw [show ((983040 : Int32)).toInt = 983040 from by decide]; omega)]
  rw [show own_e _ = 0 from by decide]
  show own_f0 c = 0
  rw [own_f0, if_neg (show ¬ (c < (97 : Int32)) from by rw [Int32.lt_iff_toInt_lt, show ((97 : Int32)).toInt = 97 from by decide]; omega)]
  show own_f6 c = 0
  rw [own_f6, if_pos (show (122 : Int32) < c from by rw [Int32.lt_iff_toInt_lt, show ((122 : Int32)).toInt = 122 from by decide]; omega)]
  show own_f12 c = 0
  rw [own_f12, if_neg (show ¬ (c < (65 : Int32)) from by rw [Int32.lt_iff_toInt_lt, show ((65 : Int32)).toInt = 65 from by decide]; omega)]
  show own_f18 c = 0
  rw [own_f18, if_pos (show (90 : Int32) < c from by rw [Int32.lt_iff_toInt_lt, show ((90 : Int32)).toInt = 90 from by decide]; omega)]
  show own_f24 c = 0
  rw [own_f24, if_neg (show ¬ (c = (95 : Int32)) from by intro q; have q2 := congrArg Int32.toInt q; rw [show ((95 : Int32)).toInt = 95 from by decide] at q2; omega)]
  show own_f30 c = 0
  rw [own_f30, if_neg (show ¬ (c < (192 : Int32)) from by rw [Int32.lt_iff_toInt_lt, show ((192 : Int32)).toInt = 192 from by decide]; omega)]
  show own_f37 c = 0
  rw [own_f37, if_pos (show (214 : Int32) < c from by rw [Int32.lt_iff_toInt_lt, show ((214 : Int32)).toInt = 214 from by decide]; omega)]
  show own_f44 c = 0
  rw [own_f44, if_pos (show c < (216 : Int32) from by rw [Int32.lt_iff_toInt_lt, show ((216 : Int32)).toInt = 216 from by decide]; omega)]
  show own_f58 c = 0
  rw [own_f58, if_pos (show c < (248 : Int32) from by rw [Int32.lt_iff_toInt_lt, show ((248 : Int32)).toInt = 248 from by decide]; omega)]
  show own_f72 c = 0
  rw [own_f72, if_pos (show c < (880 : Int32) from by rw [Int32.lt_iff_toInt_lt, show ((880 : Int32)).toInt = 880 from by decide]; omega)]
  show own_f86 c = 0
  rw [own_f86, if_pos (show c < (895 : Int32) from by rw [Int32.lt_iff_toInt_lt, show ((895 : Int32)).toInt = 895 from by decide]; omega)]
  show own_f100 c = 0
  rw [own_f100, if_neg (show ¬ (c = (8204 : Int32)) from by intro q; have q2 := congrArg Int32.toInt q; rw [show ((8204 : Int32)).toInt = 8204 from by decide] at q2; omega)]
  show own_f107 c = 0
  rw [own_f107, if_neg (show ¬ (c = (8205 : Int32)) from by intro q; have q2 := congrArg Int32.toInt q; rw [show ((8205 : Int32)).toInt = 8205 from by decide] at q2; omega)]
  show own_f114 c = 0
  rw [own_f114, if_pos (show c < (8304 : Int32) from by rw [Int32.lt_iff_toInt_lt, show ((8304 : Int32)).toInt = 8304 from by decide]; omega)]
  show own_f128 c = 0
  rw [own_f128, if_pos (show c < (11264 : Int32) from by rw [Int32.lt_iff_toInt_lt, show ((11264 : Int32)).toInt = 11264 from by decide]; omega)]
  show own_f142 c = 0
  rw [own_f142, if_pos (show c < (12289 : Int32) from by rw [Int32.lt_iff_toInt_lt, show ((12289 : Int32)).toInt = 12289 from by decide]; omega)]
  show own_f155 c = 0
  rw [own_f155, if_pos (show c < (63744 : Int32) from by rw [Int32.lt_iff_toInt_lt, show ((63744 : Int32)).toInt = 63744 from by decide]; omega)]
  show own_f167 c = 0
  rw [own_f167, if_pos (show c < (65008 : Int32) from by rw [Int32.lt_iff_toInt_lt, show ((65008 : Int32)).toInt = 65008 from by decide]; omega)]
  show own_f179 c = 0
  rw [own_f179, if_pos (show c < (65536 : Int32) from by rw [Int32.lt_iff_toInt_lt, show ((65536 : Int32)).toInt = 65536 from by decide]; omega)]
theorem own_leaf9 (c : Int32) (h1 : (216 : Int) ≤ c.toInt) (h2 : c.toInt < (247 : Int)) : own_f0 c = own_e ((((((((((((((((((((((((((((((own_ge c (65 : Int32)) + (own_ge c (91 : Int32))) + (own_ge c (95 : Int32))) + (own_ge c (96 : Int32))) + (own_ge c (97 : Int32))) + (own_ge c (123 : Int32))) + (own_ge c (192 : Int32))) + (own_ge c (215 : Int32))) + (own_ge c (216 : Int32))) + (own_ge c (247 : Int32))) + (own_ge c (248 : Int32))) + (own_ge c (768 : Int32))) + (own_ge c (880 : Int32))) + (own_ge c (894 : Int32))) + (own_ge c (895 : Int32))) + (own_ge c (8192 : Int32))) + (own_ge c (8204 : Int32))) + (own_ge c (8206 : Int32))) + (own_ge c (8304 : Int32))) + (own_ge c (8592 : Int32))) + (own_ge c (11264 : Int32))) + (own_ge c (12272 : Int32))) + (own_ge c (12289 : Int32))) + (own_ge c (55296 : Int32))) + (own_ge c (63744 : Int32))) + (own_ge c (64976 : Int32))) + (own_ge c (65008 : Int32))) + (own_ge c (65534 : Int32))) + (own_ge c (65536 : Int32))) + (own_ge c (983040 : Int32))) := by
  rw [show own_ge c (65 : Int32) = 1 from own_ge1 (by rw [show ((65 : Int32)).toInt = 65 from by decide]; omega)]
  rw [show own_ge c (91 : Int32) = 1 from own_ge1 (by rw [show ((91 : Int32)).toInt = 91 from by decide]; omega)]
  rw [show own_ge c (95 : Int32) = 1 from own_ge1 (by rw [show ((95 : Int32)).toInt = 95 from by decide]; omega)]
  rw [show own_ge c (96 : Int32) = 1 from own_ge1 (by rw [show ((96 : Int32)).toInt = 96 from by decide]; omega)]
  rw [show own_ge c (97 : Int32) = 1 from own_ge1 (by rw [show ((97 : Int32)).toInt = 97 from by decide]; omega)]
  rw [show own_ge c (123 : Int32) = 1 from own_ge1 (by rw [show ((123 : Int32)).toInt = 123 from by decide]; omega)]
  rw [show own_ge c (192 : Int32) = 1 from own_ge1 (by rw [show ((192 : Int32)).toInt = 192 from by decide]; omega)]
  rw [show own_ge c (215 : Int32) = 1 from own_ge1 (by rw [show ((215 : Int32)).toInt = 215 from by decide]; omega)]
  rw [show own_ge c (216 : Int32) = 1 from own_ge1 (by rw [show ((216 : Int32)).toInt = 216 from by decide]; omega)]
  rw [show own_ge c (247 : Int32) = 0 from own_ge0 (by rw [show ((247 : Int32)).toInt = 247 from by decide]; omega)]
  rw [show own_ge c (248 : Int32) = 0 from own_ge0 (by rw [show ((248 : Int32)).toInt = 248 from by decide]; omega)]
  rw [show own_ge c (768 : Int32) = 0 from own_ge0 (by rw [show ((768 : Int32)).toInt = 768 from by decide]; omega)]
  rw [show own_ge c (880 : Int32) = 0 from own_ge0 (by rw [show ((880 : Int32)).toInt = 880 from by decide]; omega)]
  rw [show own_ge c (894 : Int32) = 0 from own_ge0 (by rw [show ((894 : Int32)).toInt = 894 from by decide]; omega)]
  rw [show own_ge c (895 : Int32) = 0 from own_ge0 (by rw [show ((895 : Int32)).toInt = 895 from by decide]; omega)]
  rw [show own_ge c (8192 : Int32) = 0 from own_ge0 (by rw [show ((8192 : Int32)).toInt = 8192 from by decide]; omega)]
  rw [show own_ge c (8204 : Int32) = 0 from own_ge0 (by rw [show ((8204 : Int32)).toInt = 8204 from by decide]; omega)]
  rw [show own_ge c (8206 : Int32) = 0 from own_ge0 (by rw [show ((8206 : Int32)).toInt = 8206 from by decide]; omega)]
  rw [show own_ge c (8304 : Int32) = 0 from own_ge0 (by rw [show ((8304 : Int32)).toInt = 8304 from by decide]; omega)]
  rw [show own_ge c (8592 : Int32) = 0 from own_ge0 (by rw [show ((8592 : Int32)).toInt = 8592 from by decide]; omega)]
  rw [show own_ge c (11264 : Int32) = 0 from own_ge0 (by rw [show ((11264 : Int32)).toInt = 11264 from by decide]; omega)]
  rw [show own_ge c (12272 : Int32) = 0 from own_ge0 (by rw [show ((12272 : Int32)).toInt = 12272 from by decide]; omega)]
  rw [show own_ge c (12289 : Int32) = 0 from own_ge0 (by rw [show ((12289 : Int32)).toInt = 12289 from by decide]; omega)]
  rw [show own_ge c (55296 : Int32) = 0 from own_ge0 (by rw [show ((55296 : Int32)).toInt = 55296 from by decide]; omega)]
  rw [show own_ge c (63744 : Int32) = 0 from own_ge0 (by rw [show ((63744 : Int32)).toInt = 63744 from by decide]; omega)]
  rw [show own_ge c (64976 : Int32) = 0 from own_ge0 (by rw [show ((64976 : Int32)).toInt = 64976 from by decide]; omega)]
  rw [show own_ge c (65008 : Int32) = 0 from own_ge0 (by rw [show ((65008 : Int32)).toInt = 65008 from by decide]; omega)]
  rw [show own_ge c (65534 : Int32) = 0 from own_ge0 (by rw [show ((65534 : Int32)).toInt = 65534 from by decide]; omega)]
  rw [show own_ge c (65536 : Int32) = 0 from own_ge0 (by rw [show ((65536 : Int32)).toInt = 65536 from by decide]; omega)]
  rw [show own_ge c (983040 : Int32) = 0 from own_ge0 (by rw [show ((983040 : Int32)).toInt = 983040 from by decide]; omega)]
  rw [show own_e _ = 1 from by decide]
  show own_f0 c = 1
  rw [own_f0, if_neg (show ¬ (c < (97 : Int32)) from by rw [Int32.lt_iff_toInt_lt, show ((97 : Int32)).toInt = 97 from by decide]; omega)]
  show own_f6 c = 1
  rw [own_f6, if_pos (show (122 : Int32) < c from by rw [Int32.lt_iff_toInt_lt, show ((122 : Int32)).toInt = 122 from by decide]; omega)]
  show own_f12 c = 1
  rw [own_f12, if_neg (show ¬ (c < (65 : Int32)) from by rw [Int32.lt_iff_toInt_lt, show ((65 : Int32)).toInt = 65 from by decide]; omega)]
  show own_f18 c = 1
  rw [own_f18, if_pos (show (90 : Int32) < c from by rw [Int32.lt_iff_toInt_lt, show ((90 : Int32)).toInt = 90 from by decide]; omega)]
  show own_f24 c = 1
  rw [own_f24, if_neg (show ¬ (c = (95 : Int32)) from by intro q; have q2 := congrArg Int32.toInt q; rw [show ((95 : Int32)).toInt = 95 from by decide] at q2; omega)]
  show own_f30 c = 1
  rw [own_f30, if_neg (show ¬ (c < (192 : Int32)) from by rw [Int32.lt_iff_toInt_lt, show ((192 : Int32)).toInt = 192 from by decide]; omega)]
  show own_f37 c = 1
  rw [own_f37, if_pos (show (214 : Int32) < c from by rw [Int32.lt_iff_toInt_lt, show ((214 : Int32)).toInt = 214 from by decide]; omega)]
  show own_f44 c = 1
  rw [own_f44, if_neg (show ¬ (c < (216 : Int32)) from by rw [Int32.lt_iff_toInt_lt, show ((216 : Int32)).toInt = 216 from by decide]; omega)]
  show own_f51 c = 1
  rw [own_f51, if_neg (show ¬ ((246 : Int32) < c) from by rw [Int32.lt_iff_toInt_lt, show ((246 : Int32)).toInt = 246 from by decide]; omega)]
theorem own_leaf10 (c : Int32) (h1 : (247 : Int) ≤ c.toInt) (h2 : c.toInt < (248 : Int)) : own_f0 c = own_e ((((((((((((((((((((((((((((((own_ge c (65 : Int32)) + (own_ge c (91 : Int32))) + (own_ge c (95 : Int32))) + (own_ge c (96 : Int32))) + (own_ge c (97 : Int32))) + (own_ge c (123 : Int32))) + (own_ge c (192 : Int32))) + (own_ge c (215 : Int32))) + (own_ge c (216 : Int32))) + (own_ge c (247 : Int32))) + (own_ge c (248 : Int32))) + (own_ge c (768 : Int32))) + (own_ge c (880 : Int32))) + (own_ge c (894 : Int32))) + (own_ge c (895 : Int32))) + (own_ge c (8192 : Int32))) + (own_ge c (8204 : Int32))) + (own_ge c (8206 : Int32))) + (own_ge c (8304 : Int32))) + (own_ge c (8592 : Int32))) + (own_ge c (11264 : Int32))) + (own_ge c (12272 : Int32))) + (own_ge c (12289 : Int32))) + (own_ge c (55296 : Int32))) + (own_ge c (63744 : Int32))) + (own_ge c (64976 : Int32))) + (own_ge c (65008 : Int32))) + (own_ge c (65534 : Int32))) + (own_ge c (65536 : Int32))) + (own_ge c (983040 : Int32))) := by
  rw [show own_ge c (65 : Int32) = 1 from own_ge1 (by rw [show ((65 : Int32)).toInt = 65 from by decide]; omega)]
  rw [show own_ge c (91 : Int32) = 1 from own_ge1 (by rw [show ((91 : Int32)).toInt = 91 from by decide]; omega)]
  rw [show own_ge c (95 : Int32) = 1 from own_ge1 (by rw [show ((95 : Int32)).toInt = 95 from by decide]; omega)]
  rw [show own_ge c (96 : Int32) = 1 from own_ge1 (by rw [show ((96 : Int32)).toInt = 96 from by decide]; omega)]
  rw [show own_ge c (97 : Int32) = 1 from own_ge1 (by rw [show ((97 : Int32)).toInt = 97 from by decide]; omega)]
  rw [show own_ge c (123 : Int32) = 1 from own_ge1 (by rw [show ((123 : Int32)).toInt = 123 from by decide]; omega)]
  rw [show own_ge c (192 : Int32) = 1 from own_ge1 (by rw [show ((192 : Int32)).toInt = 192 from by decide]; omega)]
  rw [show own_ge c (215 : Int32) = 1 from own_ge1 (by rw [show ((215 : Int32)).toInt = 215 from by decide]; omega)]
  rw [show own_ge c (216 : Int32) = 1 from own_ge1 (by rw [show ((216 : Int32)).toInt = 216 from by decide]; omega)]
  rw [show own_ge c (247 : Int32) = 1 from own_ge1 (by rw [show ((247 : Int32)).toInt = 247 from by decide]; omega)]
  rw [show own_ge c (248 : Int32) = 0 from own_ge0 (by rw [show ((248 : Int32)).toInt = 248 from by decide]; omega)]
  rw [show own_ge c (768 : Int32) = 0 from own_ge0 (by rw [show ((768 : Int32)).toInt = 768 from by decide]; omega)]
  rw [show own_ge c (880 : Int32) = 0 from own_ge0 (by rw [show ((880 : Int32)).toInt = 880 from by decide]; omega)]
  rw [show own_ge c (894 : Int32) = 0 from own_ge0 (by rw [show ((894 : Int32)).toInt = 894 from by decide]; omega)]
  rw [show own_ge c (895 : Int32) = 0 from own_ge0 (by rw [show ((895 : Int32)).toInt = 895 from by decide]; omega)]
  rw [show own_ge c (8192 : Int32) = 0 from own_ge0 (by rw [show ((8192 : Int32)).toInt = 8192 from by decide]; omega)]
  rw [show own_ge c (8204 : Int32) = 0 from own_ge0 (by rw [show ((8204 : Int32)).toInt = 8204 from by decide]; omega)]
  rw [show own_ge c (8206 : Int32) = 0 from own_ge0 (by rw [show ((8206 : Int32)).toInt = 8206 from by decide]; omega)]
  rw [show own_ge c (8304 : Int32) = 0 from own_ge0 (by rw [show ((8304 : Int32)).toInt = 8304 from by decide]; omega)]
  rw [show own_ge c (8592 : Int32) = 0 from own_ge0 (by rw [show ((8592 : Int32)).toInt = 8592 from by decide]; omega)]
  rw [show own_ge c (11264 : Int32) = 0 from own_ge0 (by rw [show ((11264 : Int32)).toInt = 11264 from by decide]; omega)]
  rw [show own_ge c (12272 : Int32) = 0 from own_ge0 (by rw [show ((12272 : Int32)).toInt = 12272 from by decide]; omega)]
  rw [show own_ge c (12289 : Int32) = 0 from own_ge0 (by rw [show ((12289 : Int32)).toInt = 12289 from by decide]; omega)]
  rw [show own_ge c (55296 : Int32) = 0 from own_ge0 (by rw [show ((55296 : Int32)).toInt = 55296 from by decide]; omega)]
  rw [show own_ge c (63744 : Int32) = 0 from own_ge0 (by rw [show ((63744 : Int32)).toInt = 63744 from by decide]; omega)]
  rw [show own_ge c (64976 : Int32) = 0 from own_ge0 (by rw [show ((64976 : Int32)).toInt = 64976 from by decide]; omega)]
  rw [show own_ge c (65008 : Int32) = 0 from own_ge0 (by rw [show ((65008 : Int32)).toInt = 65008 from by decide]; omega)]
  rw [show own_ge c (65534 : Int32) = 0 from own_ge0 (by rw [show ((65534 : Int32)).toInt = 65534 from by decide]; omega)]
  rw [show own_ge c (65536 : Int32) = 0 from own_ge0 (by rw [show ((65536 : Int32)).toInt = 65536 from by decide]; omega)]
  rw [show own_ge c (983040 : Int32) = 0 from own_ge0 (by rw [show ((983040 : Int32)).toInt = 983040 from by decide]; omega)]
  rw [show own_e _ = 0 from by decide]
  show own_f0 c = 0
  rw [own_f0, if_neg (show ¬ (c < (97 : Int32)) from by rw [Int32.lt_iff_toInt_lt, show ((97 : Int32)).toInt = 97 from by decide]; omega)]
  show own_f6 c = 0
  rw [own_f6, if_pos (show (122 : Int32) < c from by rw [Int32.lt_iff_toInt_lt, show ((122 : Int32)).toInt = 122 from by decide]; omega)]
  show own_f12 c = 0
  rw [own_f12, if_neg (show ¬ (c < (65 : Int32)) from by rw [Int32.lt_iff_toInt_lt, show ((65 : Int32)).toInt = 65 from by decide]; omega)]
  show own_f18 c = 0
  rw [own_f18, if_pos (show (90 : Int32) < c from by rw [Int32.lt_iff_toInt_lt, show ((90 : Int32)).toInt = 90 from by decide]; omega)]
  show own_f24 c = 0
  rw [own_f24, if_neg (show ¬ (c = (95 : Int32)) from by intro q; have q2 := congrArg Int32.toInt q; rw [show ((95 : Int32)).toInt = 95 from by decide] at q2; omega)]
  show own_f30 c = 0
  rw [own_f30, if_neg (show ¬ (c < (192 : Int32)) from by rw [Int32.lt_iff_toInt_lt, show ((192 : Int32)).toInt = 192 from by decide]; omega)]
  show own_f37 c = 0
  rw [own_f37, if_pos (show (214 : Int32) < c from by rw [Int32.lt_iff_toInt_lt, show ((214 : Int32)).toInt = 214 from by decide]; omega)]
  show own_f44 c = 0
  rw [own_f44, if_neg (show ¬ (c < (216 : Int32)) from by rw [Int32.lt_iff_toInt_lt, show ((216 : Int32)).toInt = 216 from by decide]; omega)]
  show own_f51 c = 0
  rw [own_f51, if_pos (show (246 : Int32) < c from by rw [Int32.lt_iff_toInt_lt, show ((246 : Int32)).toInt = 246 from by decide]; omega)]
  show own_f58 c = 0
  rw [own_f58, if_pos (show c < (248 : Int32) from by rw [Int32.lt_iff_toInt_lt, show ((248 : Int32)).toInt = 248 from by decide]; omega)]
  show own_f72 c = 0
  rw [own_f72, if_pos (show c < (880 : Int32) from by rw [Int32.lt_iff_toInt_lt, show ((880 : Int32)).toInt = 880 from by decide]; omega)]
  show own_f86 c = 0
  rw [own_f86, if_pos (show c < (895 : Int32) from by rw [Int32.lt_iff_toInt_lt, show ((895 : Int32)).toInt = 895 from by decide]; omega)]
  show own_f100 c = 0
  rw [own_f100, if_neg (show ¬ (c = (8204 : Int32)) from by intro q; have q2 := congrArg Int32.toInt q; rw [show ((8204 : Int32)).toInt = 8204 from by decide] at q2; omega)]
  show own_f107 c = 0
  rw [own_f107, if_neg (show ¬ (c = (8205 : Int32)) from by intro q; have q2 := congrArg Int32.toInt q; rw [show ((8205 : Int32)).toInt = 8205 from by decide] at q2; omega)]
  show own_f114 c = 0
  rw [own_f114, if_pos (show c < (8304 : Int32) from by rw [Int32.lt_iff_toInt_lt, show ((8304 : Int32)).toInt = 8304 from by decide]; omega)]
  show own_f128 c = 0
  rw [own_f128, if_pos (show c < (11264 : Int32) from by rw [Int32.lt_iff_toInt_lt, show ((11264 : Int32)).toInt = 11264 from by decide]; omega)]
  show own_f142 c = 0
  rw [own_f142, if_pos (show c < (12289 : Int32) from by rw [Int32.lt_iff_toInt_lt, show ((12289 : Int32)).toInt = 12289 from by decide]; omega)]
  show own_f155 c = 0
  rw [own_f155, if_pos (show c < (63744 : Int32) from by rw [Int32.lt_iff_toInt_lt, show ((63744 : Int32)).toInt = 63744 from by decide]; omega)]
  show own_f167 c = 0
  rw [own_f167, if_pos (show c < (65008 : Int32) from by rw [Int32.lt_iff_toInt_lt, show ((65008 : Int32)).toInt = 65008 from by decide]; omega)]
  show own_f179 c = 0
  rw [own_f179, if_pos (show c < (65536 : Int32) from by rw [Int32.lt_iff_toInt_lt, show ((65536 : Int32)).toInt = 65536 from by decide]; omega)]
theorem own_leaf11 (c : Int32) (h1 : (248 : Int) ≤ c.toInt) (h2 : c.toInt < (768 : Int)) : own_f0 c = own_e ((((((((((((((((((((((((((((((own_ge c (65 : Int32)) + (own_ge c (91 : Int32))) + (own_ge c (95 : Int32))) + (own_ge c (96 : Int32))) + (own_ge c (97 : Int32))) + (own_ge c (123 : Int32))) + (own_ge c (192 : Int32))) + (own_ge c (215 : Int32))) + (own_ge c (216 : Int32))) + (own_ge c (247 : Int32))) + (own_ge c (248 : Int32))) + (own_ge c (768 : Int32))) + (own_ge c (880 : Int32))) + (own_ge c (894 : Int32))) + (own_ge c (895 : Int32))) + (own_ge c (8192 : Int32))) + (own_ge c (8204 : Int32))) + (own_ge c (8206 : Int32))) + (own_ge c (8304 : Int32))) + (own_ge c (8592 : Int32))) + (own_ge c (11264 : Int32))) + (own_ge c (12272 : Int32))) + (own_ge c (12289 : Int32))) + (own_ge c (55296 : Int32))) + (own_ge c (63744 : Int32))) + (own_ge c (64976 : Int32))) + (own_ge c (65008 : Int32))) + (own_ge c (65534 : Int32))) + (own_ge c (65536 : Int32))) + (own_ge c (983040 : Int32))) := by
  rw [show own_ge c (65 : Int32) = 1 from own_ge1 (by rw [show ((65 : Int32)).toInt = 65 from by decide]; omega)]
  rw [show own_ge c (91 : Int32) = 1 from own_ge1 (by rw [show ((91 : Int32)).toInt = 91 from by decide]; omega)]
  rw [show own_ge c (95 : Int32) = 1 from own_ge1 (by rw [show ((95 : Int32)).toInt = 95 from by decide]; omega)]
  rw [show own_ge c (96 : Int32) = 1 from own_ge1 (by rw [show ((96 : Int32)).toInt = 96 from by decide]; omega)]
  rw [show own_ge c (97 : Int32) = 1 from own_ge1 (by rw [show ((97 : Int32)).toInt = 97 from by decide]; omega)]
  rw [show own_ge c (123 : Int32) = 1 from own_ge1 (by rw [show ((123 : Int32)).toInt = 123 from by decide]; omega)]
  rw [show own_ge c (192 : Int32) = 1 from own_ge1 (by rw [show ((192 : Int32)).toInt = 192 from by decide]; omega)]
  rw [show own_ge c (215 : Int32) = 1 from own_ge1 (by rw [show ((215 : Int32)).toInt = 215 from by decide]; omega)]
  rw [show own_ge c (216 : Int32) = 1 from own_ge1 (by rw [show ((216 : Int32)).toInt = 216 from by decide]; omega)]
  rw [show own_ge c (247 : Int32) = 1 from own_ge1 (by rw [show ((247 : Int32)).toInt = 247 from by decide]; omega)]
  rw [show own_ge c (248 : Int32) = 1 from own_ge1 (by rw [show ((248 : Int32)).toInt = 248 from by decide]; omega)]
  rw [show own_ge c (768 : Int32) = 0 from own_ge0 (by rw [show ((768 : Int32)).toInt = 768 from by decide]; omega)]
  rw [show own_ge c (880 : Int32) = 0 from own_ge0 (by rw [show ((880 : Int32)).toInt = 880 from by decide]; omega)]
  rw [show own_ge c (894 : Int32) = 0 from own_ge0 (by rw [show ((894 : Int32)).toInt = 894 from by decide]; omega)]
  rw [show own_ge c (895 : Int32) = 0 from own_ge0 (by rw [show ((895 : Int32)).toInt = 895 from by decide]; omega)]
  rw [show own_ge c (8192 : Int32) = 0 from own_ge0 (by rw [show ((8192 : Int32)).toInt = 8192 from by decide]; omega)]
  rw [show own_ge c (8204 : Int32) = 0 from own_ge0 (by rw [show ((8204 : Int32)).toInt = 8204 from by decide]; omega)]
  rw [show own_ge c (8206 : Int32) = 0 from own_ge0 (by rw [show ((8206 : Int32)).toInt = 8206 from by decide]; omega)]
  rw [show own_ge c (8304 : Int32) = 0 from own_ge0 (by rw [show ((8304 : Int32)).toInt = 8304 from by decide]; omega)]
  rw [show own_ge c (8592 : Int32) = 0 from own_ge0 (by rw [show ((8592 : Int32)).toInt = 8592 from by decide]; omega)]
  rw [show own_ge c (11264 : Int32) = 0 from own_ge0 (by rw [show ((11264 : Int32)).toInt = 11264 from by decide]; omega)]
  rw [show own_ge c (12272 : Int32) = 0 from own_ge0 (by rw [show ((12272 : Int32)).toInt = 12272 from by decide]; omega)]
  rw [show own_ge c (12289 : Int32) = 0 from own_ge0 (by rw [show ((12289 : Int32)).toInt = 12289 from by decide]; omega)]
  rw [show own_ge c (55296 : Int32) = 0 from own_ge0 (by rw [show ((55296 : Int32)).toInt = 55296 from by decide]; omega)]
  rw [show own_ge c (63744 : Int32) = 0 from own_ge0 (by rw [show ((63744 : Int32)).toInt = 63744 from by decide]; omega)]
  rw [show own_ge c (64976 : Int32) = 0 from own_ge0 (by rw [show ((64976 : Int32)).toInt = 64976 from by decide]; omega)]
  rw [show own_ge c (65008 : Int32) = 0 from own_ge0 (by rw [show ((65008 : Int32)).toInt = 65008 from by decide]; omega)]
  rw [show own_ge c (65534 : Int32) = 0 from own_ge0 (by rw [show ((65534 : Int32)).toInt = 65534 from by decide]; omega)]
  rw [show own_ge c (65536 : Int32) = 0 from own_ge0 (by rw [show ((65536 : Int32)).toInt = 65536 from by decide]; omega)]
  rw [show own_ge c (983040 : Int32) = 0 from own_ge0 (by rw [show ((983040 : Int32)).toInt = 983040 from by decide]; omega)]
  rw [show own_e _ = 1 from by decide]
  show own_f0 c = 1
  rw [own_f0, if_neg (show ¬ (c < (97 : Int32)) from by rw [Int32.lt_iff_toInt_lt, show ((97 : Int32)).toInt = 97 from by decide]; omega)]
  show own_f6 c = 1
  rw [own_f6, if_pos (show (122 : Int32) < c from by rw [Int32.lt_iff_toInt_lt, show ((122 : Int32)).toInt = 122 from by decide]; omega)]
  show own_f12 c = 1
  rw [own_f12, if_neg (show ¬ (c < (65 : Int32)) from by rw [Int32.lt_iff_toInt_lt, show ((65 : Int32)).toInt = 65 from by decide]; omega)]
  show own_f18 c = 1
  rw [own_f18, if_pos (show (90 : Int32) < c from by rw [Int32.lt_iff_toInt_lt, show ((90 : Int32)).toInt = 90 from by decide]; omega)]
  show own_f24 c = 1
  rw [own_f24, if_neg (show ¬ (c = (95 : Int32)) from by intro q; have q2 := congrArg Int32.toInt q; rw [show ((95 : Int32)).toInt = 95 from by decide] at q2; omega)]
  show own_f30 c = 1
  rw [own_f30, if_neg (show ¬ (c < (192 : Int32)) from by rw [Int32.lt_iff_toInt_lt, show ((192 : Int32)).toInt = 192 from by decide]; omega)]
  show own_f37 c = 1
  rw [own_f37, if_pos (show (214 : Int32) < c from by rw [Int32.lt_iff_toInt_lt, show ((214 : Int32)).toInt = 214 from by decide]; omega)]
  show own_f44 c = 1
  rw [own_f44, if_neg (show ¬ (c < (216 : Int32)) from by rw [Int32.lt_iff_toInt_lt, show ((216 : Int32)).toInt = 216 from by decide]; omega)]
  show own_f51 c = 1
  rw [own_f51, if_pos (show (246 : Int32) < c from by rw [Int32.lt_iff_toInt_lt, show ((246 : Int32)).toInt = 246 from by decide]; omega)]
  show own_f58 c = 1
  rw [own_f58, if_neg (show ¬ (c < (248 : Int32)) from by rw [Int32.lt_iff_toInt_lt, show ((248 : Int32)).toInt = 248 from by decide]; omega)]
  show own_f65 c = 1
  rw [own_f65, if_neg (show ¬ ((767 : Int32) < c) from by rw [Int32.lt_iff_toInt_lt, show ((767 : Int32)).toInt = 767 from by decide]; omega)]
theorem own_leaf12 (c : Int32) (h1 : (768 : Int) ≤ c.toInt) (h2 : c.toInt < (880 : Int)) : own_f0 c = own_e ((((((((((((((((((((((((((((((own_ge c (65 : Int32)) + (own_ge c (91 : Int32))) + (own_ge c (95 : Int32))) + (own_ge c (96 : Int32))) + (own_ge c (97 : Int32))) + (own_ge c (123 : Int32))) + (own_ge c (192 : Int32))) + (own_ge c (215 : Int32))) + (own_ge c (216 : Int32))) + (own_ge c (247 : Int32))) + (own_ge c (248 : Int32))) + (own_ge c (768 : Int32))) + (own_ge c (880 : Int32))) + (own_ge c (894 : Int32))) + (own_ge c (895 : Int32))) + (own_ge c (8192 : Int32))) + (own_ge c (8204 : Int32))) + (own_ge c (8206 : Int32))) + (own_ge c (8304 : Int32))) + (own_ge c (8592 : Int32))) + (own_ge c (11264 : Int32))) + (own_ge c (12272 : Int32))) + (own_ge c (12289 : Int32))) + (own_ge c (55296 : Int32))) + (own_ge c (63744 : Int32))) + (own_ge c (64976 : Int32))) + (own_ge c (65008 : Int32))) + (own_ge c (65534 : Int32))) + (own_ge c (65536 : Int32))) + (own_ge c (983040 : Int32))) := by
  rw [show own_ge c (65 : Int32) = 1 from own_ge1 (by rw [show ((65 : Int32)).toInt = 65 from by decide]; omega)]
  rw [show own_ge c (91 : Int32) = 1 from own_ge1 (by rw [show ((91 : Int32)).toInt = 91 from by decide]; omega)]
  rw [show own_ge c (95 : Int32) = 1 from own_ge1 (by rw [show ((95 : Int32)).toInt = 95 from by decide]; omega)]
  rw [show own_ge c (96 : Int32) = 1 from own_ge1 (by rw [show ((96 : Int32)).toInt = 96 from by decide]; omega)]
  rw [show own_ge c (97 : Int32) = 1 from own_ge1 (by rw [show ((97 : Int32)).toInt = 97 from by decide]; omega)]
  rw [show own_ge c (123 : Int32) = 1 from own_ge1 (by rw [show ((123 : Int32)).toInt = 123 from by decide]; omega)]
  rw [show own_ge c (192 : Int32) = 1 from own_ge1 (by rw [show ((192 : Int32)).toInt = 192 from by decide]; omega)]
  rw [show own_ge c (215 : Int32) = 1 from own_ge1 (by rw [show ((215 : Int32)).toInt = 215 from by decide]; omega)]
  rw [show own_ge c (216 : Int32) = 1 from own_ge1 (by rw [show ((216 : Int32)).toInt = 216 from by decide]; omega)]
  rw [show own_ge c (247 : Int32) = 1 from own_ge1 (by rw [show ((247 : Int32)).toInt = 247 from by decide]; omega)]
  rw [show own_ge c (248 : Int32) = 1 from own_ge1 (by rw [show ((248 : Int32)).toInt = 248 from by decide]; omega)]
  rw [show own_ge c (768 : Int32) = 1 from own_ge1 (by rw [show ((768 : Int32)).toInt = 768 from by decide]; omega)]
  rw [show own_ge c (880 : Int32) = 0 from own_ge0 (by rw [show ((880 : Int32)).toInt = 880 from by decide]; omega)]
  rw [show own_ge c (894 : Int32) = 0 from own_ge0 (by rw [show ((894 : Int32)).toInt = 894 from by decide]; omega)]
  rw [show own_ge c (895 : Int32) = 0 from own_ge0 (by rw [show ((895 : Int32)).toInt = 895 from by decide]; omega)]
  rw [show own_ge c (8192 : Int32) = 0 from own_ge0 (by rw [show ((8192 : Int32)).toInt = 8192 from by decide]; omega)]
  rw [show own_ge c (8204 : Int32) = 0 from own_ge0 (by rw [show ((8204 : Int32)).toInt = 8204 from by decide]; omega)]
  rw [show own_ge c (8206 : Int32) = 0 from own_ge0 (by rw [show ((8206 : Int32)).toInt = 8206 from by decide]; omega)]
  rw [show own_ge c (8304 : Int32) = 0 from own_ge0 (by rw [show ((8304 : Int32)).toInt = 8304 from by decide]; omega)]
  rw [show own_ge c (8592 : Int32) = 0 from own_ge0 (by rw [show ((8592 : Int32)).toInt = 8592 from by decide]; omega)]
  rw [show own_ge c (11264 : Int32) = 0 from own_ge0 (by rw [show ((11264 : Int32)).toInt = 11264 from by decide]; omega)]
  rw [show own_ge c (12272 : Int32) = 0 from own_ge0 (by rw [show ((12272 : Int32)).toInt = 12272 from by decide]; omega)]
  rw [show own_ge c (12289 : Int32) = 0 from own_ge0 (by rw [show ((12289 : Int32)).toInt = 12289 from by decide]; omega)]
  rw [show own_ge c (55296 : Int32) = 0 from own_ge0 (by rw [show ((55296 : Int32)).toInt = 55296 from by decide]; omega)]
  rw [show own_ge c (63744 : Int32) = 0 from own_ge0 (by rw [show ((63744 : Int32)).toInt = 63744 from by decide]; omega)]
  rw [show own_ge c (64976 : Int32) = 0 from own_ge0 (by rw [show ((64976 : Int32)).toInt = 64976 from by decide]; omega)]
  rw [show own_ge c (65008 : Int32) = 0 from own_ge0 (by rw [show ((65008 : Int32)).toInt = 65008 from by decide]; omega)]
  rw [show own_ge c (65534 : Int32) = 0 from own_ge0 (by rw [show ((65534 : Int32)).toInt = 65534 from by decide]; omega)]
  rw [show own_ge c (65536 : Int32) = 0 from own_ge0 (by rw [show ((65536 : Int32)).toInt = 65536 from by decide]; omega)]
  rw [show own_ge c (983040 : Int32) = 0 from own_ge0 (by rw [show ((983040 : Int32)).toInt = 983040 from by decide]; omega)]
  rw [show own_e _ = 0 from by decide]
  show own_f0 c = 0
  rw [own_f0, if_neg (show ¬ (c < (97 : Int32)) from by rw [Int32.lt_iff_toInt_lt, show ((97 : Int32)).toInt = 97 from by decide]; omega)]
  show own_f6 c = 0
  rw [own_f6, if_pos (show (122 : Int32) < c from by rw [Int32.lt_iff_toInt_lt, show ((122 : Int32)).toInt = 122 from by decide]; omega)]
  show own_f12 c = 0
  rw [own_f12, if_neg (show ¬ (c < (65 : Int32)) from by rw [Int32.lt_iff_toInt_lt, show ((65 : Int32)).toInt = 65 from by decide]; omega)]
  show own_f18 c = 0
  rw [own_f18, if_pos (show (90 : Int32) < c from by rw [Int32.lt_iff_toInt_lt, show ((90 : Int32)).toInt = 90 from by decide]; omega)]
  show own_f24 c = 0
  rw [own_f24, if_neg (show ¬ (c = (95 : Int32)) from by intro q; have q2 := congrArg Int32.toInt q; rw [show ((95 : Int32)).toInt = 95 from by decide] at q2; omega)]
  show own_f30 c = 0
  rw [own_f30, if_neg (show ¬ (c < (192 : Int32)) from by rw [Int32.lt_iff_toInt_lt, show ((192 : Int32)).toInt = 192 from by decide]; omega)]
  show own_f37 c = 0
  rw [own_f37, if_pos (show (214 : Int32) < c from by rw [Int32.lt_iff_toInt_lt, show ((214 : Int32)).toInt = 214 from by decide]; omega)]
  show own_f44 c = 0
  rw [own_f44, if_neg (show ¬ (c < (216 : Int32)) from by rw [Int32.lt_iff_toInt_lt, show ((216 : Int32)).toInt = 216 from by decide]; omega)]
  show own_f51 c = 0
  rw [own_f51, if_pos (show (246 : Int32) < c from by rw [Int32.lt_iff_toInt_lt, show ((246 : Int32)).toInt = 246 from by decide]; omega)]
  show own_f58 c = 0
  rw [own_f58, if_neg (show ¬ (c < (248 : Int32)) from by rw [Int32.lt_iff_toInt_lt, show ((248 : Int32)).toInt = 248 from by decide]; omega)]
  show own_f65 c = 0
  rw [own_f65, if_pos (show (767 : Int32) < c from by rw [Int32.lt_iff_toInt_lt, show ((767 : Int32)).toInt = 767 from by decide]; omega)]
  show own_f72 c = 0
  rw [own_f72, if_pos (show c < (880 : Int32) from by rw [Int32.lt_iff_toInt_lt, show ((880 : Int32)).toInt = 880 from by decide]; omega)]
  show own_f86 c = 0
  rw [own_f86, if_pos (show c < (895 : Int32) from by rw [Int32.lt_iff_toInt_lt, show ((895 : Int32)).toInt = 895 from by decide]; omega)]
  show own_f100 c = 0
  rw [own_f100, if_neg (show ¬ (c = (8204 : Int32)) from by intro q; have q2 := congrArg Int32.toInt q; rw [show ((8204 : Int32)).toInt = 8204 from by decide] at q2; omega)]
  show own_f107 c = 0
  rw [own_f107, if_neg (show ¬ (c = (8205 : Int32)) from by intro q; have q2 := congrArg Int32.toInt q; rw [show ((8205 : Int32)).toInt = 8205 from by decide] at q2; omega)]
  show own_f114 c = 0
  rw [own_f114, if_pos (show c < (8304 : Int32) from by rw [Int32.lt_iff_toInt_lt, show ((8304 : Int32)).toInt = 8304 from by decide]; omega)]
  show own_f128 c = 0
  rw [own_f128, if_pos (show c < (11264 : Int32) from by rw [Int32.lt_iff_toInt_lt, show ((11264 : Int32)).toInt = 11264 from by decide]; omega)]
  show own_f142 c = 0
  rw [own_f142, if_pos (show c < (12289 : Int32) from by rw [Int32.lt_iff_toInt_lt, show ((12289 : Int32)).toInt = 12289 from by decide]; omega)]
  show own_f155 c = 0
  rw [own_f155, if_pos (show c < (63744 : Int32) from by rw [Int32.lt_iff_toInt_lt, show ((63744 : Int32)).toInt = 63744 from by decide]; omega)]
  show own_f167 c = 0
  rw [own_f167, if_pos (show c < (65008 : Int32) from by rw [Int32.lt_iff_toInt_lt, show ((65008 : Int32)).toInt = 65008 from by decide]; omega)]
  show own_f179 c = 0
  rw [own_f179, if_pos (show c < (65536 : Int32) from by rw [Int32.lt_iff_toInt_lt, show ((65536 : Int32)).toInt = 65536 from by decide]; omega)]
theorem own_leaf13 (c : Int32) (h1 : (880 : Int) ≤ c.toInt) (h2 : c.toInt < (894 : Int)) : own_f0 c = own_e ((((((((((((((((((((((((((((((own_ge c (65 : Int32)) + (own_ge c (91 : Int32))) + (own_ge c (95 : Int32))) + (own_ge c (96 : Int32))) + (own_ge c (97 : Int32))) + (own_ge c (123 : Int32))) + (own_ge c (192 : Int32))) + (own_ge c (215 : Int32))) + (own_ge c (216 : Int32))) + (own_ge c (247 : Int32))) + (own_ge c (248 : Int32))) + (own_ge c (768 : Int32))) + (own_ge c (880 : Int32))) + (own_ge c (894 : Int32))) + (own_ge c (895 : Int32))) + (own_ge c (8192 : Int32))) + (own_ge c (8204 : Int32))) + (own_ge c (8206 : Int32))) + (own_ge c (8304 : Int32))) + (own_ge c (8592 : Int32))) + (own_ge c (11264 : Int32))) + (own_ge c (12272 : Int32))) + (own_ge c (12289 : Int32))) + (own_ge c (55296 : Int32))) + (own_ge c (63744 : Int32))) + (own_ge c (64976 : Int32))) + (own_ge c (65008 : Int32))) + (own_ge c (65534 : Int32))) + (own_ge c (65536 : Int32))) + (own_ge c (983040 : Int32))) := by
  rw [show own_ge c (65 : Int32) = 1 from own_ge1 (by rw [show ((65 : Int32)).toInt = 65 from by decide]; omega)]
  rw [show own_ge c (91 : Int32) = 1 from own_ge1 (by rw [show ((91 : Int32)).toInt = 91 from by decide]; omega)]
  rw [show own_ge c (95 : Int32) = 1 from own_ge1 (by rw [show ((95 : Int32)).toInt = 95 from by decide]; omega)]
  rw [show own_ge c (96 : Int32) = 1 from own_ge1 (by rw [show ((96 : Int32)).toInt = 96 from by decide]; omega)]
  rw [show own_ge c (97 : Int32) = 1 from own_ge1 (by rw [show ((97 : Int32)).toInt = 97 from by decide]; omega)]
  rw [show own_ge c (123 : Int32) = 1 from own_ge1 (by rw [show ((123 : Int32)).toInt = 123 from by decide]; omega)]
  rw [show own_ge c (192 : Int32) = 1 from own_ge1 (by rw [show ((192 : Int32)).toInt = 192 from by decide]; omega)]
  rw [show own_ge c (215 : Int32) = 1 from own_ge1 (by rw [show ((215 : Int32)).toInt = 215 from by decide]; omega)]
  rw [show own_ge c (216 : Int32) = 1 from own_ge1 (by rw [show ((216 : Int32)).toInt = 216 from by decide]; omega)]
  rw [show own_ge c (247 : Int32) = 1 from own_ge1 (by rw [show ((247 : Int32)).toInt = 247 from by decide]; omega)]
  rw [show own_ge c (248 : Int32) = 1 from own_ge1 (by rw [show ((248 : Int32)).toInt = 248 from by decide]; omega)]
  rw [show own_ge c (768 : Int32) = 1 from own_ge1 (by rw [show ((768 : Int32)).toInt = 768 from by decide]; omega)]
  rw [show own_ge c (880 : Int32) = 1 from own_ge1 (by rw [show ((880 : Int32)).toInt = 880 from by decide]; omega)]
  rw [show own_ge c (894 : Int32) = 0 from own_ge0 (by rw [show ((894 : Int32)).toInt = 894 from by decide]; omega)]
  rw [show own_ge c (895 : Int32) = 0 from own_ge0 (by rw [show ((895 : Int32)).toInt = 895 from by decide]; omega)]
  rw [show own_ge c (8192 : Int32) = 0 from own_ge0 (by rw [show ((8192 : Int32)).toInt = 8192 from by decide]; omega)]
  rw [show own_ge c (8204 : Int32) = 0 from own_ge0 (by rw [show ((8204 : Int32)).toInt = 8204 from by decide]; omega)]
  rw [show own_ge c (8206 : Int32) = 0 from own_ge0 (by rw [show ((8206 : Int32)).toInt = 8206 from by decide]; omega)]
  rw [show own_ge c (8304 : Int32) = 0 from own_ge0 (by rw [show ((8304 : Int32)).toInt = 8304 from by decide]; omega)]
  rw [show own_ge c (8592 : Int32) = 0 from own_ge0 (by rw [show ((8592 : Int32)).toInt = 8592 from by decide]; omega)]
  rw [show own_ge c (11264 : Int32) = 0 from own_ge0 (by rw [show ((11264 : Int32)).toInt = 11264 from by decide]; omega)]
  rw [show own_ge c (12272 : Int32) = 0 from own_ge0 (by rw [show ((12272 : Int32)).toInt = 12272 from by decide]; omega)]
  rw [show own_ge c (12289 : Int32) = 0 from own_ge0 (by rw [show ((12289 : Int32)).toInt = 12289 from by decide]; omega)]
  rw [show own_ge c (55296 : Int32) = 0 from own_ge0 (by rw [show ((55296 : Int32)).toInt = 55296 from by decide]; omega)]
  rw [show own_ge c (63744 : Int32) = 0 from own_ge0 (by rw [show ((63744 : Int32)).toInt = 63744 from by decide]; omega)]
  rw [show own_ge c (64976 : Int32) = 0 from own_ge0 (by rw [show ((64976 : Int32)).toInt = 64976 from by decide]; omega)]
  rw [show own_ge c (65008 : Int32) = 0 from own_ge0 (by rw [show ((65008 : Int32)).toInt = 65008 from by decide]; omega)]
  rw [show own_ge c (65534 : Int32) = 0 from own_ge0 (by rw [show ((65534 : Int32)).toInt = 65534 from by decide]; omega)]
  rw [show own_ge c (65536 : Int32) = 0 from own_ge0 (by rw [show ((65536 : Int32)).toInt = 65536 from by decide]; omega)]
  rw [show own_ge c (983040 : Int32) = 0 from own_ge0 (by rw [show ((983040 : Int32)).toInt = 983040 from by decide]; omega)]
  rw [show own_e _ = 1 from by decide]
  show own_f0 c = 1
  rw [own_f0, if_neg (show ¬ (c < (97 : Int32)) from by rw [Int32.lt_iff_toInt_lt, show ((97 : Int32)).toInt = 97 from by decide]; omega)]
  show own_f6 c = 1
  rw [own_f6, if_pos (show (122 : Int32) < c from by rw [Int32.lt_iff_toInt_lt, show ((122 : Int32)).toInt = 122 from by decide]; omega)]
  show own_f12 c = 1
  rw [own_f12, if_neg (show ¬ (c < (65 : Int32)) from by rw [Int32.lt_iff_toInt_lt, show ((65 : Int32)).toInt = 65 from by decide]; omega)]
  show own_f18 c = 1
  rw [own_f18, if_pos (show (90 : Int32) < c from by rw [Int32.lt_iff_toInt_lt, show ((90 : Int32)).toInt = 90 from by decide]; omega)]
  show own_f24 c = 1
  rw [own_f24, if_neg (show ¬ (c = (95 : Int32)) from by intro q; have q2 := congrArg Int32.toInt q; rw [show ((95 : Int32)).toInt = 95 from by decide] at q2; omega)]
  show own_f30 c = 1
  rw [own_f30, if_neg (show ¬ (c < (192 : Int32)) from by rw [Int32.lt_iff_toInt_lt, show ((192 : Int32)).toInt = 192 from by decide]; omega)]
  show own_f37 c = 1
  rw [own_f37, if_pos (show (214 : Int32) < c from by rw [Int32.lt_iff_toInt_lt, show ((214 : Int32)).toInt = 214 from by decide]; omega)]
  show own_f44 c = 1
  rw [own_f44, if_neg (show ¬ (c < (216 : Int32)) from by rw [Int32.lt_iff_toInt_lt, show ((216 : Int32)).toInt = 216 from by decide]; omega)]
  show own_f51 c = 1
  rw [own_f51, if_pos (show (246 : Int32) < c from by rw [Int32.lt_iff_toInt_lt, show ((246 : Int32)).toInt = 246 from by decide]; omega)]
  show own_f58 c = 1
  rw [own_f58, if_neg (show ¬ (c < (248 : Int32)) from by rw [Int32.lt_iff_toInt_lt, show ((248 : Int32)).toInt = 248 from by decide]; omega)]
  show own_f65 c = 1
  rw [own_f65, if_pos (show (767 : Int32) < c from by rw [Int32.lt_iff_toInt_lt, show ((767 : Int32)).toInt = 767 from by decide]; omega)]
  show own_f72 c = 1
  rw [own_f72, if_neg (show ¬ (c < (880 : Int32)) from by rw [Int32.lt_iff_toInt_lt, show ((880 : Int32)).toInt = 880 from by decide]; omega)]
  show own_f79 c = 1
  rw [own_f79, if_neg (show ¬ ((893 : Int32) < c) from by rw [Int32.lt_iff_toInt_lt, show ((893 : Int32)).toInt = 893 from by decide]; omega)]
theorem own_leaf14 (c : Int32) (h1 : (894 : Int) ≤ c.toInt) (h2 : c.toInt < (895 : Int)) : own_f0 c = own_e ((((((((((((((((((((((((((((((own_ge c (65 : Int32)) + (own_ge c (91 : Int32))) + (own_ge c (95 : Int32))) + (own_ge c (96 : Int32))) + (own_ge c (97 : Int32))) + (own_ge c (123 : Int32))) + (own_ge c (192 : Int32))) + (own_ge c (215 : Int32))) + (own_ge c (216 : Int32))) + (own_ge c (247 : Int32))) + (own_ge c (248 : Int32))) + (own_ge c (768 : Int32))) + (own_ge c (880 : Int32))) + (own_ge c (894 : Int32))) + (own_ge c (895 : Int32))) + (own_ge c (8192 : Int32))) + (own_ge c (8204 : Int32))) + (own_ge c (8206 : Int32))) + (own_ge c (8304 : Int32))) + (own_ge c (8592 : Int32))) + (own_ge c (11264 : Int32))) + (own_ge c (12272 : Int32))) + (own_ge c (12289 : Int32))) + (own_ge c (55296 : Int32))) + (own_ge c (63744 : Int32))) + (own_ge c (64976 : Int32))) + (own_ge c (65008 : Int32))) + (own_ge c (65534 : Int32))) + (own_ge c (65536 : Int32))) + (own_ge c (983040 : Int32))) := by
  rw [show own_ge c (65 : Int32) = 1 from own_ge1 (by rw [show ((65 : Int32)).toInt = 65 from by decide]; omega)]
  rw [show own_ge c (91 : Int32) = 1 from own_ge1 (by rw [show ((91 : Int32)).toInt = 91 from by decide]; omega)]
  rw [show own_ge c (95 : Int32) = 1 from own_ge1 (by rw [show ((95 : Int32)).toInt = 95 from by decide]; omega)]
  rw [show own_ge c (96 : Int32) = 1 from own_ge1 (by rw [show ((96 : Int32)).toInt = 96 from by decide]; omega)]
  rw [show own_ge c (97 : Int32) = 1 from own_ge1 (by rw [show ((97 : Int32)).toInt = 97 from by decide]; omega)]
  rw [show own_ge c (123 : Int32) = 1 from own_ge1 (by rw [show ((123 : Int32)).toInt = 123 from by decide]; omega)]
  rw [show own_ge c (192 : Int32) = 1 from own_ge1 (by rw [show ((192 : Int32)).toInt = 192 from by decide]; omega)]
  rw [show own_ge c (215 : Int32) = 1 from own_ge1 (by rw [show ((215 : Int32)).toInt = 215 from by decide]; omega)]
  rw [show own_ge c (216 : Int32) = 1 from own_ge1 (by rw [show ((216 : Int32)).toInt = 216 from by decide]; omega)]
  rw [show own_ge c (247 : Int32) = 1 from own_ge1 (by rw [show ((247 : Int32)).toInt = 247 from by decide]; omega)]
  rw [show own_ge c (248 : Int32) = 1 from own_ge1 (by rw [show ((248 : Int32)).toInt = 248 from by decide]; omega)]
  rw [show own_ge c (768 : Int32) = 1 from own_ge1 (by rw [show ((768 : Int32)).toInt = 768 from by decide]; omega)]
  rw [show own_ge c (880 : Int32) = 1 from own_ge1 (by rw [show ((880 : Int32)).toInt = 880 from by decide]; omega)]
  rw [show own_ge c (894 : Int32) = 1 from own_ge1 (by rw [show ((894 : Int32)).toInt = 894 from by decide]; omega)]
  rw [show own_ge c (895 : Int32) = 0 from own_ge0 (by rw [show ((895 : Int32)).toInt = 895 from by decide]; omega)]
  rw [show own_ge c (8192 : Int32) = 0 from own_ge0 (by rw [show ((8192 : Int32)).toInt = 8192 from by decide]; omega)]
  rw [show own_ge c (8204 : Int32) = 0 from own_ge0 (by rw [show ((8204 : Int32)).toInt = 8204 from by decide]; omega)]
  rw [show own_ge c (8206 : Int32) = 0 from own_ge0 (by rw [show ((8206 : Int32)).toInt = 8206 from by decide]; omega)]
  rw [show own_ge c (8304 : Int32) = 0 from own_ge0 (by rw [show ((8304 : Int32)).toInt = 8304 from by decide]; omega)]
  rw [show own_ge c (8592 : Int32) = 0 from own_ge0 (by rw [show ((8592 : Int32)).toInt = 8592 from by decide]; omega)]
  rw [show own_ge c (11264 : Int32) = 0 from own_ge0 (by rw [show ((11264 : Int32)).toInt = 11264 from by decide]; omega)]
  rw [show own_ge c (12272 : Int32) = 0 from own_ge0 (by rw [show ((12272 : Int32)).toInt = 12272 from by decide]; omega)]
  rw [show own_ge c (12289 : Int32) = 0 from own_ge0 (by rw [show ((12289 : Int32)).toInt = 12289 from by decide]; omega)]
  rw [show own_ge c (55296 : Int32) = 0 from own_ge0 (by rw [show ((55296 : Int32)).toInt = 55296 from by decide]; omega)]
  rw [show own_ge c (63744 : Int32) = 0 from own_ge0 (by rw [show ((63744 : Int32)).toInt = 63744 from by decide]; omega)]
  rw [show own_ge c (64976 : Int32) = 0 from own_ge0 (by rw [show ((64976 : Int32)).toInt = 64976 from by decide]; omega)]
  rw [show own_ge c (65008 : Int32) = 0 from own_ge0 (by rw [show ((65008 : Int32)).toInt = 65008 from by decide]; omega)]
  rw [show own_ge c (65534 : Int32) = 0 from own_ge0 (by rw [show ((65534 : Int32)).toInt = 65534 from by decide]; omega)]
  rw [show own_ge c (65536 : Int32) = 0 from own_ge0 (by rw [show ((65536 : Int32)).toInt = 65536 from by decide]; omega)]
  rw [show own_ge c (983040 : Int32) = 0 from own_ge0 (by rw [show ((983040 : Int32)).toInt = 983040 from by decide]; omega)]
  rw [show own_e _ = 0 from by decide]
  show own_f0 c = 0
  rw [own_f0, if_neg (show ¬ (c < (97 : Int32)) from by rw [Int32.lt_iff_toInt_lt, show ((97 : Int32)).toInt = 97 from by decide]; omega)]
  show own_f6 c = 0
  rw [own_f6, if_pos (show (122 : Int32) < c from by rw [Int32.lt_iff_toInt_lt, show ((122 : Int32)).toInt = 122 from by decide]; omega)]
  show own_f12 c = 0
  rw [own_f12, if_neg (show ¬ (c < (65 : Int32)) from by rw [Int32.lt_iff_toInt_lt, show ((65 : Int32)).toInt = 65 from by decide]; omega)]
  show own_f18 c = 0
  rw [own_f18, if_pos (show (90 : Int32) < c from by rw [Int32.lt_iff_toInt_lt, show ((90 : Int32)).toInt = 90 from by decide]; omega)]
  show own_f24 c = 0
  rw [own_f24, if_neg (show ¬ (c = (95 : Int32)) from by intro q; have q2 := congrArg Int32.toInt q; rw [show ((95 : Int32)).toInt = 95 from by decide] at q2; omega)]
  show own_f30 c = 0
  rw [own_f30, if_neg (show ¬ (c < (192 : Int32)) from by rw [Int32.lt_iff_toInt_lt, show ((192 : Int32)).toInt = 192 from by decide]; omega)]
  show own_f37 c = 0
  rw [own_f37, if_pos (show (214 : Int32) < c from by rw [Int32.lt_iff_toInt_lt, show ((214 : Int32)).toInt = 214 from by decide]; omega)]
  show own_f44 c = 0
  rw [own_f44, if_neg (show ¬ (c < (216 : Int32)) from by rw [Int32.lt_iff_toInt_lt, show ((216 : Int32)).toInt = 216 from by decide]; omega)]
  show own_f51 c = 0
  rw [own_f51, if_pos (show (246 : Int32) < c from by rw [Int32.lt_iff_toInt_lt, show ((246 : Int32)).toInt = 246 from by decide]; omega)]
  show own_f58 c = 0
  rw [own_f58, if_neg (show ¬ (c < (248 : Int32)) from by rw [Int32.lt_iff_toInt_lt, show ((248 : Int32)).toInt = 248 from by decide]; omega)]
  show own_f65 c = 0
  rw [own_f65, if_pos (show (767 : Int32) < c from by rw [Int32.lt_iff_toInt_lt, show ((767 : Int32)).toInt = 767 from by decide]; omega)]
  show own_f72 c = 0
  rw [own_f72, if_neg (show ¬ (c < (880 : Int32)) from by rw [Int32.lt_iff_toInt_lt, show ((880 : Int32)).toInt = 880 from by decide]; omega)]
  show own_f79 c = 0
  rw [own_f79, if_pos (show (893 : Int32) < c from by rw [Int32.lt_iff_toInt_lt, show ((893 : Int32)).toInt = 893 from by decide]; omega)]
  show own_f86 c = 0
  rw [own_f86, if_pos (show c < (895 : Int32) from by rw [Int32.lt_iff_toInt_lt, show ((895 : Int32)).toInt = 895 from by decide]; omega)]
  show own_f100 c = 0
  rw [own_f100, if_neg (show ¬ (c = (8204 : Int32)) from by intro q; have q2 := congrArg Int32.toInt q; rw [show ((8204 : Int32)).toInt = 8204 from by decide] at q2; omega)]
  show own_f107 c = 0
  rw [own_f107, if_neg (show ¬ (c = (8205 : Int32)) from by intro q; have q2 := congrArg Int32.toInt q; rw [show ((8205 : Int32)).toInt = 8205 from by decide] at q2; omega)]
  show own_f114 c = 0
  rw [own_f114, if_pos (show c < (8304 : Int32) from by rw [Int32.lt_iff_toInt_lt, show ((8304 : Int32)).toInt = 8304 from by decide]; omega)]
  show own_f128 c = 0
  rw [own_f128, if_pos (show c < (11264 : Int32) from by rw [Int32.lt_iff_toInt_lt, show ((11264 : Int32)).toInt = 11264 from by decide]; omega)]
  show own_f142 c = 0
  rw [own_f142, if_pos (show c < (12289 : Int32) from by rw [Int32.lt_iff_toInt_lt, show ((12289 : Int32)).toInt = 12289 from by decide]; omega)]
  show own_f155 c = 0
  rw [own_f155, if_pos (show c < (63744 : Int32) from by rw [Int32.lt_iff_toInt_lt, show ((63744 : Int32)).toInt = 63744 from by decide]; omega)]
  show own_f167 c = 0
  rw [own_f167, if_pos (show c < (65008 : Int32) from by rw [Int32.lt_iff_toInt_lt, show ((65008 : Int32)).toInt = 65008 from by decide]; omega)]
  show own_f179 c = 0
  rw [own_f179, if_pos (show c < (65536 : Int32) from by rw [Int32.lt_iff_toInt_lt, show ((65536 : Int32)).toInt = 65536 from by decide]; omega)]
theorem own_leaf15 (c : Int32) (h1 : (895 : Int) ≤ c.toInt) (h2 : c.toInt < (8192 : Int)) : own_f0 c = own_e ((((((((((((((((((((((((((((((own_ge c (65 : Int32)) + (own_ge c (91 : Int32))) + (own_ge c (95 : Int32))) + (own_ge c (96 : Int32))) + (own_ge c (97 : Int32))) + (own_ge c (123 : Int32))) + (own_ge c (192 : Int32))) + (own_ge c (215 : Int32))) + (own_ge c (216 : Int32))) + (own_ge c (247 : Int32))) + (own_ge c (248 : Int32))) + (own_ge c (768 : Int32))) + (own_ge c (880 : Int32))) + (own_ge c (894 : Int32))) + (own_ge c (895 : Int32))) + (own_ge c (8192 : Int32))) + (own_ge c (8204 : Int32))) + (own_ge c (8206 : Int32))) + (own_ge c (8304 : Int32))) + (own_ge c (8592 : Int32))) + (own_ge c (11264 : Int32))) + (own_ge c (12272 : Int32))) + (own_ge c (12289 : Int32))) + (own_ge c (55296 : Int32))) + (own_ge c (63744 : Int32))) + (own_ge c (64976 : Int32))) + (own_ge c (65008 : Int32))) + (own_ge c (65534 : Int32))) + (own_ge c (65536 : Int32))) + (own_ge c (983040 : Int32))) := by
  rw [show own_ge c (65 : Int32) = 1 from own_ge1 (by rw [show ((65 : Int32)).toInt = 65 from by decide]; omega)]
  rw [show own_ge c (91 : Int32) = 1 from own_ge1 (by rw [show ((91 : Int32)).toInt = 91 from by decide]; omega)]
  rw [show own_ge c (95 : Int32) = 1 from own_ge1 (by rw [show ((95 : Int32)).toInt = 95 from by decide]; omega)]
  rw [show own_ge c (96 : Int32) = 1 from own_ge1 (by rw [show ((96 : Int32)).toInt = 96 from by decide]; omega)]
  rw [show own_ge c (97 : Int32) = 1 from own_ge1 (by rw [show ((97 : Int32)).toInt = 97 from by decide]; omega)]
  rw [show own_ge c (123 : Int32) = 1 from own_ge1 (by rw [show ((123 : Int32)).toInt = 123 from by decide]; omega)]
  rw [show own_ge c (192 : Int32) = 1 from own_ge1 (by rw [show ((192 : Int32)).toInt = 192 from by decide]; omega)]
  rw [show own_ge c (215 : Int32) = 1 from own_ge1 (by rw [show ((215 : Int32)).toInt = 215 from by decide]; omega)]
  rw [show own_ge c (216 : Int32) = 1 from own_ge1 (by rw [show ((216 : Int32)).toInt = 216 from by decide]; omega)]
  rw [show own_ge c (247 : Int32) = 1 from own_ge1 (by rw [show ((247 : Int32)).toInt = 247 from by decide]; omega)]
  rw [show own_ge c (248 : Int32) = 1 from own_ge1 (by rw [show ((248 : Int32)).toInt = 248 from by decide]; omega)]
  rw [show own_ge c (768 : Int32) = 1 from own_ge1 (by rw [show ((768 : Int32)).toInt = 768 from by decide]; omega)]
  rw [show own_ge c (880 : Int32) = 1 from own_ge1 (by rw [show ((880 : Int32)).toInt = 880 from by decide]; omega)]
  rw [show own_ge c (894 : Int32) = 1 from own_ge1 (by rw [show ((894 : Int32)).toInt = 894 from by decide]; omega)]
  rw [show own_ge c (895 : Int32) = 1 from own_ge1 (by rw [show ((895 : Int32)).toInt = 895 from by decide]; omega)]
  rw [show own_ge c (8192 : Int32) = 0 from own_ge0 (by rw [show ((8192 : Int32)).toInt = 8192 from by decide]; omega)]
  rw [show own_ge c (8204 : Int32) = 0 from own_ge0 (by rw [show ((8204 : Int32)).toInt = 8204 from by decide]; omega)]
  rw [show own_ge c (8206 : Int32) = 0 from own_ge0 (by rw [show ((8206 : Int32)).toInt = 8206 from by decide]; omega)]
  rw [show own_ge c (8304 : Int32) = 0 from own_ge0 (by rw [show ((8304 : Int32)).toInt = 8304 from by decide]; omega)]
  rw [show own_ge c (8592 : Int32) = 0 from own_ge0 (by rw [show ((8592 : Int32)).toInt = 8592 from by decide]; omega)]
  rw [show own_ge c (11264 : Int32) = 0 from own_ge0 (by rw [show ((11264 : Int32)).toInt = 11264 from by decide]; omega)]
  rw [show own_ge c (12272 : Int32) = 0 from own_ge0 (by rw [show ((12272 : Int32)).toInt = 12272 from by decide]; omega)]
  rw [show own_ge c (12289 : Int32) = 0 from own_ge0 (by rw [show ((12289 : Int32)).toInt = 12289 from by decide]; omega)]
  rw [show own_ge c (55296 : Int32) = 0 from own_ge0 (by rw [show ((55296 : Int32)).toInt = 55296 from by decide]; omega)]
  rw [show own_ge c (63744 : Int32) = 0 from own_ge0 (by rw [show ((63744 : Int32)).toInt = 63744 from by decide]; omega)]
  rw [show own_ge c (64976 : Int32) = 0 from own_ge0 (by rw [show ((64976 : Int32)).toInt = 64976 from by decide]; omega)]
  rw [show own_ge c (65008 : Int32) = 0 from own_ge0 (by rw [show ((65008 : Int32)).toInt = 65008 from by decide]; omega)]
  rw [show own_ge c (65534 : Int32) = 0 from own_ge0 (by rw [show ((65534 : Int32)).toInt = 65534 from by decide]; omega)]
  rw [show own_ge c (65536 : Int32) = 0 from own_ge0 (by rw [show ((65536 : Int32)).toInt = 65536 from by decide]; omega)]
  rw [show own_ge c (983040 : Int32) = 0 from own_ge0 (by rw [show ((983040 : Int32)).toInt = 983040 from by decide]; omega)]
  rw [show own_e _ = 1 from by decide]
  show own_f0 c = 1
  rw [own_f0, if_neg (show ¬ (c < (97 : Int32)) from by rw [Int32.lt_iff_toInt_lt, show ((97 : Int32)).toInt = 97 from by decide]; omega)]
  show own_f6 c = 1
  rw [own_f6, if_pos (show (122 : Int32) < c from by rw [Int32.lt_iff_toInt_lt, show ((122 : Int32)).toInt = 122 from by decide]; omega)]
  show own_f12 c = 1
  rw [own_f12, if_neg (show ¬ (c < (65 : Int32)) from by rw [Int32.lt_iff_toInt_lt, show ((65 : Int32)).toInt = 65 from by decide]; omega)]
  show own_f18 c = 1
  rw [own_f18, if_pos (show (90 : Int32) < c from by rw [Int32.lt_iff_toInt_lt, show ((90 : Int32)).toInt = 90 from by decide]; omega)]
  show own_f24 c = 1
  rw [own_f24, if_neg (show ¬ (c = (95 : Int32)) from by intro q; have q2 := congrArg Int32.toInt q; rw [show ((95 : Int32)).toInt = 95 from by decide] at q2; omega)]
  show own_f30 c = 1
  rw [own_f30, if_neg (show ¬ (c < (192 : Int32)) from by rw [Int32.lt_iff_toInt_lt, show ((192 : Int32)).toInt = 192 from by decide]; omega)]
  show own_f37 c = 1
  rw [own_f37, if_pos (show (214 : Int32) < c from by rw [Int32.lt_iff_toInt_lt, show ((214 : Int32)).toInt = 214 from by decide]; omega)]
  show own_f44 c = 1
  rw [own_f44, if_neg (show ¬ (c < (216 : Int32)) from by rw [Int32.lt_iff_toInt_lt, show ((216 : Int32)).toInt = 216 from by decide]; omega)]
  show own_f51 c = 1
  rw [own_f51, if_pos (show (246 : Int32) < c from by rw [Int32.lt_iff_toInt_lt, show ((246 : Int32)).toInt = 246 from by decide]; omega)]
  show own_f58 c = 1
  rw [own_f58, if_neg (show ¬ (c < (248 : Int32)) from by rw [Int32.lt_iff_toInt_lt, show ((248 : Int32)).toInt = 248 from by decide]; omega)]
  show own_f65 c = 1
  rw [own_f65, if_pos (show (767 : Int32) < c from by rw [Int32.lt_iff_toInt_lt, show ((767 : Int32)).toInt = 767 from by decide]; omega)]
  show own_f72 c = 1
  rw [own_f72, if_neg (show ¬ (c < (880 : Int32)) from by rw [Int32.lt_iff_toInt_lt, show ((880 : Int32)).toInt = 880 from by decide]; omega)]
  show own_f79 c = 1
  rw [own_f79, if_pos (show (893 : Int32) < c from by rw [Int32.lt_iff_toInt_lt, show ((893 : Int32)).toInt = 893 from by decide]; omega)]
  show own_f86 c = 1
  rw [own_f86, if_neg (show ¬ (c < (895 : Int32)) from by rw [Int32.lt_iff_toInt_lt, show ((895 : Int32)).toInt = 895 from by decide]; omega)]
  show own_f93 c = 1
  rw [own_f93, if_neg (show ¬ ((8191 : Int32) < c) from by rw [Int32.lt_iff_toInt_lt, show ((8191 : Int32)).toInt = 8191 from by decide]; omega)]
theorem own_leaf16 (c : Int32) (h1 : (8192 : Int) ≤ c.toInt) (h2 : c.toInt < (8204 : Int)) : own_f0 c = own_e ((((((((((((((((((((((((((((((own_ge c (65 : Int32)) + (own_ge c (91 : Int32))) + (own_ge c (95 : Int32))) + (own_ge c (96 : Int32))) + (own_ge c (97 : Int32))) + (own_ge c (123 : Int32))) + (own_ge c (192 : Int32))) + (own_ge c (215 : Int32))) + (own_ge c (216 : Int32))) + (own_ge c (247 : Int32))) + (own_ge c (248 : Int32))) + (own_ge c (768 : Int32))) + (own_ge c (880 : Int32))) + (own_ge c (894 : Int32))) + (own_ge c (895 : Int32))) + (own_ge c (8192 : Int32))) + (own_ge c (8204 : Int32))) + (own_ge c (8206 : Int32))) + (own_ge c (8304 : Int32))) + (own_ge c (8592 : Int32))) + (own_ge c (11264 : Int32))) + (own_ge c (12272 : Int32))) + (own_ge c (12289 : Int32))) + (own_ge c (55296 : Int32))) + (own_ge c (63744 : Int32))) + (own_ge c (64976 : Int32))) + (own_ge c (65008 : Int32))) + (own_ge c (65534 : Int32))) + (own_ge c (65536 : Int32))) + (own_ge c (983040 : Int32))) := by
  rw [show own_ge c (65 : Int32) = 1 from own_ge1 (by rw [show ((65 : Int32)).toInt = 65 from by decide]; omega)]
  rw [show own_ge c (91 : Int32) = 1 from own_ge1 (by rw [show ((91 : Int32)).toInt = 91 from by decide]; omega)]
  rw [show own_ge c (95 : Int32) = 1 from own_ge1 (by rw [show ((95 : Int32)).toInt = 95 from by decide]; omega)]
  rw [show own_ge c (96 : Int32) = 1 from own_ge1 (by rw [show ((96 : Int32)).toInt = 96 from by decide]; omega)]
  rw [show own_ge c (97 : Int32) = 1 from own_ge1 (by rw [show ((97 : Int32)).toInt = 97 from by decide]; omega)]
  rw [show own_ge c (123 : Int32) = 1 from own_ge1 (by rw [show ((123 : Int32)).toInt = 123 from by decide]; omega)]
  rw [show own_ge c (192 : Int32) = 1 from own_ge1 (by rw [show ((192 : Int32)).toInt = 192 from by decide]; omega)]
  rw [show own_ge c (215 : Int32) = 1 from own_ge1 (by rw [show ((215 : Int32)).toInt = 215 from by decide]; omega)]
  rw [show own_ge c (216 : Int32) = 1 from own_ge1 (by rw [show ((216 : Int32)).toInt = 216 from by decide]; omega)]
  rw [show own_ge c (247 : Int32) = 1 from own_ge1 (by rw [show ((247 : Int32)).toInt = 247 from by decide]; omega)]
  rw [show own_ge c (248 : Int32) = 1 from own_ge1 (by rw [show ((248 : Int32)).toInt = 248 from by decide]; omega)]
  rw [show own_ge c (768 : Int32) = 1 from own_ge1 (by rw [show ((768 : Int32)).toInt = 768 from by decide]; omega)]
  rw [show own_ge c (880 : Int32) = 1 from own_ge1 (by rw [show ((880 : Int32)).toInt = 880 from by decide]; omega)]
  rw [show own_ge c (894 : Int32) = 1 from own_ge1 (by rw [show ((894 : Int32)).toInt = 894 from by decide]; omega)]
  rw [show own_ge c (895 : Int32) = 1 from own_ge1 (by rw [show ((895 : Int32)).toInt = 895 from by decide]; omega)]
  rw [show own_ge c (8192 : Int32) = 1 from own_ge1 (by rw [show ((8192 : Int32)).toInt = 8192 from by decide]; omega)]
  rw [show own_ge c (8204 : Int32) = 0 from own_ge0 (by rw [show ((8204 : Int32)).toInt = 8204 from by decide]; omega)]
  rw [show own_ge c (8206 : Int32) = 0 from own_ge0 (by rw [show ((8206 : Int32)).toInt = 8206 from by decide]; omega)]
  rw [show own_ge c (8304 : Int32) = 0 from own_ge0 (by rw [show ((8304 : Int32)).toInt = 8304 from by decide]; omega)]
  rw [show own_ge c (8592 : Int32) = 0 from own_ge0 (by rw [show ((8592 : Int32)).toInt = 8592 from by decide]; omega)]
  rw [show own_ge c (11264 : Int32) = 0 from own_ge0 (by rw [show ((11264 : Int32)).toInt = 11264 from by decide]; omega)]
  rw [show own_ge c (12272 : Int32) = 0 from own_ge0 (by rw [show ((12272 : Int32)).toInt = 12272 from by decide]; omega)]
  rw [show own_ge c (12289 : Int32) = 0 from own_ge0 (by rw [show ((12289 : Int32)).toInt = 12289 from by decide]; omega)]
  rw [show own_ge c (55296 : Int32) = 0 from own_ge0 (by rw [show ((55296 : Int32)).toInt = 55296 from by decide]; omega)]
  rw [show own_ge c (63744 : Int32) = 0 from own_ge0 (by rw [show ((63744 : Int32)).toInt = 63744 from by decide]; omega)]
  rw [show own_ge c (64976 : Int32) = 0 from own_ge0 (by rw [show ((64976 : Int32)).toInt = 64976 from by decide]; omega)]
  rw [show own_ge c (65008 : Int32) = 0 from own_ge0 (by rw [show ((65008 : Int32)).toInt = 65008 from by decide]; omega)]
  rw [show own_ge c (65534 : Int32) = 0 from own_ge0 (by rw [show ((65534 : Int32)).toInt = 65534 from by decide]; omega)]
  rw [show own_ge c (65536 : Int32) = 0 from own_ge0 (by rw [show ((65536 : Int32)).toInt = 65536 from by decide]; omega)]
  rw [show own_ge c (983040 : Int32) = 0 from own_ge0 (by rw [show ((983040 : Int32)).toInt = 983040 from by decide]; omega)]
  rw [show own_e _ = 0 from by decide]
  show own_f0 c = 0
  rw [own_f0, if_neg (show ¬ (c < (97 : Int32)) from by rw [Int32.lt_iff_toInt_lt, show ((97 : Int32)).toInt = 97 from by decide]; omega)]
  show own_f6 c = 0
  rw [own_f6, if_pos (show (122 : Int32) < c from by rw [Int32.lt_iff_toInt_lt, show ((122 : Int32)).toInt = 122 from by decide]; omega)]
  show own_f12 c = 0
  rw [own_f12, if_neg (show ¬ (c < (65 : Int32)) from by rw [Int32.lt_iff_toInt_lt, show ((65 : Int32)).toInt = 65 from by decide]; omega)]
  show own_f18 c = 0
  rw [own_f18, if_pos (show (90 : Int32) < c from by rw [Int32.lt_iff_toInt_lt, show ((90 : Int32)).toInt = 90 from by decide]; omega)]
  show own_f24 c = 0
  rw [own_f24, if_neg (show ¬ (c = (95 : Int32)) from by intro q; have q2 := congrArg Int32.toInt q; rw [show ((95 : Int32)).toInt = 95 from by decide] at q2; omega)]
  show own_f30 c = 0
  rw [own_f30, if_neg (show ¬ (c < (192 : Int32)) from by rw [Int32.lt_iff_toInt_lt, show ((192 : Int32)).toInt = 192 from by decide]; omega)]
  show own_f37 c = 0
  rw [own_f37, if_pos (show (214 : Int32) < c from by rw [Int32.lt_iff_toInt_lt, show ((214 : Int32)).toInt = 214 from by decide]; omega)]
  show own_f44 c = 0
  rw [own_f44, if_neg (show ¬ (c < (216 : Int32)) from by rw [Int32.lt_iff_toInt_lt, show ((216 : Int32)).toInt = 216 from by decide]; omega)]
  show own_f51 c = 0
  rw [own_f51, if_pos (show (246 : Int32) < c from by rw [Int32.lt_iff_toInt_lt, show ((246 : Int32)).toInt = 246 from by decide]; omega)]
  show own_f58 c = 0
  rw [own_f58, if_neg (show ¬ (c < (248 : Int32)) from by rw [Int32.lt_iff_toInt_lt, show ((248 : Int32)).toInt = 248 from by decide]; omega)]
  show own_f65 c = 0
  rw [own_f65, if_pos (show (767 : Int32) < c from by rw [Int32.lt_iff_toInt_lt, show ((767 : Int32)).toInt = 767 from by decide]; omega)]
  show own_f72 c = 0
  rw [own_f72, if_neg (show ¬ (c < (880 : Int32)) from by rw [Int32.lt_iff_toInt_lt, show ((880 : Int32)).toInt = 880 from by decide]; omega)]
  show own_f79 c = 0
  rw [own_f79, if_pos (show (893 : Int32) < c from by rw [Int32.lt_iff_toInt_lt, show ((893 : Int32)).toInt = 893 from by decide]; omega)]
  show own_f86 c = 0
  rw [own_f86, if_neg (show ¬ (c < (895 : Int32)) from by rw [Int32.lt_iff_toInt_lt, show ((895 : Int32)).toInt = 895 from by decide]; omega)]
  show own_f93 c = 0
  rw [own_f93, if_pos (show (8191 : Int32) < c from by rw [Int32.lt_iff_toInt_lt, show ((8191 : Int32)).toInt = 8191 from by decide]; omega)]
  show own_f100 c = 0
  rw [own_f100, if_neg (show ¬ (c = (8204 : Int32)) from by intro q; have q2 := congrArg Int32.toInt q; rw [show ((8204 : Int32)).toInt = 8204 from by decide] at q2; omega)]
  show own_f107 c = 0
  rw [own_f107, if_neg (show ¬ (c = (8205 : Int32)) from by intro q; have q2 := congrArg Int32.toInt q; rw [show ((8205 : Int32)).toInt = 8205 from by decide] at q2; omega)]
  show own_f114 c = 0
  rw [own_f114, if_pos (show c < (8304 : Int32) from by rw [Int32.lt_iff_toInt_lt, show ((8304 : Int32)).toInt = 8304 from by decide]; omega)]
  show own_f128 c = 0
  rw [own_f128, if_pos (show c < (11264 : Int32) from by rw [Int32.lt_iff_toInt_lt, show ((11264 : Int32)).toInt = 11264 from by decide]; omega)]
  show own_f142 c = 0
  rw [own_f142, if_pos (show c < (12289 : Int32) from by rw [Int32.lt_iff_toInt_lt, show ((12289 : Int32)).toInt = 12289 from by decide]; omega)]
  show own_f155 c = 0
  rw [own_f155, if_pos (show c < (63744 : Int32) from by rw [Int32.lt_iff_toInt_lt, show ((63744 : Int32)).toInt = 63744 from by decide]; omega)]
  show own_f167 c = 0
  rw [own_f167, if_pos (show c < (65008 : Int32) from by rw [Int32.lt_iff_toInt_lt, show ((65008 : Int32)).toInt = 65008 from by decide]; omega)]
  show own_f179 c = 0
  rw [own_f179, if_pos (show c < (65536 : Int32) from by rw [Int32.lt_iff_toInt_lt, show ((65536 : Int32)).toInt = 65536 from by decide]; omega)]
theorem own_leaf17 (c : Int32) (h1 : (8204 : Int) ≤ c.toInt) (h2 : c.toInt < (8206 : Int)) : own_f0 c = own_e ((((((((((((((((((((((((((((((own_ge c (65 : Int32)) + (own_ge c (91 : Int32))) + (own_ge c (95 : Int32))) + (own_ge c (96 : Int32))) + (own_ge c (97 : Int32))) + (own_ge c (123 : Int32))) + (own_ge c (192 : Int32))) + (own_ge c (215 : Int32))) + (own_ge c (216 : Int32))) + (own_ge c (247 : Int32))) + (own_ge c (248 : Int32))) + (own_ge c (768 : Int32))) + (own_ge c (880 : Int32))) + (own_ge c (894 : Int32))) + (own_ge c (895 : Int32))) + (own_ge c (8192 : Int32))) + (own_ge c (8204 : Int32))) + (own_ge c (8206 : Int32))) + (own_ge c (8304 : Int32))) + (own_ge c (8592 : Int32))) + (own_ge c (11264 : Int32))) + (own_ge c (12272 : Int32))) + (own_ge c (12289 : Int32))) + (own_ge c (55296 : Int32))) + (own_ge c (63744 : Int32))) + (own_ge c (64976 : Int32))) + (own_ge c (65008 : Int32))) + (own_ge c (65534 : Int32))) + (own_ge c (65536 : Int32))) + (own_ge c (983040 : Int32))) := by
  rw [show own_ge c (65 : Int32) = 1 from own_ge1 (by rw [show ((65 : Int32)).toInt = 65 from by decide]; omega)]
  rw [show own_ge c (91 : Int32) = 1 from own_ge1 (by rw [show ((91 : Int32)).toInt = 91 from by decide]; omega)]
  rw [show own_ge c (95 : Int32) = 1 from own_ge1 (by rw [show ((95 : Int32)).toInt = 95 from by decide]; omega)]
  rw [show own_ge c (96 : Int32) = 1 from own_ge1 (by rw [show ((96 : Int32)).toInt = 96 from by decide]; omega)]
  rw [show own_ge c (97 : Int32) = 1 from own_ge1 (by rw [show ((97 : Int32)).toInt = 97 from by decide]; omega)]
  rw [show own_ge c (123 : Int32) = 1 from own_ge1 (by rw [show ((123 : Int32)).toInt = 123 from by decide]; omega)]
  rw [show own_ge c (192 : Int32) = 1 from own_ge1 (by rw [show ((192 : Int32)).toInt = 192 from by decide]; omega)]
  rw [show own_ge c (215 : Int32) = 1 from own_ge1 (by rw [show ((215 : Int32)).toInt = 215 from by decide]; omega)]
  rw [show own_ge c (216 : Int32) = 1 from own_ge1 (by rw [show ((216 : Int32)).toInt = 216 from by decide]; omega)]
  rw [show own_ge c (247 : Int32) = 1 from own_ge1 (by rw [show ((247 : Int32)).toInt = 247 from by decide]; omega)]
  rw [show own_ge c (248 : Int32) = 1 from own_ge1 (by rw [show ((248 : Int32)).toInt = 248 from by decide]; omega)]
  rw [show own_ge c (768 : Int32) = 1 from own_ge1 (by rw [show ((768 : Int32)).toInt = 768 from by decide]; omega)]
  rw [show own_ge c (880 : Int32) = 1 from own_ge1 (by rw [show ((880 : Int32)).toInt = 880 from by decide]; omega)]
  rw [show own_ge c (894 : Int32) = 1 from own_ge1 (by rw [show ((894 : Int32)).toInt = 894 from by decide]; omega)]
  rw [show own_ge c (895 : Int32) = 1 from own_ge1 (by rw [show ((895 : Int32)).toInt = 895 from by decide]; omega)]
  rw [show own_ge c (8192 : Int32) = 1 from own_ge1 (by rw [show ((8192 : Int32)).toInt = 8192 from by decide]; omega)]
  rw [show own_ge c (8204 : Int32) = 1 from own_ge1 (by rw [show ((8204 : Int32)).toInt = 8204 from by decide]; omega)]
  rw [show own_ge c (8206 : Int32) = 0 from own_ge0 (by rw [show ((8206 : Int32)).toInt = 8206 from by decide]; omega)]
  rw [show own_ge c (8304 : Int32) = 0 from own_ge0 (by rw [show ((8304 : Int32)).toInt = 8304 from by decide]; omega)]
  rw [show own_ge c (8592 : Int32) = 0 from own_ge0 (by rw [show ((8592 : Int32)).toInt = 8592 from by decide]; omega)]
  rw [show own_ge c (11264 : Int32) = 0 from own_ge0 (by rw [show ((11264 : Int32)).toInt = 11264 from by decide]; omega)]
  rw [show own_ge c (12272 : Int32) = 0 from own_ge0 (by rw [show ((12272 : Int32)).toInt = 12272 from by decide]; omega)]
  rw [show own_ge c (12289 : Int32) = 0 from own_ge0 (by rw [show ((12289 : Int32)).toInt = 12289 from by decide]; omega)]
  rw [show own_ge c (55296 : Int32) = 0 from own_ge0 (by rw [show ((55296 : Int32)).toInt = 55296 from by decide]; omega)]
  rw [show own_ge c (63744 : Int32) = 0 from own_ge0 (by rw [show ((63744 : Int32)).toInt = 63744 from by decide]; omega)]
  rw [show own_ge c (64976 : Int32) = 0 from own_ge0 (by rw [show ((64976 : Int32)).toInt = 64976 from by decide]; omega)]
  rw [show own_ge c (65008 : Int32) = 0 from own_ge0 (by rw [show ((65008 : Int32)).toInt = 65008 from by decide]; omega)]
  rw [show own_ge c (65534 : Int32) = 0 from own_ge0 (by rw [show ((65534 : Int32)).toInt = 65534 from by decide]; omega)]
  rw [show own_ge c (65536 : Int32) = 0 from own_ge0 (by rw [show ((65536 : Int32)).toInt = 65536 from by decide]; omega)]
  rw [show own_ge c (983040 : Int32) = 0 from own_ge0 (by rw [show ((983040 : Int32)).toInt = 983040 from by decide]; omega)]
  rw [show own_e _ = 1 from by decide]
  by_cases qq : c.toInt = 8204
  · show own_f0 c = 1
    rw [own_f0, if_neg (show ¬ (c < (97 : Int32)) from by rw [Int32.lt_iff_toInt_lt, show ((97 : Int32)).toInt = 97 from by decide]; omega)]
    show own_f6 c = 1
    rw [own_f6, if_pos (show (122 : Int32) < c from by rw [Int32.lt_iff_toInt_lt, show ((122 : Int32)).toInt = 122 from by decide]; omega)]
    show own_f12 c = 1
    rw [own_f12, if_neg (show ¬ (c < (65 : Int32)) from by rw [Int32.lt_iff_toInt_lt, show ((65 : Int32)).toInt = 65 from by decide]; omega)]
    show own_f18 c = 1
    rw [own_f18, if_pos (show (90 : Int32) < c from by rw [Int32.lt_iff_toInt_lt, show ((90 : Int32)).toInt = 90 from by decide]; omega)]
    show own_f24 c = 1
    rw [own_f24, if_neg (show ¬ (c = (95 : Int32)) from by intro q; have q2 := congrArg Int32.toInt q; rw [show ((95 : Int32)).toInt = 95 from by decide] at q2; omega)]
    show own_f30 c = 1
    rw [own_f30, if_neg (show ¬ (c < (192 : Int32)) from by rw [Int32.lt_iff_toInt_lt, show ((192 : Int32)).toInt = 192 from by decide]; omega)]
    show own_f37 c = 1
    rw [own_f37, if_pos (show (214 : Int32) < c from by rw [Int32.lt_iff_toInt_lt, show ((214 : Int32)).toInt = 214 from by decide]; omega)]
    show own_f44 c = 1
    rw [own_f44, if_neg (show ¬ (c < (216 : Int32)) from by rw [Int32.lt_iff_toInt_lt, show ((216 : Int32)).toInt = 216 from by decide]; omega)]
    show own_f51 c = 1
    rw [own_f51, if_pos (show (246 : Int32) < c from by rw [Int32.lt_iff_toInt_lt, show ((246 : Int32)).toInt = 246 from by decide]; omega)]
    show own_f58 c = 1
    rw [own_f58, if_neg (show ¬ (c < (248 : Int32)) from by rw [Int32.lt_iff_toInt_lt, show ((248 : Int32)).toInt = 248 from by decide]; omega)]
    show own_f65 c = 1
    rw [own_f65, if_pos (show (767 : Int32) < c from by rw [Int32.lt_iff_toInt_lt, show ((767 : Int32)).toInt = 767 from by decide]; omega)]
    show own_f72 c = 1
    rw [own_f72, if_neg (show ¬ (c < (880 : Int32)) from by rw [Int32.lt_iff_toInt_lt, show ((880 : Int32)).toInt = 880 from by decide]; omega)]
    show own_f79 c = 1
    rw [own_f79, if_pos (show (893 : Int32) < c from by rw [Int32.lt_iff_toInt_lt, show ((893 : Int32)).toInt = 893 from by decide]; omega)]
    show own_f86 c = 1
    rw [own_f86, if_neg (show ¬ (c < (895 : Int32)) from by rw [Int32.lt_iff_toInt_lt, show ((895 : Int32)).toInt = 895 from by decide]; omega)]
    show own_f93 c = 1
    rw [own_f93, if_pos (show (8191 : Int32) < c from by rw [Int32.lt_iff_toInt_lt, show ((8191 : Int32)).toInt = 8191 from by decide]; omega)]
    show own_f100 c = 1
    rw [own_f100, if_pos (show c = (8204 : Int32) from by apply Int32.toInt_inj.mp; rw [show ((8204 : Int32)).toInt = 8204 from by decide]; omega)]
  · show own_f0 c = 1
    rw [own_f0, if_neg (show ¬ (c < (97 : Int32)) from by rw [Int32.lt_iff_toInt_lt, show ((97 : Int32)).toInt = 97 from by decide]; omega)]
    show own_f6 c = 1
    rw [own_f6, if_pos (show (122 : Int32) < c from by rw [Int32.lt_iff_toInt_lt, show ((122 : Int32)).toInt = 122 from by decide]; omega)]
    show own_f12 c = 1
    rw [own_f12, if_neg (show ¬ (c < (65 : Int32)) from by rw [Int32.lt_iff_toInt_lt, show ((65 : Int32)).toInt = 65 from by decide]; omega)]
    show own_f18 c = 1
    rw [own_f18, if_pos (show (90 : Int32) < c from by rw [Int32.lt_iff_toInt_lt, show ((90 : Int32)).toInt = 90 from by decide]; omega)]
    show own_f24 c = 1
    rw [own_f24, if_neg (show ¬ (c = (95 : Int32)) from by intro q; have q2 := congrArg Int32.toInt q; rw [show ((95 : Int32)).toInt = 95 from by decide] at q2; omega)]
    show own_f30 c = 1
    rw [own_f30, if_neg (show ¬ (c < (192 : Int32)) from by rw [Int32.lt_iff_toInt_lt, show ((192 : Int32)).toInt = 192 from by decide]; omega)]
    show own_f37 c = 1
    rw [own_f37, if_pos (show (214 : Int32) < c from by rw [Int32.lt_iff_toInt_lt, show ((214 : Int32)).toInt = 214 from by decide]; omega)]
    show own_f44 c = 1
    rw [own_f44, if_neg (show ¬ (c < (216 : Int32)) from by rw [Int32.lt_iff_toInt_lt, show ((216 : Int32)).toInt = 216 from by decide]; omega)]
    show own_f51 c = 1
    rw [own_f51, if_pos (show (246 : Int32) < c from by rw [Int32.lt_iff_toInt_lt, show ((246 : Int32)).toInt = 246 from by decide]; omega)]
    show own_f58 c = 1
    rw [own_f58, if_neg (show ¬ (c < (248 : Int32)) from by rw [Int32.lt_iff_toInt_lt, show ((248 : Int32)).toInt = 248 from by decide]; omega)]
    show own_f65 c = 1
    rw [own_f65, if_pos (show (767 : Int32) < c from by rw [Int32.lt_iff_toInt_lt, show ((767 : Int32)).toInt = 767 from by decide]; omega)]
    show own_f72 c = 1
    rw [own_f72, if_neg (show ¬ (c < (880 : Int32)) from by rw [Int32.lt_iff_toInt_lt, show ((880 : Int32)).toInt = 880 from by decide]; omega)]
    show own_f79 c = 1
    rw [own_f79, if_pos (show (893 : Int32) < c from by rw [Int32.lt_iff_toInt_lt, show ((893 : Int32)).toInt = 893 from by decide]; omega)]
    show own_f86 c = 1
    rw [own_f86, if_neg (show ¬ (c < (895 : Int32)) from by rw [Int32.lt_iff_toInt_lt, show ((895 : Int32)).toInt = 895 from by decide]; omega)]
    show own_f93 c = 1
    rw [own_f93, if_pos (show (8191 : Int32) < c from by rw [Int32.lt_iff_toInt_lt, show ((8191 : Int32)).toInt = 8191 from by decide]; omega)]
    show own_f100 c = 1
    rw [own_f100, if_neg (show ¬ (c = (8204 : Int32)) from by intro q; have q2 := congrArg Int32.toInt q; rw [show ((8204 : Int32)).toInt = 8204 from by decide] at q2; omega)]
    show own_f107 c = 1
    rw [own_f107, if_pos (show c = (8205 : Int32) from by apply Int32.toInt_inj.mp; rw [show ((8205 : Int32)).toInt = 8205 from by decide]; omega)]
theorem own_leaf18 (c : Int32) (h1 : (8206 : Int) ≤ c.toInt) (h2 : c.toInt < (8304 : Int)) : own_f0 c = own_e ((((((((((((((((((((((((((((((own_ge c (65 : Int32)) + (own_ge c (91 : Int32))) + (own_ge c (95 : Int32))) + (own_ge c (96 : Int32))) + (own_ge c (97 : Int32))) + (own_ge c (123 : Int32))) + (own_ge c (192 : Int32))) + (own_ge c (215 : Int32))) + (own_ge c (216 : Int32))) + (own_ge c (247 : Int32))) + (own_ge c (248 : Int32))) + (own_ge c (768 : Int32))) + (own_ge c (880 : Int32))) + (own_ge c (894 : Int32))) + (own_ge c (895 : Int32))) + (own_ge c (8192 : Int32))) + (own_ge c (8204 : Int32))) + (own_ge c (8206 : Int32))) + (own_ge c (8304 : Int32))) + (own_ge c (8592 : Int32))) + (own_ge c (11264 : Int32))) + (own_ge c (12272 : Int32))) + (own_ge c (12289 : Int32))) + (own_ge c (55296 : Int32))) + (own_ge c (63744 : Int32))) + (own_ge c (64976 : Int32))) + (own_ge c (65008 : Int32))) + (own_ge c (65534 : Int32))) + (own_ge c (65536 : Int32))) + (own_ge c (983040 : Int32))) := by
  rw [show own_ge c (65 : Int32) = 1 from own_ge1 (by rw [show ((65 : Int32)).toInt = 65 from by decide]; omega)]
  rw [show own_ge c (91 : Int32) = 1 from own_ge1 (by rw [show ((91 : Int32)).toInt = 91 from by decide]; omega)]
  rw [show own_ge c (95 : Int32) = 1 from own_ge1 (by rw [show ((95 : Int32)).toInt = 95 from by decide]; omega)]
  rw [show own_ge c (96 : Int32) = 1 from own_ge1 (by rw [show ((96 : Int32)).toInt = 96 from by decide]; omega)]
  rw [show own_ge c (97 : Int32) = 1 from own_ge1 (by rw [show ((97 : Int32)).toInt = 97 from by decide]; omega)]
  rw [show own_ge c (123 : Int32) = 1 from own_ge1 (by rw [show ((123 : Int32)).toInt = 123 from by decide]; omega)]
  rw [show own_ge c (192 : Int32) = 1 from own_ge1 (by rw [show ((192 : Int32)).toInt = 192 from by decide]; omega)]
  rw [show own_ge c (215 : Int32) = 1 from own_ge1 (by rw [show ((215 : Int32)).toInt = 215 from by decide]; omega)]
  rw [show own_ge c (216 : Int32) = 1 from own_ge1 (by rw [show ((216 : Int32)).toInt = 216 from by decide]; omega)]
  rw [show own_ge c (247 : Int32) = 1 from own_ge1 (by rw [show ((247 : Int32)).toInt = 247 from by decide]; omega)]
  rw [show own_ge c (248 : Int32) = 1 from own_ge1 (by rw [show ((248 : Int32)).toInt = 248 from by decide]; omega)]
  rw [show own_ge c (768 : Int32) = 1 from own_ge1 (by rw [show ((768 : Int32)).toInt = 768 from by decide]; omega)]
  rw [show own_ge c (880 : Int32) = 1 from own_ge1 (by rw [show ((880 : Int32)).toInt = 880 from by decide]; omega)]
  rw [show own_ge c (894 : Int32) = 1 from own_ge1 (by rw [show ((894 : Int32)).toInt = 894 from by decide]; omega)]
  rw [show own_ge c (895 : Int32) = 1 from own_ge1 (by rw [show ((895 : Int32)).toInt = 895 from by decide]; omega)]
  rw [show own_ge c (8192 : Int32) = 1 from own_ge1 (by rw [show ((8192 : Int32)).toInt = 8192 from by decide]; omega)]
  rw [show own_ge c (8204 : Int32) = 1 from own_ge1 (by rw [show ((8204 : Int32)).toInt = 8204 from by decide]; omega)]
  rw [show own_ge c (8206 : Int32) = 1 from own_ge1 (by rw [show ((8206 : Int32)).toInt = 8206 from by decide]; omega)]
  rw [show own_ge c (8304 : Int32) = 0 from own_ge0 (by rw [show ((8304 : Int32)).toInt = 8304 from by decide]; omega)]
  rw [show own_ge c (8592 : Int32) = 0 from own_ge0 (by rw [show ((8592 : Int32)).toInt = 8592 from by decide]; omega)]
  rw [show own_ge c (11264 : Int32) = 0 from own_ge0 (by rw [show ((11264 : Int32)).toInt = 11264 from by decide]; omega)]
  rw [show own_ge c (12272 : Int32) = 0 from own_ge0 (by rw [show ((12272 : Int32)).toInt = 12272 from by decide]; omega)]
  rw [show own_ge c (12289 : Int32) = 0 from own_ge0 (by rw [show ((12289 : Int32)).toInt = 12289 from by decide]; omega)]
  rw [show own_ge c (55296 : Int32) = 0 from own_ge0 (by rw [show ((55296 : Int32)).toInt = 55296 from by decide]; omega)]
  rw [show own_ge c (63744 : Int32) = 0 from own_ge0 (by rw [show ((63744 : Int32)).toInt = 63744 from by decide]; omega)]
  rw [show own_ge c (64976 : Int32) = 0 from own_ge0 (by rw [show ((64976 : Int32)).toInt = 64976 from by decide]; omega)]
  rw [show own_ge c (65008 : Int32) = 0 from own_ge0 (by rw [show ((65008 : Int32)).toInt = 65008 from by decide]; omega)]
  rw [show own_ge c (65534 : Int32) = 0 from own_ge0 (by rw [show ((65534 : Int32)).toInt = 65534 from by decide]; omega)]
  rw [show own_ge c (65536 : Int32) = 0 from own_ge0 (by rw [show ((65536 : Int32)).toInt = 65536 from by decide]; omega)]
  rw [show own_ge c (983040 : Int32) = 0 from own_ge0 (by rw [show ((983040 : Int32)).toInt = 983040 from by decide]; omega)]
  rw [show own_e _ = 0 from by decide]
  show own_f0 c = 0
  rw [own_f0, if_neg (show ¬ (c < (97 : Int32)) from by rw [Int32.lt_iff_toInt_lt, show ((97 : Int32)).toInt = 97 from by decide]; omega)]
  show own_f6 c = 0
  rw [own_f6, if_pos (show (122 : Int32) < c from by rw [Int32.lt_iff_toInt_lt, show ((122 : Int32)).toInt = 122 from by decide]; omega)]
  show own_f12 c = 0
  rw [own_f12, if_neg (show ¬ (c < (65 : Int32)) from by rw [Int32.lt_iff_toInt_lt, show ((65 : Int32)).toInt = 65 from by decide]; omega)]
  show own_f18 c = 0
  rw [own_f18, if_pos (show (90 : Int32) < c from by rw [Int32.lt_iff_toInt_lt, show ((90 : Int32)).toInt = 90 from by decide]; omega)]
  show own_f24 c = 0
  rw [own_f24, if_neg (show ¬ (c = (95 : Int32)) from by intro q; have q2 := congrArg Int32.toInt q; rw [show ((95 : Int32)).toInt = 95 from by decide] at q2; omega)]
  show own_f30 c = 0
  rw [own_f30, if_neg (show ¬ (c < (192 : Int32)) from by rw [Int32.lt_iff_toInt_lt, show ((192 : Int32)).toInt = 192 from by decide]; omega)]
  show own_f37 c = 0
  rw [own_f37, if_pos (show (214 : Int32) < c from by rw [Int32.lt_iff_toInt_lt, show ((214 : Int32)).toInt = 214 from by decide]; omega)]
  show own_f44 c = 0
  rw [own_f44, if_neg (show ¬ (c < (216 : Int32)) from by rw [Int32.lt_iff_toInt_lt, show ((216 : Int32)).toInt = 216 from by decide]; omega)]
  show own_f51 c = 0
  rw [own_f51, if_pos (show (246 : Int32) < c from by rw [Int32.lt_iff_toInt_lt, show ((246 : Int32)).toInt = 246 from by decide]; omega)]
  show own_f58 c = 0
  rw [own_f58, if_neg (show ¬ (c < (248 : Int32)) from by rw [Int32.lt_iff_toInt_lt, show ((248 : Int32)).toInt = 248 from by decide]; omega)]
  show own_f65 c = 0
  rw [own_f65, if_pos (show (767 : Int32) < c from by rw [Int32.lt_iff_toInt_lt, show ((767 : Int32)).toInt = 767 from by decide]; omega)]
  show own_f72 c = 0
  rw [own_f72, if_neg (show ¬ (c < (880 : Int32)) from by rw [Int32.lt_iff_toInt_lt, show ((880 : Int32)).toInt = 880 from by decide]; omega)]
  show own_f79 c = 0
  rw [own_f79, if_pos (show (893 : Int32) < c from by rw [Int32.lt_iff_toInt_lt, show ((893 : Int32)).toInt = 893 from by decide]; omega)]
  show own_f86 c = 0
  rw [own_f86, if_neg (show ¬ (c < (895 : Int32)) from by rw [Int32.lt_iff_toInt_lt, show ((895 : Int32)).toInt = 895 from by decide]; omega)]
  show own_f93 c = 0
  rw [own_f93, if_pos (show (8191 : Int32) < c from by rw [Int32.lt_iff_toInt_lt, show ((8191 : Int32)).toInt = 8191 from by decide]; omega)]
  show own_f100 c = 0
  rw [own_f100, if_neg (show ¬ (c = (8204 : Int32)) from by intro q; have q2 := congrArg Int32.toInt q; rw [show ((8204 : Int32)).toInt = 8204 from by decide] at q2; omega)]
  show own_f107 c = 0
  rw [own_f107, if_neg (show ¬ (c = (8205 : Int32)) from by intro q; have q2 := congrArg Int32.toInt q; rw [show ((8205 : Int32)).toInt = 8205 from by decide] at q2; omega)]
  show own_f114 c = 0
  rw [own_f114, if_pos (show c < (8304 : Int32) from by rw [Int32.lt_iff_toInt_lt, show ((8304 : Int32)).toInt = 8304 from by decide]; omega)]
  show own_f128 c = 0
  rw [own_f128, if_pos (show c < (11264 : Int32) from by rw [Int32.lt_iff_toInt_lt, show ((11264 : Int32)).toInt = 11264 from by decide]; omega)]
  show own_f142 c = 0
  rw [own_f142, if_pos (show c < (12289 : Int32) from by rw [Int32.lt_iff_toInt_lt, show ((12289 : Int32)).toInt = 12289 from by decide]; omega)]
  show own_f155 c = 0
  rw [own_f155, if_pos (show c < (63744 : Int32) from by rw [Int32.lt_iff_toInt_lt, show ((63744 : Int32)).toInt = 63744 from by decide]; omega)]
  show own_f167 c = 0
  rw [own_f167, if_pos (show c < (65008 : Int32) from by rw [Int32.lt_iff_toInt_lt, show ((65008 : Int32)).toInt = 65008 from by decide]; omega)]
  show own_f179 c = 0
  rw [own_f179, if_pos (show c < (65536 : Int32) from by rw [Int32.lt_iff_toInt_lt, show ((65536 : Int32)).toInt = 65536 from by decide]; omega)]
theorem own_leaf19 (c : Int32) (h1 : (8304 : Int) ≤ c.toInt) (h2 : c.toInt < (8592 : Int)) : own_f0 c = own_e ((((((((((((((((((((((((((((((own_ge c (65 : Int32)) + (own_ge c (91 : Int32))) + (own_ge c (95 : Int32))) + (own_ge c (96 : Int32))) + (own_ge c (97 : Int32))) + (own_ge c (123 : Int32))) + (own_ge c (192 : Int32))) + (own_ge c (215 : Int32))) + (own_ge c (216 : Int32))) + (own_ge c (247 : Int32))) + (own_ge c (248 : Int32))) + (own_ge c (768 : Int32))) + (own_ge c (880 : Int32))) + (own_ge c (894 : Int32))) + (own_ge c (895 : Int32))) + (own_ge c (8192 : Int32))) + (own_ge c (8204 : Int32))) + (own_ge c (8206 : Int32))) + (own_ge c (8304 : Int32))) + (own_ge c (8592 : Int32))) + (own_ge c (11264 : Int32))) + (own_ge c (12272 : Int32))) + (own_ge c (12289 : Int32))) + (own_ge c (55296 : Int32))) + (own_ge c (63744 : Int32))) + (own_ge c (64976 : Int32))) + (own_ge c (65008 : Int32))) + (own_ge c (65534 : Int32))) + (own_ge c (65536 : Int32))) + (own_ge c (983040 : Int32))) := by
  rw [show own_ge c (65 : Int32) = 1 from own_ge1 (by rw [show ((65 : Int32)).toInt = 65 from by decide]; omega)]
  rw [show own_ge c (91 : Int32) = 1 from own_ge1 (by rw [show ((91 : Int32)).toInt = 91 from by decide]; omega)]
  rw [show own_ge c (95 : Int32) = 1 from own_ge1 (by rw [show ((95 : Int32)).toInt = 95 from by decide]; omega)]
  rw [show own_ge c (96 : Int32) = 1 from own_ge1 (by rw [show ((96 : Int32)).toInt = 96 from by decide]; omega)]
  rw [show own_ge c (97 : Int32) = 1 from own_ge1 (by rw [show ((97 : Int32)).toInt = 97 from by decide]; omega)]
  rw [show own_ge c (123 : Int32) = 1 from own_ge1 (by rw [show ((123 : Int32)).toInt = 123 from by decide]; omega)]
  rw [show own_ge c (192 : Int32) = 1 from own_ge1 (by rw [show ((192 : Int32)).toInt = 192 from by decide]; omega)]
  rw [show own_ge c (215 : Int32) = 1 from own_ge1 (by rw [show ((215 : Int32)).toInt = 215 from by decide]; omega)]
  rw [show own_ge c (216 : Int32) = 1 from own_ge1 (by rw [show ((216 : Int32)).toInt = 216 from by decide]; omega)]
  rw [show own_ge c (247 : Int32) = 1 from own_ge1 (by rw [show ((247 : Int32)).toInt = 247 from by decide]; omega)]
  rw [show own_ge c (248 : Int32) = 1 from own_ge1 (by rw [show ((248 : Int32)).toInt = 248 from by decide]; omega)]
  rw [show own_ge c (768 : Int32) = 1 from own_ge1 (by rw [show ((768 : Int32)).toInt = 768 from by decide]; omega)]
  rw [show own_ge c (880 : Int32) = 1 from own_ge1 (by rw [show ((880 : Int32)).toInt = 880 from by decide]; omega)]
  rw [show own_ge c (894 : Int32) = 1 from own_ge1 (by rw [show ((894 : Int32)).toInt = 894 from by decide]; omega)]
  rw [show own_ge c (895 : Int32) = 1 from own_ge1 (by rw [show ((895 : Int32)).toInt = 895 from by decide]; omega)]
  rw [show own_ge c (8192 : Int32) = 1 from own_ge1 (by rw [show ((8192 : Int32)).toInt = 8192 from by decide]; omega)]
  rw [show own_ge c (8204 : Int32) = 1 from own_ge1 (by rw [show ((8204 : Int32)).toInt = 8204 from by decide]; omega)]
  rw [show own_ge c (8206 : Int32) = 1 from own_ge1 (by rw [show ((8206 : Int32)).toInt = 8206 from by decide]; omega)]
  rw [show own_ge c (8304 : Int32) = 1 from own_ge1 (by rw [show ((8304 : Int32)).toInt = 8304 from by decide]; omega)]
  rw [show own_ge c (8592 : Int32) = 0 from own_ge0 (by rw [show ((8592 : Int32)).toInt = 8592 from by decide]; omega)]
  rw [show own_ge c (11264 : Int32) = 0 from own_ge0 (by rw [show ((11264 : Int32)).toInt = 11264 from by decide]; omega)]
  rw [show own_ge c (12272 : Int32) = 0 from own_ge0 (by rw [show ((12272 : Int32)).toInt = 12272 from by decide]; omega)]
  rw [show own_ge c (12289 : Int32) = 0 from own_ge0 (by rw [show ((12289 : Int32)).toInt = 12289 from by decide]; omega)]
  rw [show own_ge c (55296 : Int32) = 0 from own_ge0 (by rw [show ((55296 : Int32)).toInt = 55296 from by decide]; omega)]
  rw [show own_ge c (63744 : Int32) = 0 from own_ge0 (by rw [show ((63744 : Int32)).toInt = 63744 from by decide]; omega)]
  rw [show own_ge c (64976 : Int32) = 0 from own_ge0 (by rw [show ((64976 : Int32)).toInt = 64976 from by decide]; omega)]
  rw [show own_ge c (65008 : Int32) = 0 from own_ge0 (by rw [show ((65008 : Int32)).toInt = 65008 from by decide]; omega)]
  rw [show own_ge c (65534 : Int32) = 0 from own_ge0 (by rw [show ((65534 : Int32)).toInt = 65534 from by decide]; omega)]
  rw [show own_ge c (65536 : Int32) = 0 from own_ge0 (by rw [show ((65536 : Int32)).toInt = 65536 from by decide]; omega)]
  rw [show own_ge c (983040 : Int32) = 0 from own_ge0 (by rw [show ((983040 : Int32)).toInt = 983040 from by decide]; omega)]
  rw [show own_e _ = 1 from by decide]
  show own_f0 c = 1
  rw [own_f0, if_neg (show ¬ (c < (97 : Int32)) from by rw [Int32.lt_iff_toInt_lt, show ((97 : Int32)).toInt = 97 from by decide]; omega)]
  show own_f6 c = 1
  rw [own_f6, if_pos (show (122 : Int32) < c from by rw [Int32.lt_iff_toInt_lt, show ((122 : Int32)).toInt = 122 from by decide]; omega)]
  show own_f12 c = 1
  rw [own_f12, if_neg (show ¬ (c < (65 : Int32)) from by rw [Int32.lt_iff_toInt_lt, show ((65 : Int32)).toInt = 65 from by decide]; omega)]
  show own_f18 c = 1
  rw [own_f18, if_pos (show (90 : Int32) < c from by rw [Int32.lt_iff_toInt_lt, show ((90 : Int32)).toInt = 90 from by decide]; omega)]
  show own_f24 c = 1
  rw [own_f24, if_neg (show ¬ (c = (95 : Int32)) from by intro q; have q2 := congrArg Int32.toInt q; rw [show ((95 : Int32)).toInt = 95 from by decide] at q2; omega)]
  show own_f30 c = 1
  rw [own_f30, if_neg (show ¬ (c < (192 : Int32)) from by rw [Int32.lt_iff_toInt_lt, show ((192 : Int32)).toInt = 192 from by decide]; omega)]
  show own_f37 c = 1
  rw [own_f37, if_pos (show (214 : Int32) < c from by rw [Int32.lt_iff_toInt_lt, show ((214 : Int32)).toInt = 214 from by decide]; omega)]
  show own_f44 c = 1
  rw [own_f44, if_neg (show ¬ (c < (216 : Int32)) from by rw [Int32.lt_iff_toInt_lt, show ((216 : Int32)).toInt = 216 from by decide]; omega)]
  show own_f51 c = 1
  rw [own_f51, if_pos (show (246 : Int32) < c from by rw [Int32.lt_iff_toInt_lt, show ((246 : Int32)).toInt = 246 from by decide]; omega)]
  show own_f58 c = 1
  rw [own_f58, if_neg (show ¬ (c < (248 : Int32)) from by rw [Int32.lt_iff_toInt_lt, show ((248 : Int32)).toInt = 248 from by decide]; omega)]
  show own_f65 c = 1
  rw [own_f65, if_pos (show (767 : Int32) < c from by rw [Int32.lt_iff_toInt_lt, show ((767 : Int32)).toInt = 767 from by decide]; omega)]
  show own_f72 c = 1
  rw [own_f72, if_neg (show ¬ (c < (880 : Int32)) from by rw [Int32.lt_iff_toInt_lt, show ((880 : Int32)).toInt = 880 from by decide]; omega)]
  show own_f79 c = 1
  rw [own_f79, if_pos (show (893 : Int32) < c from by rw [Int32.lt_iff_toInt_lt, show ((893 : Int32)).toInt = 893 from by decide]; omega)]
  show own_f86 c = 1
  rw [own_f86, if_neg (show ¬ (c < (895 : Int32)) from by rw [Int32.lt_iff_toInt_lt, show ((895 : Int32)).toInt = 895 from by decide]; omega)]
  show own_f93 c = 1
  rw [own_f93, if_pos (show (8191 : Int32) < c from by rw [Int32.lt_iff_toInt_lt, show ((8191 : Int32)).toInt = 8191 from by decide]; omega)]
  show own_f100 c = 1
  rw [own_f100, if_neg (show ¬ (c = (8204 : Int32)) from by intro q; have q2 := congrArg Int32.toInt q; rw [show ((8204 : Int32)).toInt = 8204 from by decide] at q2; omega)]
  show own_f107 c = 1
  rw [own_f107, if_neg (show ¬ (c = (8205 : Int32)) from by intro q; have q2 := congrArg Int32.toInt q; rw [show ((8205 : Int32)).toInt = 8205 from by decide] at q2; omega)]
  show own_f114 c = 1
  rw [own_f114, if_neg (show ¬ (c < (8304 : Int32)) from by rw [Int32.lt_iff_toInt_lt, show ((8304 : Int32)).toInt = 8304 from by decide]; omega)]
  show own_f121 c = 1
  rw [own_f121, if_neg (show ¬ ((8591 : Int32) < c) from by rw [Int32.lt_iff_toInt_lt, show ((8591 : Int32)).toInt = 8591 from by decide]; omega)]
theorem own_leaf20 (c : Int32) (h1 : (8592 : Int) ≤ c.toInt) (h2 : c.toInt < (11264 : Int)) : own_f0 c = own_e ((((((((((((((((((((((((((((((own_ge c (65 : Int32)) + (own_ge c (91 : Int32))) + (own_ge c (95 : Int32))) + (own_ge c (96 : Int32))) + (own_ge c (97 : Int32))) + (own_ge c (123 : Int32))) + (own_ge c (192 : Int32))) + (own_ge c (215 : Int32))) + (own_ge c (216 : Int32))) + (own_ge c (247 : Int32))) + (own_ge c (248 : Int32))) + (own_ge c (768 : Int32))) + (own_ge c (880 : Int32))) + (own_ge c (894 : Int32))) + (own_ge c (895 : Int32))) + (own_ge c (8192 : Int32))) + (own_ge c (8204 : Int32))) + (own_ge c (8206 : Int32))) + (own_ge c (8304 : Int32))) + (own_ge c (8592 : Int32))) + (own_ge c (11264 : Int32))) + (own_ge c (12272 : Int32))) + (own_ge c (12289 : Int32))) + (own_ge c (55296 : Int32))) + (own_ge c (63744 : Int32))) + (own_ge c (64976 : Int32))) + (own_ge c (65008 : Int32))) + (own_ge c (65534 : Int32))) + (own_ge c (65536 : Int32))) + (own_ge c (983040 : Int32))) := by
  rw [show own_ge c (65 : Int32) = 1 from own_ge1 (by rw [show ((65 : Int32)).toInt = 65 from by decide]; omega)]
  rw [show own_ge c (91 : Int32) = 1 from own_ge1 (by rw [show ((91 : Int32)).toInt = 91 from by decide]; omega)]
  rw [show own_ge c (95 : Int32) = 1 from own_ge1 (by rw [show ((95 : Int32)).toInt = 95 from by decide]; omega)]
  rw [show own_ge c (96 : Int32) = 1 from own_ge1 (by rw [show ((96 : Int32)).toInt = 96 from by decide]; omega)]
  rw [show own_ge c (97 : Int32) = 1 from own_ge1 (by rw [show ((97 : Int32)).toInt = 97 from by decide]; omega)]
  rw [show own_ge c (123 : Int32) = 1 from own_ge1 (by rw [show ((123 : Int32)).toInt = 123 from by decide]; omega)]
  rw [show own_ge c (192 : Int32) = 1 from own_ge1 (by rw [show ((192 : Int32)).toInt = 192 from by decide]; omega)]
  rw [show own_ge c (215 : Int32) = 1 from own_ge1 (by rw [show ((215 : Int32)).toInt = 215 from by decide]; omega)]
  rw [show own_ge c (216 : Int32) = 1 from own_ge1 (by rw [show ((216 : Int32)).toInt = 216 from by decide]; omega)]
  rw [show own_ge c (247 : Int32) = 1 from own_ge1 (by rw [show ((247 : Int32)).toInt = 247 from by decide]; omega)]
  rw [show own_ge c (248 : Int32) = 1 from own_ge1 (by rw [show ((248 : Int32)).toInt = 248 from by decide]; omega)]
  rw [show own_ge c (768 : Int32) = 1 from own_ge1 (by rw [show ((768 : Int32)).toInt = 768 from by decide]; omega)]
  rw [show own_ge c (880 : Int32) = 1 from own_ge1 (by rw [show ((880 : Int32)).toInt = 880 from by decide]; omega)]
  rw [show own_ge c (894 : Int32) = 1 from own_ge1 (by rw [show ((894 : Int32)).toInt = 894 from by decide]; omega)]
  rw [show own_ge c (895 : Int32) = 1 from own_ge1 (by rw [show ((895 : Int32)).toInt = 895 from by decide]; omega)]
  rw [show own_ge c (8192 : Int32) = 1 from own_ge1 (by rw [show ((8192 : Int32)).toInt = 8192 from by decide]; omega)]
  rw [show own_ge c (8204 : Int32) = 1 from own_ge1 (by rw [show ((8204 : Int32)).toInt = 8204 from by decide]; omega)]
  rw [show own_ge c (8206 : Int32) = 1 from own_ge1 (by rw [show ((8206 : Int32)).toInt = 8206 from by decide]; omega)]
  rw [show own_ge c (8304 : Int32) = 1 from own_ge1 (by rw [show ((8304 : Int32)).toInt = 8304 from by decide]; omega)]
  rw [show own_ge c (8592 : Int32) = 1 from own_ge1 (by rw [show ((8592 : Int32)).toInt = 8592 from by decide]; omega)]
  rw [show own_ge c (11264 : Int32) = 0 from own_ge0 (by rw [show ((11264 : Int32)).toInt = 11264 from by decide]; omega)]
  rw [show own_ge c (12272 : Int32) = 0 from own_ge0 (by rw [show ((12272 : Int32)).toInt = 12272 from by decide]; omega)]
  rw [show own_ge c (12289 : Int32) = 0 from own_ge0 (by rw [show ((12289 : Int32)).toInt = 12289 from by decide]; omega)]
  rw [show own_ge c (55296 : Int32) = 0 from own_ge0 (by rw [show ((55296 : Int32)).toInt = 55296 from by decide]; omega)]
  rw [show own_ge c (63744 : Int32) = 0 from own_ge0 (by rw [show ((63744 : Int32)).toInt = 63744 from by decide]; omega)]
  rw [show own_ge c (64976 : Int32) = 0 from own_ge0 (by rw [show ((64976 : Int32)).toInt = 64976 from by decide]; omega)]
  rw [show own_ge c (65008 : Int32) = 0 from own_ge0 (by rw [show ((65008 : Int32)).toInt = 65008 from by decide]; omega)]
  rw [show own_ge c (65534 : Int32) = 0 from own_ge0 (by rw [show ((65534 : Int32)).toInt = 65534 from by decide]; omega)]
  rw [show own_ge c (65536 : Int32) = 0 from own_ge0 (by rw [show ((65536 : Int32)).toInt = 65536 from by decide]; omega)]
  rw [show own_ge c (983040 : Int32) = 0 from own_ge0 (by rw [show ((983040 : Int32)).toInt = 983040 from by decide]; omega)]
  rw [show own_e _ = 0 from by decide]
  show own_f0 c = 0
  rw [own_f0, if_neg (show ¬ (c < (97 : Int32)) from by rw [Int32.lt_iff_toInt_lt, show ((97 : Int32)).toInt = 97 from by decide]; omega)]
  show own_f6 c = 0
  rw [own_f6, if_pos (show (122 : Int32) < c from by rw [Int32.lt_iff_toInt_lt, show ((122 : Int32)).toInt = 122 from by decide]; omega)]
  show own_f12 c = 0
  rw [own_f12, if_neg (show ¬ (c < (65 : Int32)) from by rw [Int32.lt_iff_toInt_lt, show ((65 : Int32)).toInt = 65 from by decide]; omega)]
  show own_f18 c = 0
  rw [own_f18, if_pos (show (90 : Int32) < c from by rw [Int32.lt_iff_toInt_lt, show ((90 : Int32)).toInt = 90 from by decide]; omega)]
  show own_f24 c = 0
  rw [own_f24, if_neg (show ¬ (c = (95 : Int32)) from by intro q; have q2 := congrArg Int32.toInt q; rw [show ((95 : Int32)).toInt = 95 from by decide] at q2; omega)]
  show own_f30 c = 0
  rw [own_f30, if_neg (show ¬ (c < (192 : Int32)) from by rw [Int32.lt_iff_toInt_lt, show ((192 : Int32)).toInt = 192 from by decide]; omega)]
  show own_f37 c = 0
  rw [own_f37, if_pos (show (214 : Int32) < c from by rw [Int32.lt_iff_toInt_lt, show ((214 : Int32)).toInt = 214 from by decide]; omega)]
  show own_f44 c = 0
  rw [own_f44, if_neg (show ¬ (c < (216 : Int32)) from by rw [Int32.lt_iff_toInt_lt, show ((216 : Int32)).toInt = 216 from by decide]; omega)]
  show own_f51 c = 0
  rw [own_f51, if_pos (show (246 : Int32) < c from by rw [Int32.lt_iff_toInt_lt, show ((246 : Int32)).toInt = 246 from by decide]; omega)]
  show own_f58 c = 0
  rw [own_f58, if_neg (show ¬ (c < (248 : Int32)) from by rw [Int32.lt_iff_toInt_lt, show ((248 : Int32)).toInt = 248 from by decide]; omega)]
  show own_f65 c = 0
  rw [own_f65, if_pos (show (767 : Int32) < c from by rw [Int32.lt_iff_toInt_lt, show ((767 : Int32)).toInt = 767 from by decide]; omega)]
  show own_f72 c = 0
  rw [own_f72, if_neg (show ¬ (c < (880 : Int32)) from by rw [Int32.lt_iff_toInt_lt, show ((880 : Int32)).toInt = 880 from by decide]; omega)]
  show own_f79 c = 0
  rw [own_f79, if_pos (show (893 : Int32) < c from by rw [Int32.lt_iff_toInt_lt, show ((893 : Int32)).toInt = 893 from by decide]; omega)]
  show own_f86 c = 0
  rw [own_f86, if_neg (show ¬ (c < (895 : Int32)) from by rw [Int32.lt_iff_toInt_lt, show ((895 : Int32)).toInt = 895 from by decide]; omega)]
  show own_f93 c = 0
  rw [own_f93, if_pos (show (8191 : Int32) < c from by rw [Int32.lt_iff_toInt_lt, show ((8191 : Int32)).toInt = 8191 from by decide]; omega)]
  show own_f100 c = 0
  rw [own_f100, if_neg (show ¬ (c = (8204 : Int32)) from by intro q; have q2 := congrArg Int32.toInt q; rw [show ((8204 : Int32)).toInt = 8204 from by decide] at q2; omega)]
  show own_f107 c = 0
  rw [own_f107, if_neg (show ¬ (c = (8205 : Int32)) from by intro q; have q2 := congrArg Int32.toInt q; rw [show ((8205 : Int32)).toInt = 8205 from by decide] at q2; omega)]
  show own_f114 c = 0
  rw [own_f114, if_neg (show ¬ (c < (8304 : Int32)) from by rw [Int32.lt_iff_toInt_lt, show ((8304 : Int32)).toInt = 8304 from by decide]; omega)]
  show own_f121 c = 0
  rw [own_f121, if_pos (show (8591 : Int32) < c from by rw [Int32.lt_iff_toInt_lt, show ((8591 : Int32)).toInt = 8591 from by decide]; omega)]
  show own_f128 c = 0
  rw [own_f128, if_pos (show c < (11264 : Int32) from by rw [Int32.lt_iff_toInt_lt, show ((11264 : Int32)).toInt = 11264 from by decide]; omega)]
  show own_f142 c = 0
  rw [own_f142, if_pos (show c < (12289 : Int32) from by rw [Int32.lt_iff_toInt_lt, show ((12289 : Int32)).toInt = 12289 from by decide]; omega)]
  show own_f155 c = 0
  rw [own_f155, if_pos (show c < (63744 : Int32) from by rw [Int32.lt_iff_toInt_lt, show ((63744 : Int32)).toInt = 63744 from by decide]; omega)]
  show own_f167 c = 0
  rw [own_f167, if_pos (show c < (65008 : Int32) from by rw [Int32.lt_iff_toInt_lt, show ((65008 : Int32)).toInt = 65008 from by decide]; omega)]
  show own_f179 c = 0
  rw [own_f179, if_pos (show c < (65536 : Int32) from by rw [Int32.lt_iff_toInt_lt, show ((65536 : Int32)).toInt = 65536 from by decide]; omega)]
theorem own_leaf21 (c : Int32) (h1 : (11264 : Int) ≤ c.toInt) (h2 : c.toInt < (12272 : Int)) : own_f0 c = own_e ((((((((((((((((((((((((((((((own_ge c (65 : Int32)) + (own_ge c (91 : Int32))) + (own_ge c (95 : Int32))) + (own_ge c (96 : Int32))) + (own_ge c (97 : Int32))) + (own_ge c (123 : Int32))) + (own_ge c (192 : Int32))) + (own_ge c (215 : Int32))) + (own_ge c (216 : Int32))) + (own_ge c (247 : Int32))) + (own_ge c (248 : Int32))) + (own_ge c (768 : Int32))) + (own_ge c (880 : Int32))) + (own_ge c (894 : Int32))) + (own_ge c (895 : Int32))) + (own_ge c (8192 : Int32))) + (own_ge c (8204 : Int32))) + (own_ge c (8206 : Int32))) + (own_ge c (8304 : Int32))) + (own_ge c (8592 : Int32))) + (own_ge c (11264 : Int32))) + (own_ge c (12272 : Int32))) + (own_ge c (12289 : Int32))) + (own_ge c (55296 : Int32))) + (own_ge c (63744 : Int32))) + (own_ge c (64976 : Int32))) + (own_ge c (65008 : Int32))) + (own_ge c (65534 : Int32))) + (own_ge c (65536 : Int32))) + (own_ge c (983040 : Int32))) := by
  rw [show own_ge c (65 : Int32) = 1 from own_ge1 (by rw [show ((65 : Int32)).toInt = 65 from by decide]; omega)]
  rw [show own_ge c (91 : Int32) = 1 from own_ge1 (by rw [show ((91 : Int32)).toInt = 91 from by decide]; omega)]
  rw [show own_ge c (95 : Int32) = 1 from own_ge1 (by rw [show ((95 : Int32)).toInt = 95 from by decide]; omega)]
  rw [show own_ge c (96 : Int32) = 1 from own_ge1 (by rw [show ((96 : Int32)).toInt = 96 from by decide]; omega)]
  rw [show own_ge c (97 : Int32) = 1 from own_ge1 (by rw [show ((97 : Int32)).toInt = 97 from by decide]; omega)]
  rw [show own_ge c (123 : Int32) = 1 from own_ge1 (by rw [show ((123 : Int32)).toInt = 123 from by decide]; omega)]
  rw [show own_ge c (192 : Int32) = 1 from own_ge1 (by rw [show ((192 : Int32)).toInt = 192 from by decide]; omega)]
  rw [show own_ge c (215 : Int32) = 1 from own_ge1 (by rw [show ((215 : Int32)).toInt = 215 from by decide]; omega)]
  rw [show own_ge c (216 : Int32) = 1 from own_ge1 (by rw [show ((216 : Int32)).toInt = 216 from by decide]; omega)]
  rw [show own_ge c (247 : Int32) = 1 from own_ge1 (by rw [show ((247 : Int32)).toInt = 247 from by decide]; omega)]
  rw [show own_ge c (248 : Int32) = 1 from own_ge1 (by rw [show ((248 : Int32)).toInt = 248 from by decide]; omega)]
  rw [show own_ge c (768 : Int32) = 1 from own_ge1 (by rw [show ((768 : Int32)).toInt = 768 from by decide]; omega)]
  rw [show own_ge c (880 : Int32) = 1 from own_ge1 (by rw [show ((880 : Int32)).toInt = 880 from by decide]; omega)]
  rw [show own_ge c (894 : Int32) = 1 from own_ge1 (by rw [show ((894 : Int32)).toInt = 894 from by decide]; omega)]
  rw [show own_ge c (895 : Int32) = 1 from own_ge1 (by rw [show ((895 : Int32)).toInt = 895 from by decide]; omega)]
  rw [show own_ge c (8192 : Int32) = 1 from own_ge1 (by rw [show ((8192 : Int32)).toInt = 8192 from by decide]; omega)]
  rw [show own_ge c (8204 : Int32) = 1 from own_ge1 (by rw [show ((8204 : Int32)).toInt = 8204 from by decide]; omega)]
  rw [show own_ge c (8206 : Int32) = 1 from own_ge1 (by rw [show ((8206 : Int32)).toInt = 8206 from by decide]; omega)]
  rw [show own_ge c (8304 : Int32) = 1 from own_ge1 (by rw [show ((8304 : Int32)).toInt = 8304 from by decide]; omega)]
  rw [show own_ge c (8592 : Int32) = 1 from own_ge1 (by rw [show ((8592 : Int32)).toInt = 8592 from by decide]; omega)]
  rw [show own_ge c (11264 : Int32) = 1 from own_ge1 (by rw [show ((11264 : Int32)).toInt = 11264 from by decide]; omega)]
  rw [show own_ge c (12272 : Int32) = 0 from own_ge0 (by rw [show ((12272 : Int32)).toInt = 12272 from by decide]; omega)]
  rw [show own_ge c (12289 : Int32) = 0 from own_ge0 (by rw [show ((12289 : Int32)).toInt = 12289 from by decide]; omega)]
  rw [show own_ge c (55296 : Int32) = 0 from own_ge0 (by rw [show ((55296 : Int32)).toInt = 55296 from by decide]; omega)]
  rw [show own_ge c (63744 : Int32) = 0 from own_ge0 (by rw [show ((63744 : Int32)).toInt = 63744 from by decide]; omega)]
  rw [show own_ge c (64976 : Int32) = 0 from own_ge0 (by rw [show ((64976 : Int32)).toInt = 64976 from by decide]; omega)]
  rw [show own_ge c (65008 : Int32) = 0 from own_ge0 (by rw [show ((65008 : Int32)).toInt = 65008 from by decide]; omega)]
  rw [show own_ge c (65534 : Int32) = 0 from own_ge0 (by rw [show ((65534 : Int32)).toInt = 65534 from by decide]; omega)]
  rw [show own_ge c (65536 : Int32) = 0 from own_ge0 (by rw [show ((65536 : Int32)).toInt = 65536 from by decide]; omega)]
  rw [show own_ge c (983040 : Int32) = 0 from own_ge0 (by rw [show ((983040 : Int32)).toInt = 983040 from by decide]; omega)]
  rw [show own_e _ = 1 from by decide]
  show own_f0 c = 1
  rw [own_f0, if_neg (show ¬ (c < (97 : Int32)) from by rw [Int32.lt_iff_toInt_lt, show ((97 : Int32)).toInt = 97 from by decide]; omega)]
  show own_f6 c = 1
  rw [own_f6, if_pos (show (122 : Int32) < c from by rw [Int32.lt_iff_toInt_lt, show ((122 : Int32)).toInt = 122 from by decide]; omega)]
  show own_f12 c = 1
  rw [own_f12, if_neg (show ¬ (c < (65 : Int32)) from by rw [Int32.lt_iff_toInt_lt, show ((65 : Int32)).toInt = 65 from by decide]; omega)]
  show own_f18 c = 1
  rw [own_f18, if_pos (show (90 : Int32) < c from by rw [Int32.lt_iff_toInt_lt, show ((90 : Int32)).toInt = 90 from by decide]; omega)]
  show own_f24 c = 1
  rw [own_f24, if_neg (show ¬ (c = (95 : Int32)) from by intro q; have q2 := congrArg Int32.toInt q; rw [show ((95 : Int32)).toInt = 95 from by decide] at q2; omega)]
  show own_f30 c = 1
  rw [own_f30, if_neg (show ¬ (c < (192 : Int32)) from by rw [Int32.lt_iff_toInt_lt, show ((192 : Int32)).toInt = 192 from by decide]; omega)]
  show own_f37 c = 1
  rw [own_f37, if_pos (show (214 : Int32) < c from by rw [Int32.lt_iff_toInt_lt, show ((214 : Int32)).toInt = 214 from by decide]; omega)]
  show own_f44 c = 1
  rw [own_f44, if_neg (show ¬ (c < (216 : Int32)) from by rw [Int32.lt_iff_toInt_lt, show ((216 : Int32)).toInt = 216 from by decide]; omega)]
  show own_f51 c = 1
  rw [own_f51, if_pos (show (246 : Int32) < c from by rw [Int32.lt_iff_toInt_lt, show ((246 : Int32)).toInt = 246 from by decide]; omega)]
  show own_f58 c = 1
  rw [own_f58, if_neg (show ¬ (c < (248 : Int32)) from by rw [Int32.lt_iff_toInt_lt, show ((248 : Int32)).toInt = 248 from by decide]; omega)]
  show own_f65 c = 1
  rw [own_f65, if_pos (show (767 : Int32) < c from by rw [Int32.lt_iff_toInt_lt, show ((767 : Int32)).toInt = 767 from by decide]; omega)]
  show own_f72 c = 1
  rw [own_f72, if_neg (show ¬ (c < (880 : Int32)) from by rw [Int32.lt_iff_toInt_lt, show ((880 : Int32)).toInt = 880 from by decide]; omega)]
  show own_f79 c = 1
  rw [own_f79, if_pos (show (893 : Int32) < c from by rw [Int32.lt_iff_toInt_lt, show ((893 : Int32)).toInt = 893 from by decide]; omega)]
  show own_f86 c = 1
  rw [own_f86, if_neg (show ¬ (c < (895 : Int32)) from by rw [Int32.lt_iff_toInt_lt, show ((895 : Int32)).toInt = 895 from by decide]; omega)]
  show own_f93 c = 1
  rw [own_f93, if_pos (show (8191 : Int32) < c from by rw [Int32.lt_iff_toInt_lt, show ((8191 : Int32)).toInt = 8191 from by decide]; omega)]
  show own_f100 c = 1
  rw [own_f100, if_neg (show ¬ (c = (8204 : Int32)) from by intro q; have q2 := congrArg Int32.toInt q; rw [show ((8204 : Int32)).toInt = 8204 from by decide] at q2; omega)]
  show own_f107 c = 1
  rw [own_f107, if_neg (show ¬ (c = (8205 : Int32)) from by intro q; have q2 := congrArg Int32.toInt q; rw [show ((8205 : Int32)).toInt = 8205 from by decide] at q2; omega)]
  show own_f114 c = 1
  rw [own_f114, if_neg (show ¬ (c < (8304 : Int32)) from by rw [Int32.lt_iff_toInt_lt, show ((8304 : Int32)).toInt = 8304 from by decide]; omega)]
  show own_f121 c = 1
  rw [own_f121, if_pos (show (8591 : Int32) < c from by rw [Int32.lt_iff_toInt_lt, show ((8591 : Int32)).toInt = 8591 from by decide]; omega)]
  show own_f128 c = 1
  rw [own_f128, if_neg (show ¬ (c < (11264 : Int32)) from by rw [Int32.lt_iff_toInt_lt, show ((11264 : Int32)).toInt = 11264 from by decide]; omega)]
  show own_f135 c = 1
  rw [own_f135, if_neg (show ¬ ((12271 : Int32) < c) from by rw [Int32.lt_iff_toInt_lt, show ((12271 : Int32)).toInt = 12271 from by decide]; omega)]
theorem own_leaf22 (c : Int32) (h1 : (12272 : Int) ≤ c.toInt) (h2 : c.toInt < (12289 : Int)) : own_f0 c = own_e ((((((((((((((((((((((((((((((own_ge c (65 : Int32)) + (own_ge c (91 : Int32))) + (own_ge c (95 : Int32))) + (own_ge c (96 : Int32))) + (own_ge c (97 : Int32))) + (own_ge c (123 : Int32))) + (own_ge c (192 : Int32))) + (own_ge c (215 : Int32))) + (own_ge c (216 : Int32))) + (own_ge c (247 : Int32))) + (own_ge c (248 : Int32))) + (own_ge c (768 : Int32))) + (own_ge c (880 : Int32))) + (own_ge c (894 : Int32))) + (own_ge c (895 : Int32))) + (own_ge c (8192 : Int32))) + (own_ge c (8204 : Int32))) + (own_ge c (8206 : Int32))) + (own_ge c (8304 : Int32))) + (own_ge c (8592 : Int32))) + (own_ge c (11264 : Int32))) + (own_ge c (12272 : Int32))) + (own_ge c (12289 : Int32))) + (own_ge c (55296 : Int32))) + (own_ge c (63744 : Int32))) + (own_ge c (64976 : Int32))) + (own_ge c (65008 : Int32))) + (own_ge c (65534 : Int32))) + (own_ge c (65536 : Int32))) + (own_ge c (983040 : Int32))) := by
  rw [show own_ge c (65 : Int32) = 1 from own_ge1 (by rw [show ((65 : Int32)).toInt = 65 from by decide]; omega)]
  rw [show own_ge c (91 : Int32) = 1 from own_ge1 (by rw [show ((91 : Int32)).toInt = 91 from by decide]; omega)]
  rw [show own_ge c (95 : Int32) = 1 from own_ge1 (by rw [show ((95 : Int32)).toInt = 95 from by decide]; omega)]
  rw [show own_ge c (96 : Int32) = 1 from own_ge1 (by rw [show ((96 : Int32)).toInt = 96 from by decide]; omega)]
  rw [show own_ge c (97 : Int32) = 1 from own_ge1 (by rw [show ((97 : Int32)).toInt = 97 from by decide]; omega)]
  rw [show own_ge c (123 : Int32) = 1 from own_ge1 (by rw [show ((123 : Int32)).toInt = 123 from by decide]; omega)]
  rw [show own_ge c (192 : Int32) = 1 from own_ge1 (by rw [show ((192 : Int32)).toInt = 192 from by decide]; omega)]
  rw [show own_ge c (215 : Int32) = 1 from own_ge1 (by rw [show ((215 : Int32)).toInt = 215 from by decide]; omega)]
  rw [show own_ge c (216 : Int32) = 1 from own_ge1 (by rw [show ((216 : Int32)).toInt = 216 from by decide]; omega)]
  rw [show own_ge c (247 : Int32) = 1 from own_ge1 (by rw [show ((247 : Int32)).toInt = 247 from by decide]; omega)]
  rw [show own_ge c (248 : Int32) = 1 from own_ge1 (by rw [show ((248 : Int32)).toInt = 248 from by decide]; omega)]
  rw [show own_ge c (768 : Int32) = 1 from own_ge1 (by rw [show ((768 : Int32)).toInt = 768 from by decide]; omega)]
  rw [show own_ge c (880 : Int32) = 1 from own_ge1 (by rw [show ((880 : Int32)).toInt = 880 from by decide]; omega)]
  rw [show own_ge c (894 : Int32) = 1 from own_ge1 (by rw [show ((894 : Int32)).toInt = 894 from by decide]; omega)]
  rw [show own_ge c (895 : Int32) = 1 from own_ge1 (by rw [show ((895 : Int32)).toInt = 895 from by decide]; omega)]
  rw [show own_ge c (8192 : Int32) = 1 from own_ge1 (by rw [show ((8192 : Int32)).toInt = 8192 from by decide]; omega)]
  rw [show own_ge c (8204 : Int32) = 1 from own_ge1 (by rw [show ((8204 : Int32)).toInt = 8204 from by decide]; omega)]
  rw [show own_ge c (8206 : Int32) = 1 from own_ge1 (by rw [show ((8206 : Int32)).toInt = 8206 from by decide]; omega)]
  rw [show own_ge c (8304 : Int32) = 1 from own_ge1 (by rw [show ((8304 : Int32)).toInt = 8304 from by decide]; omega)]
  rw [show own_ge c (8592 : Int32) = 1 from own_ge1 (by rw [show ((8592 : Int32)).toInt = 8592 from by decide]; omega)]
  rw [show own_ge c (11264 : Int32) = 1 from own_ge1 (by rw [show ((11264 : Int32)).toInt = 11264 from by decide]; omega)]
  rw [show own_ge c (12272 : Int32) = 1 from own_ge1 (by rw [show ((12272 : Int32)).toInt = 12272 from by decide]; omega)]
  rw [show own_ge c (12289 : Int32) = 0 from own_ge0 (by rw [show ((12289 : Int32)).toInt = 12289 from by decide]; omega)]
  rw [show own_ge c (55296 : Int32) = 0 from own_ge0 (by rw [show ((55296 : Int32)).toInt = 55296 from by decide]; omega)]
  rw [show own_ge c (63744 : Int32) = 0 from own_ge0 (by rw [show ((63744 : Int32)).toInt = 63744 from by decide]; omega)]
  rw [show own_ge c (64976 : Int32) = 0 from own_ge0 (by rw [show ((64976 : Int32)).toInt = 64976 from by decide]; omega)]
  rw [show own_ge c (65008 : Int32) = 0 from own_ge0 (by rw [show ((65008 : Int32)).toInt = 65008 from by decide]; omega)]
  rw [show own_ge c (65534 : Int32) = 0 from own_ge0 (by rw [show ((65534 : Int32)).toInt = 65534 from by decide]; omega)]
  rw [show own_ge c (65536 : Int32) = 0 from own_ge0 (by rw [show ((65536 : Int32)).toInt = 65536 from by decide]; omega)]
  rw [show own_ge c (983040 : Int32) = 0 from own_ge0 (by rw [show ((983040 : Int32)).toInt = 983040 from by decide]; omega)]
  rw [show own_e _ = 0 from by decide]
  show own_f0 c = 0
  rw [own_f0, if_neg (show ¬ (c < (97 : Int32)) from by rw [Int32.lt_iff_toInt_lt, show ((97 : Int32)).toInt = 97 from by decide]; omega)]
  show own_f6 c = 0
  rw [own_f6, if_pos (show (122 : Int32) < c from by rw [Int32.lt_iff_toInt_lt, show ((122 : Int32)).toInt = 122 from by decide]; omega)]
  show own_f12 c = 0
  rw [own_f12, if_neg (show ¬ (c < (65 : Int32)) from by rw [Int32.lt_iff_toInt_lt, show ((65 : Int32)).toInt = 65 from by decide]; omega)]
  show own_f18 c = 0
  rw [own_f18, if_pos (show (90 : Int32) < c from by rw [Int32.lt_iff_toInt_lt, show ((90 : Int32)).toInt = 90 from by decide]; omega)]
  show own_f24 c = 0
  rw [own_f24, if_neg (show ¬ (c = (95 : Int32)) from by intro q; have q2 := congrArg Int32.toInt q; rw [show ((95 : Int32)).toInt = 95 from by decide] at q2; omega)]
  show own_f30 c = 0
  rw [own_f30, if_neg (show ¬ (c < (192 : Int32)) from by rw [Int32.lt_iff_toInt_lt, show ((192 : Int32)).toInt = 192 from by decide]; omega)]
  show own_f37 c = 0
  rw [own_f37, if_pos (show (214 : Int32) < c from by rw [Int32.lt_iff_toInt_lt, show ((214 : Int32)).toInt = 214 from by decide]; omega)]
  show own_f44 c = 0
  rw [own_f44, if_neg (show ¬ (c < (216 : Int32)) from by rw [Int32.lt_iff_toInt_lt, show ((216 : Int32)).toInt = 216 from by decide]; omega)]
  show own_f51 c = 0
  rw [own_f51, if_pos (show (246 : Int32) < c from by rw [Int32.lt_iff_toInt_lt, show ((246 : Int32)).toInt = 246 from by decide]; omega)]
  show own_f58 c = 0
  rw [own_f58, if_neg (show ¬ (c < (248 : Int32)) from by rw [Int32.lt_iff_toInt_lt, show ((248 : Int32)).toInt = 248 from by decide]; omega)]
  show own_f65 c = 0
  rw [own_f65, if_pos (show (767 : Int32) < c from by rw [Int32.lt_iff_toInt_lt, show ((767 : Int32)).toInt = 767 from by decide]; omega)]
  show own_f72 c = 0
  rw [own_f72, if_neg (show ¬ (c < (880 : Int32)) from by rw [Int32.lt_iff_toInt_lt, show ((880 : Int32)).toInt = 880 from by decide]; omega)]
  show own_f79 c = 0
  rw [own_f79, if_pos (show (893 : Int32) < c from by rw [Int32.lt_iff_toInt_lt, show ((893 : Int32)).toInt = 893 from by decide]; omega)]
  show own_f86 c = 0
  rw [own_f86, if_neg (show ¬ (c < (895 : Int32)) from by rw [Int32.lt_iff_toInt_lt, show ((895 : Int32)).toInt = 895 from by decide]; omega)]
  show own_f93 c = 0
  rw [own_f93, if_pos (show (8191 : Int32) < c from by rw [Int32.lt_iff_toInt_lt, show ((8191 : Int32)).toInt = 8191 from by decide]; omega)]
  show own_f100 c = 0
  rw [own_f100, if_neg (show ¬ (c = (8204 : Int32)) from by intro q; have q2 := congrArg Int32.toInt q; rw [show ((8204 : Int32)).toInt = 8204 from by decide] at q2; omega)]
  show own_f107 c = 0
  rw [own_f107, if_neg (show ¬ (c = (8205 : Int32)) from by intro q; have q2 := congrArg Int32.toInt q; rw [show ((8205 : Int32)).toInt = 8205 from by decide] at q2; omega)]
  show own_f114 c = 0
  rw [own_f114, if_neg (show ¬ (c < (8304 : Int32)) from by rw [Int32.lt_iff_toInt_lt, show ((8304 : Int32)).toInt = 8304 from by decide]; omega)]
  show own_f121 c = 0
  rw [own_f121, if_pos (show (8591 : Int32) < c from by rw [Int32.lt_iff_toInt_lt, show ((8591 : Int32)).toInt = 8591 from by decide]; omega)]
  show own_f128 c = 0
  rw [own_f128, if_neg (show ¬ (c < (11264 : Int32)) from by rw [Int32.lt_iff_toInt_lt, show ((11264 : Int32)).toInt = 11264 from by decide]; omega)]
  show own_f135 c = 0
  rw [own_f135, if_pos (show (12271 : Int32) < c from by rw [Int32.lt_iff_toInt_lt, show ((12271 : Int32)).toInt = 12271 from by decide]; omega)]
  show own_f142 c = 0
  rw [own_f142, if_pos (show c < (12289 : Int32) from by rw [Int32.lt_iff_toInt_lt, show ((12289 : Int32)).toInt = 12289 from by decide]; omega)]
  show own_f155 c = 0
  rw [own_f155, if_pos (show c < (63744 : Int32) from by rw [Int32.lt_iff_toInt_lt, show ((63744 : Int32)).toInt = 63744 from by decide]; omega)]
  show own_f167 c = 0
  rw [own_f167, if_pos (show c < (65008 : Int32) from by rw [Int32.lt_iff_toInt_lt, show ((65008 : Int32)).toInt = 65008 from by decide]; omega)]
  show own_f179 c = 0
  rw [own_f179, if_pos (show c < (65536 : Int32) from by rw [Int32.lt_iff_toInt_lt, show ((65536 : Int32)).toInt = 65536 from by decide]; omega)]
theorem own_leaf23 (c : Int32) (h1 : (12289 : Int) ≤ c.toInt) (h2 : c.toInt < (55296 : Int)) : own_f0 c = own_e ((((((((((((((((((((((((((((((own_ge c (65 : Int32)) + (own_ge c (91 : Int32))) + (own_ge c (95 : Int32))) + (own_ge c (96 : Int32))) + (own_ge c (97 : Int32))) + (own_ge c (123 : Int32))) + (own_ge c (192 : Int32))) + (own_ge c (215 : Int32))) + (own_ge c (216 : Int32))) + (own_ge c (247 : Int32))) + (own_ge c (248 : Int32))) + (own_ge c (768 : Int32))) + (own_ge c (880 : Int32))) + (own_ge c (894 : Int32))) + (own_ge c (895 : Int32))) + (own_ge c (8192 : Int32))) + (own_ge c (8204 : Int32))) + (own_ge c (8206 : Int32))) + (own_ge c (8304 : Int32))) + (own_ge c (8592 : Int32))) + (own_ge c (11264 : Int32))) + (own_ge c (12272 : Int32))) + (own_ge c (12289 : Int32))) + (own_ge c (55296 : Int32))) + (own_ge c (63744 : Int32))) + (own_ge c (64976 : Int32))) + (own_ge c (65008 : Int32))) + (own_ge c (65534 : Int32))) + (own_ge c (65536 : Int32))) + (own_ge c (983040 : Int32))) := by
  rw [show own_ge c (65 : Int32) = 1 from own_ge1 (by rw [show ((65 : Int32)).toInt = 65 from by decide]; omega)]
  rw [show own_ge c (91 : Int32) = 1 from own_ge1 (by rw [show ((91 : Int32)).toInt = 91 from by decide]; omega)]
  rw [show own_ge c (95 : Int32) = 1 from own_ge1 (by rw [show ((95 : Int32)).toInt = 95 from by decide]; omega)]
  rw [show own_ge c (96 : Int32) = 1 from own_ge1 (by rw [show ((96 : Int32)).toInt = 96 from by decide]; omega)]
  rw [show own_ge c (97 : Int32) = 1 from own_ge1 (by rw [show ((97 : Int32)).toInt = 97 from by decide]; omega)]
  rw [show own_ge c (123 : Int32) = 1 from own_ge1 (by rw [show ((123 : Int32)).toInt = 123 from by decide]; omega)]
  rw [show own_ge c (192 : Int32) = 1 from own_ge1 (by rw [show ((192 : Int32)).toInt = 192 from by decide]; omega)]
  rw [show own_ge c (215 : Int32) = 1 from own_ge1 (by rw [show ((215 : Int32)).toInt = 215 from by decide]; omega)]
  rw [show own_ge c (216 : Int32) = 1 from own_ge1 (by rw [show ((216 : Int32)).toInt = 216 from by decide]; omega)]
  rw [show own_ge c (247 : Int32) = 1 from own_ge1 (by rw [show ((247 : Int32)).toInt = 247 from by decide]; omega)]
  rw [show own_ge c (248 : Int32) = 1 from own_ge1 (by rw [show ((248 : Int32)).toInt = 248 from by decide]; omega)]
  rw [show own_ge c (768 : Int32) = 1 from own_ge1 (by rw [show ((768 : Int32)).toInt = 768 from by decide]; omega)]
  rw [show own_ge c (880 : Int32) = 1 from own_ge1 (by rw [show ((880 : Int32)).toInt = 880 from by decide]; omega)]
  rw [show own_ge c (894 : Int32) = 1 from own_ge1 (by rw [show ((894 : Int32)).toInt = 894 from by decide]; omega)]
  rw [show own_ge c (895 : Int32) = 1 from own_ge1 (by rw [show ((895 : Int32)).toInt = 895 from by decide]; omega)]
  rw [show own_ge c (8192 : Int32) = 1 from own_ge1 (by rw [show ((8192 : Int32)).toInt = 8192 from by decide]; omega)]
  rw [show own_ge c (8204 : Int32) = 1 from own_ge1 (by rw [show ((8204 : Int32)).toInt = 8204 from by decide]; omega)]
  rw [show own_ge c (8206 : Int32) = 1 from own_ge1 (by rw [show ((8206 : Int32)).toInt = 8206 from by decide]; omega)]
  rw [show own_ge c (8304 : Int32) = 1 from own_ge1 (by rw [show ((8304 : Int32)).toInt = 8304 from by decide]; omega)]
  rw [show own_ge c (8592 : Int32) = 1 from own_ge1 (by rw [show ((8592 : Int32)).toInt = 8592 from by decide]; omega)]
  rw [show own_ge c (11264 : Int32) = 1 from own_ge1 (by rw [show ((11264 : Int32)).toInt = 11264 from by decide]; omega)]
  rw [show own_ge c (12272 : Int32) = 1 from own_ge1 (by rw [show ((12272 : Int32)).toInt = 12272 from by decide]; omega)]
  rw [show own_ge c (12289 : Int32) = 1 from own_ge1 (by rw [show ((12289 : Int32)).toInt = 12289 from by decide]; omega)]
  rw [show own_ge c (55296 : Int32) = 0 from own_ge0 (by rw [show ((55296 : Int32)).toInt = 55296 from by decide]; omega)]
  rw [show own_ge c (63744 : Int32) = 0 from own_ge0 (by rw [show ((63744 : Int32)).toInt = 63744 from by decide]; omega)]
  rw [show own_ge c (64976 : Int32) = 0 from own_ge0 (by rw [show ((64976 : Int32)).toInt = 64976 from by decide]; omega)]
  rw [show own_ge c (65008 : Int32) = 0 from own_ge0 (by rw [show ((65008 : Int32)).toInt = 65008 from by decide]; omega)]
  rw [show own_ge c (65534 : Int32) = 0 from own_ge0 (by rw [show ((65534 : Int32)).toInt = 65534 from by decide]; omega)]
  rw [show own_ge c (65536 : Int32) = 0 from own_ge0 (by rw [show ((65536 : Int32)).toInt = 65536 from by decide]; omega)]
  rw [show own_ge c (983040 : Int32) = 0 from own_ge0 (by rw [show ((983040 : Int32)).toInt = 983040 from by decide]; omega)]
  rw [show own_e _ = 1 from by decide]
  show own_f0 c = 1
  rw [own_f0, if_neg (show ¬ (c < (97 : Int32)) from by rw [Int32.lt_iff_toInt_lt, show ((97 : Int32)).toInt = 97 from by decide]; omega)]
  show own_f6 c = 1
  rw [own_f6, if_pos (show (122 : Int32) < c from by rw [Int32.lt_iff_toInt_lt, show ((122 : Int32)).toInt = 122 from by decide]; omega)]
  show own_f12 c = 1
  rw [own_f12, if_neg (show ¬ (c < (65 : Int32)) from by rw [Int32.lt_iff_toInt_lt, show ((65 : Int32)).toInt = 65 from by decide]; omega)]
  show own_f18 c = 1
  rw [own_f18, if_pos (show (90 : Int32) < c from by rw [Int32.lt_iff_toInt_lt, show ((90 : Int32)).toInt = 90 from by decide]; omega)]
  show own_f24 c = 1
  rw [own_f24, if_neg (show ¬ (c = (95 : Int32)) from by intro q; have q2 := congrArg Int32.toInt q; rw [show ((95 : Int32)).toInt = 95 from by decide] at q2; omega)]
  show own_f30 c = 1
  rw [own_f30, if_neg (show ¬ (c < (192 : Int32)) from by rw [Int32.lt_iff_toInt_lt, show ((192 : Int32)).toInt = 192 from by decide]; omega)]
  show own_f37 c = 1
  rw [own_f37, if_pos (show (214 : Int32) < c from by rw [Int32.lt_iff_toInt_lt, show ((214 : Int32)).toInt = 214 from by decide]; omega)]
  show own_f44 c = 1
  rw [own_f44, if_neg (show ¬ (c < (216 : Int32)) from by rw [Int32.lt_iff_toInt_lt, show ((216 : Int32)).toInt = 216 from by decide]; omega)]
  show own_f51 c = 1
  rw [own_f51, if_pos (show (246 : Int32) < c from by rw [Int32.lt_iff_toInt_lt, show ((246 : Int32)).toInt = 246 from by decide]; omega)]
  show own_f58 c = 1
  rw [own_f58, if_neg (show ¬ (c < (248 : Int32)) from by rw [Int32.lt_iff_toInt_lt, show ((248 : Int32)).toInt = 248 from by decide]; omega)]
  show own_f65 c = 1
  rw [own_f65, if_pos (show (767 : Int32) < c from by rw [Int32.lt_iff_toInt_lt, show ((767 : Int32)).toInt = 767 from by decide]; omega)]
  show own_f72 c = 1
  rw [own_f72, if_neg (show ¬ (c < (880 : Int32)) from by rw [Int32.lt_iff_toInt_lt, show ((880 : Int32)).toInt = 880 from by decide]; omega)]
  show own_f79 c = 1
  rw [own_f79, if_pos (show (893 : Int32) < c from by rw [Int32.lt_iff_toInt_lt, show ((893 : Int32)).toInt = 893 from by decide]; omega)]
  show own_f86 c = 1
  rw [own_f86, if_neg (show ¬ (c < (895 : Int32)) from by rw [Int32.lt_iff_toInt_lt, show ((895 : Int32)).toInt = 895 from by decide]; omega)]
  show own_f93 c = 1
  rw [own_f93, if_pos (show (8191 : Int32) < c from by rw [Int32.lt_iff_toInt_lt, show ((8191 : Int32)).toInt = 8191 from by decide]; omega)]
  show own_f100 c = 1
  rw [own_f100, if_neg (show ¬ (c = (8204 : Int32)) from by intro q; have q2 := congrArg Int32.toInt q; rw [show ((8204 : Int32)).toInt = 8204 from by decide] at q2; omega)]
  show own_f107 c = 1
  rw [own_f107, if_neg (show ¬ (c = (8205 : Int32)) from by intro q; have q2 := congrArg Int32.toInt q; rw [show ((8205 : Int32)).toInt = 8205 from by decide] at q2; omega)]
  show own_f114 c = 1
  rw [own_f114, if_neg (show ¬ (c < (8304 : Int32)) from by rw [Int32.lt_iff_toInt_lt, show ((8304 : Int32)).toInt = 8304 from by decide]; omega)]
  show own_f121 c = 1
  rw [own_f121, if_pos (show (8591 : Int32) < c from by rw [Int32.lt_iff_toInt_lt, show ((8591 : Int32)).toInt = 8591 from by decide]; omega)]
  show own_f128 c = 1
  rw [own_f128, if_neg (show ¬ (c < (11264 : Int32)) from by rw [Int32.lt_iff_toInt_lt, show ((11264 : Int32)).toInt = 11264 from by decide]; omega)]
  show own_f135 c = 1
  rw [own_f135, if_pos (show (12271 : Int32) < c from by rw [Int32.lt_iff_toInt_lt, show ((12271 : Int32)).toInt = 12271 from by decide]; omega)]
  show own_f142 c = 1
  rw [own_f142, if_neg (show ¬ (c < (12289 : Int32)) from by rw [Int32.lt_iff_toInt_lt, show ((12289 : Int32)).toInt = 12289 from by decide]; omega)]
  show own_f149 c = 1
  rw [own_f149, if_neg (show ¬ ((55295 : Int32) < c) from by rw [Int32.lt_iff_toInt_lt, show ((55295 : Int32)).toInt = 55295 from by decide]; omega)]
theorem own_leaf24 (c : Int32) (h1 : (55296 : Int) ≤ c.toInt) (h2 : c.toInt < (63744 : Int)) : own_f0 c = own_e ((((((((((((((((((((((((((((((own_ge c (65 : Int32)) + (own_ge c (91 : Int32))) + (own_ge c (95 : Int32))) + (own_ge c (96 : Int32))) + (own_ge c (97 : Int32))) + (own_ge c (123 : Int32))) + (own_ge c (192 : Int32))) + (own_ge c (215 : Int32))) + (own_ge c (216 : Int32))) + (own_ge c (247 : Int32))) + (own_ge c (248 : Int32))) + (own_ge c (768 : Int32))) + (own_ge c (880 : Int32))) + (own_ge c (894 : Int32))) + (own_ge c (895 : Int32))) + (own_ge c (8192 : Int32))) + (own_ge c (8204 : Int32))) + (own_ge c (8206 : Int32))) + (own_ge c (8304 : Int32))) + (own_ge c (8592 : Int32))) + (own_ge c (11264 : Int32))) + (own_ge c (12272 : Int32))) + (own_ge c (12289 : Int32))) + (own_ge c (55296 : Int32))) + (own_ge c (63744 : Int32))) + (own_ge c (64976 : Int32))) + (own_ge c (65008 : Int32))) + (own_ge c (65534 : Int32))) + (own_ge c (65536 : Int32))) + (own_ge c (983040 : Int32))) := by
  rw [show own_ge c (65 : Int32) = 1 from own_ge1 (by rw [show ((65 : Int32)).toInt = 65 from by decide]; omega)]
  rw [show own_ge c (91 : Int32) = 1 from own_ge1 (by rw [show ((91 : Int32)).toInt = 91 from by decide]; omega)]
  rw [show own_ge c (95 : Int32) = 1 from own_ge1 (by rw [show ((95 : Int32)).toInt = 95 from by decide]; omega)]
  rw [show own_ge c (96 : Int32) = 1 from own_ge1 (by rw [show ((96 : Int32)).toInt = 96 from by decide]; omega)]
  rw [show own_ge c (97 : Int32) = 1 from own_ge1 (by rw [show ((97 : Int32)).toInt = 97 from by decide]; omega)]
  rw [show own_ge c (123 : Int32) = 1 from own_ge1 (by rw [show ((123 : Int32)).toInt = 123 from by decide]; omega)]
  rw [show own_ge c (192 : Int32) = 1 from own_ge1 (by rw [show ((192 : Int32)).toInt = 192 from by decide]; omega)]
  rw [show own_ge c (215 : Int32) = 1 from own_ge1 (by rw [show ((215 : Int32)).toInt = 215 from by decide]; omega)]
  rw [show own_ge c (216 : Int32) = 1 from own_ge1 (by rw [show ((216 : Int32)).toInt = 216 from by decide]; omega)]
  rw [show own_ge c (247 : Int32) = 1 from own_ge1 (by rw [show ((247 : Int32)).toInt = 247 from by decide]; omega)]
  rw [show own_ge c (248 : Int32) = 1 from own_ge1 (by rw [show ((248 : Int32)).toInt = 248 from by decide]; omega)]
  rw [show own_ge c (768 : Int32) = 1 from own_ge1 (by rw [show ((768 : Int32)).toInt = 768 from by decide]; omega)]
  rw [show own_ge c (880 : Int32) = 1 from own_ge1 (by rw [show ((880 : Int32)).toInt = 880 from by decide]; omega)]
  rw [show own_ge c (894 : Int32) = 1 from own_ge1 (by rw [show ((894 : Int32)).toInt = 894 from by decide]; omega)]
  rw [show own_ge c (895 : Int32) = 1 from own_ge1 (by rw [show ((895 : Int32)).toInt = 895 from by decide]; omega)]
  rw [show own_ge c (8192 : Int32) = 1 from own_ge1 (by rw [show ((8192 : Int32)).toInt = 8192 from by decide]; omega)]
  rw [show own_ge c (8204 : Int32) = 1 from own_ge1 (by rw [show ((8204 : Int32)).toInt = 8204 from by decide]; omega)]
  rw [show own_ge c (8206 : Int32) = 1 from own_ge1 (by rw [show ((8206 : Int32)).toInt = 8206 from by decide]; omega)]
  rw [show own_ge c (8304 : Int32) = 1 from own_ge1 (by rw [show ((8304 : Int32)).toInt = 8304 from by decide]; omega)]
  rw [show own_ge c (8592 : Int32) = 1 from own_ge1 (by rw [show ((8592 : Int32)).toInt = 8592 from by decide]; omega)]
  rw [show own_ge c (11264 : Int32) = 1 from own_ge1 (by rw [show ((11264 : Int32)).toInt = 11264 from by decide]; omega)]
  rw [show own_ge c (12272 : Int32) = 1 from own_ge1 (by rw [show ((12272 : Int32)).toInt = 12272 from by decide]; omega)]
  rw [show own_ge c (12289 : Int32) = 1 from own_ge1 (by rw [show ((12289 : Int32)).toInt = 12289 from by decide]; omega)]
  rw [show own_ge c (55296 : Int32) = 1 from own_ge1 (by rw [show ((55296 : Int32)).toInt = 55296 from by decide]; omega)]
  rw [show own_ge c (63744 : Int32) = 0 from own_ge0 (by rw [show ((63744 : Int32)).toInt = 63744 from by decide]; omega)]
  rw [show own_ge c (64976 : Int32) = 0 from own_ge0 (by rw [show ((64976 : Int32)).toInt = 64976 from by decide]; omega)]
  rw [show own_ge c (65008 : Int32) = 0 from own_ge0 (by rw [show ((65008 : Int32)).toInt = 65008 from by decide]; omega)]
  rw [show own_ge c (65534 : Int32) = 0 from own_ge0 (by rw [show ((65534 : Int32)).toInt = 65534 from by decide]; omega)]
  rw [show own_ge c (65536 : Int32) = 0 from own_ge0 (by rw [show ((65536 : Int32)).toInt = 65536 from by decide]; omega)]
  rw [show own_ge c (983040 : Int32) = 0 from own_ge0 (by rw [show ((983040 : Int32)).toInt = 983040 from by decide]; omega)]
  rw [show own_e _ = 0 from by decide]
  show own_f0 c = 0
  rw [own_f0, if_neg (show ¬ (c < (97 : Int32)) from by rw [Int32.lt_iff_toInt_lt, show ((97 : Int32)).toInt = 97 from by decide]; omega)]
  show own_f6 c = 0
  rw [own_f6, if_pos (show (122 : Int32) < c from by rw [Int32.lt_iff_toInt_lt, show ((122 : Int32)).toInt = 122 from by decide]; omega)]
  show own_f12 c = 0
  rw [own_f12, if_neg (show ¬ (c < (65 : Int32)) from by rw [Int32.lt_iff_toInt_lt, show ((65 : Int32)).toInt = 65 from by decide]; omega)]
  show own_f18 c = 0
  rw [own_f18, if_pos (show (90 : Int32) < c from by rw [Int32.lt_iff_toInt_lt, show ((90 : Int32)).toInt = 90 from by decide]; omega)]
  show own_f24 c = 0
  rw [own_f24, if_neg (show ¬ (c = (95 : Int32)) from by intro q; have q2 := congrArg Int32.toInt q; rw [show ((95 : Int32)).toInt = 95 from by decide] at q2; omega)]
  show own_f30 c = 0
  rw [own_f30, if_neg (show ¬ (c < (192 : Int32)) from by rw [Int32.lt_iff_toInt_lt, show ((192 : Int32)).toInt = 192 from by decide]; omega)]
  show own_f37 c = 0
  rw [own_f37, if_pos (show (214 : Int32) < c from by rw [Int32.lt_iff_toInt_lt, show ((214 : Int32)).toInt = 214 from by decide]; omega)]
  show own_f44 c = 0
  rw [own_f44, if_neg (show ¬ (c < (216 : Int32)) from by rw [Int32.lt_iff_toInt_lt, show ((216 : Int32)).toInt = 216 from by decide]; omega)]
  show own_f51 c = 0
  rw [own_f51, if_pos (show (246 : Int32) < c from by rw [Int32.lt_iff_toInt_lt, show ((246 : Int32)).toInt = 246 from by decide]; omega)]
  show own_f58 c = 0
  rw [own_f58, if_neg (show ¬ (c < (248 : Int32)) from by rw [Int32.lt_iff_toInt_lt, show ((248 : Int32)).toInt = 248 from by decide]; omega)]
  show own_f65 c = 0
  rw [own_f65, if_pos (show (767 : Int32) < c from by rw [Int32.lt_iff_toInt_lt, show ((767 : Int32)).toInt = 767 from by decide]; omega)]
  show own_f72 c = 0
  rw [own_f72, if_neg (show ¬ (c < (880 : Int32)) from by rw [Int32.lt_iff_toInt_lt, show ((880 : Int32)).toInt = 880 from by decide]; omega)]
  show own_f79 c = 0
  rw [own_f79, if_pos (show (893 : Int32) < c from by rw [Int32.lt_iff_toInt_lt, show ((893 : Int32)).toInt = 893 from by decide]; omega)]
  show own_f86 c = 0
  rw [own_f86, if_neg (show ¬ (c < (895 : Int32)) from by rw [Int32.lt_iff_toInt_lt, show ((895 : Int32)).toInt = 895 from by decide]; omega)]
  show own_f93 c = 0
  rw [own_f93, if_pos (show (8191 : Int32) < c from by rw [Int32.lt_iff_toInt_lt, show ((8191 : Int32)).toInt = 8191 from by decide]; omega)]
  show own_f100 c = 0
  rw [own_f100, if_neg (show ¬ (c = (8204 : Int32)) from by intro q; have q2 := congrArg Int32.toInt q; rw [show ((8204 : Int32)).toInt = 8204 from by decide] at q2; omega)]
  show own_f107 c = 0
  rw [own_f107, if_neg (show ¬ (c = (8205 : Int32)) from by intro q; have q2 := congrArg Int32.toInt q; rw [show ((8205 : Int32)).toInt = 8205 from by decide] at q2; omega)]
  show own_f114 c = 0
  rw [own_f114, if_neg (show ¬ (c < (8304 : Int32)) from by rw [Int32.lt_iff_toInt_lt, show ((8304 : Int32)).toInt = 8304 from by decide]; omega)]
  show own_f121 c = 0
  rw [own_f121, if_pos (show (8591 : Int32) < c from by rw [Int32.lt_iff_toInt_lt, show ((8591 : Int32)).toInt = 8591 from by decide]; omega)]
  show own_f128 c = 0
  rw [own_f128, if_neg (show ¬ (c < (11264 : Int32)) from by rw [Int32.lt_iff_toInt_lt, show ((11264 : Int32)).toInt = 11264 from by decide]; omega)]
  show own_f135 c = 0
  rw [own_f135, if_pos (show (12271 : Int32) < c from by rw [Int32.lt_iff_toInt_lt, show ((12271 : Int32)).toInt = 12271 from by decide]; omega)]
  show own_f142 c = 0
  rw [own_f142, if_neg (show ¬ (c < (12289 : Int32)) from by rw [Int32.lt_iff_toInt_lt, show ((12289 : Int32)).toInt = 12289 from by decide]; omega)]
  show own_f149 c = 0
  rw [own_f149, if_pos (show (55295 : Int32) < c from by rw [Int32.lt_iff_toInt_lt, show ((55295 : Int32)).toInt = 55295 from by decide]; omega)]
  show own_f155 c = 0
  rw [own_f155, if_pos (show c < (63744 : Int32) from by rw [Int32.lt_iff_toInt_lt, show ((63744 : Int32)).toInt = 63744 from by decide]; omega)]
  show own_f167 c = 0
  rw [own_f167, if_pos (show c < (65008 : Int32) from by rw [Int32.lt_iff_toInt_lt, show ((65008 : Int32)).toInt = 65008 from by decide]; omega)]
  show own_f179 c = 0
  rw [own_f179, if_pos (show c < (65536 : Int32) from by rw [Int32.lt_iff_toInt_lt, show ((65536 : Int32)).toInt = 65536 from by decide]; omega)]
theorem own_leaf25 (c : Int32) (h1 : (63744 : Int) ≤ c.toInt) (h2 : c.toInt < (64976 : Int)) : own_f0 c = own_e ((((((((((((((((((((((((((((((own_ge c (65 : Int32)) + (own_ge c (91 : Int32))) + (own_ge c (95 : Int32))) + (own_ge c (96 : Int32))) + (own_ge c (97 : Int32))) + (own_ge c (123 : Int32))) + (own_ge c (192 : Int32))) + (own_ge c (215 : Int32))) + (own_ge c (216 : Int32))) + (own_ge c (247 : Int32))) + (own_ge c (248 : Int32))) + (own_ge c (768 : Int32))) + (own_ge c (880 : Int32))) + (own_ge c (894 : Int32))) + (own_ge c (895 : Int32))) + (own_ge c (8192 : Int32))) + (own_ge c (8204 : Int32))) + (own_ge c (8206 : Int32))) + (own_ge c (8304 : Int32))) + (own_ge c (8592 : Int32))) + (own_ge c (11264 : Int32))) + (own_ge c (12272 : Int32))) + (own_ge c (12289 : Int32))) + (own_ge c (55296 : Int32))) + (own_ge c (63744 : Int32))) + (own_ge c (64976 : Int32))) + (own_ge c (65008 : Int32))) + (own_ge c (65534 : Int32))) + (own_ge c (65536 : Int32))) + (own_ge c (983040 : Int32))) := by
  rw [show own_ge c (65 : Int32) = 1 from own_ge1 (by rw [show ((65 : Int32)).toInt = 65 from by decide]; omega)]
  rw [show own_ge c (91 : Int32) = 1 from own_ge1 (by rw [show ((91 : Int32)).toInt = 91 from by decide]; omega)]
  rw [show own_ge c (95 : Int32) = 1 from own_ge1 (by rw [show ((95 : Int32)).toInt = 95 from by decide]; omega)]
  rw [show own_ge c (96 : Int32) = 1 from own_ge1 (by rw [show ((96 : Int32)).toInt = 96 from by decide]; omega)]
  rw [show own_ge c (97 : Int32) = 1 from own_ge1 (by rw [show ((97 : Int32)).toInt = 97 from by decide]; omega)]
  rw [show own_ge c (123 : Int32) = 1 from own_ge1 (by rw [show ((123 : Int32)).toInt = 123 from by decide]; omega)]
  rw [show own_ge c (192 : Int32) = 1 from own_ge1 (by rw [show ((192 : Int32)).toInt = 192 from by decide]; omega)]
  rw [show own_ge c (215 : Int32) = 1 from own_ge1 (by rw [show ((215 : Int32)).toInt = 215 from by decide]; omega)]
  rw [show own_ge c (216 : Int32) = 1 from own_ge1 (by rw [show ((216 : Int32)).toInt = 216 from by decide]; omega)]
  rw [show own_ge c (247 : Int32) = 1 from own_ge1 (by rw [show ((247 : Int32)).toInt = 247 from by decide]; omega)]
  rw [show own_ge c (248 : Int32) = 1 from own_ge1 (by rw [show ((248 : Int32)).toInt = 248 from by decide]; omega)]
  rw [show own_ge c (768 : Int32) = 1 from own_ge1 (by rw [show ((768 : Int32)).toInt = 768 from by decide]; omega)]
  rw [show own_ge c (880 : Int32) = 1 from own_ge1 (by rw [show ((880 : Int32)).toInt = 880 from by decide]; omega)]
  rw [show own_ge c (894 : Int32) = 1 from own_ge1 (by rw [show ((894 : Int32)).toInt = 894 from by decide]; omega)]
  rw [show own_ge c (895 : Int32) = 1 from own_ge1 (by rw [show ((895 : Int32)).toInt = 895 from by decide]; omega)]
  rw [show own_ge c (8192 : Int32) = 1 from own_ge1 (by rw [show ((8192 : Int32)).toInt = 8192 from by decide]; omega)]
  rw [show own_ge c (8204 : Int32) = 1 from own_ge1 (by rw [show ((8204 : Int32)).toInt = 8204 from by decide]; omega)]
  rw [show own_ge c (8206 : Int32) = 1 from own_ge1 (by rw [show ((8206 : Int32)).toInt = 8206 from by decide]; omega)]
  rw [show own_ge c (8304 : Int32) = 1 from own_ge1 (by rw [show ((8304 : Int32)).toInt = 8304 from by decide]; omega)]
  rw [show own_ge c (8592 : Int32) = 1 from own_ge1 (by rw [show ((8592 : Int32)).toInt = 8592 from by decide]; omega)]
  rw [show own_ge c (11264 : Int32) = 1 from own_ge1 (by rw [show ((11264 : Int32)).toInt = 11264 from by decide]; omega)]
  rw [show own_ge c (12272 : Int32) = 1 from own_ge1 (by rw [show ((12272 : Int32)).toInt = 12272 from by decide]; omega)]
  rw [show own_ge c (12289 : Int32) = 1 from own_ge1 (by rw [show ((12289 : Int32)).toInt = 12289 from by decide]; omega)]
  rw [show own_ge c (55296 : Int32) = 1 from own_ge1 (by rw [show ((55296 : Int32)).toInt = 55296 from by decide]; omega)]
  rw [show own_ge c (63744 : Int32) = 1 from own_ge1 (by rw [show ((63744 : Int32)).toInt = 63744 from by decide]; omega)]
  rw [show own_ge c (64976 : Int32) = 0 from own_ge0 (by rw [show ((64976 : Int32)).toInt = 64976 from by decide]; omega)]
  rw [show own_ge c (65008 : Int32) = 0 from own_ge0 (by rw [show ((65008 : Int32)).toInt = 65008 from by decide]; omega)]
  rw [show own_ge c (65534 : Int32) = 0 from own_ge0 (by rw [show ((65534 : Int32)).toInt = 65534 from by decide]; omega)]
  rw [show own_ge c (65536 : Int32) = 0 from own_ge0 (by rw [show ((65536 : Int32)).toInt = 65536 from by decide]; omega)]
  rw [show own_ge c (983040 : Int32) = 0 from own_ge0 (by rw [show ((983040 : Int32)).toInt = 983040 from by decide]; omega)]
  rw [show own_e _ = 1 from by decide]
  show own_f0 c = 1
  rw [own_f0, if_neg (show ¬ (c < (97 : Int32)) from by rw [Int32.lt_iff_toInt_lt, show ((97 : Int32)).toInt = 97 from by decide]; omega)]
  show own_f6 c = 1
  rw [own_f6, if_pos (show (122 : Int32) < c from by rw [Int32.lt_iff_toInt_lt, show ((122 : Int32)).toInt = 122 from by decide]; omega)]
  show own_f12 c = 1
  rw [own_f12, if_neg (show ¬ (c < (65 : Int32)) from by rw [Int32.lt_iff_toInt_lt, show ((65 : Int32)).toInt = 65 from by decide]; omega)]
  show own_f18 c = 1
  rw [own_f18, if_pos (show (90 : Int32) < c from by rw [Int32.lt_iff_toInt_lt, show ((90 : Int32)).toInt = 90 from by decide]; omega)]
  show own_f24 c = 1
  rw [own_f24, if_neg (show ¬ (c = (95 : Int32)) from by intro q; have q2 := congrArg Int32.toInt q; rw [show ((95 : Int32)).toInt = 95 from by decide] at q2; omega)]
  show own_f30 c = 1
  rw [own_f30, if_neg (show ¬ (c < (192 : Int32)) from by rw [Int32.lt_iff_toInt_lt, show ((192 : Int32)).toInt = 192 from by decide]; omega)]
  show own_f37 c = 1
  rw [own_f37, if_pos (show (214 : Int32) < c from by rw [Int32.lt_iff_toInt_lt, show ((214 : Int32)).toInt = 214 from by decide]; omega)]
  show own_f44 c = 1
  rw [own_f44, if_neg (show ¬ (c < (216 : Int32)) from by rw [Int32.lt_iff_toInt_lt, show ((216 : Int32)).toInt = 216 from by decide]; omega)]
  show own_f51 c = 1
  rw [own_f51, if_pos (show (246 : Int32) < c from by rw [Int32.lt_iff_toInt_lt, show ((246 : Int32)).toInt = 246 from by decide]; omega)]
  show own_f58 c = 1
  rw [own_f58, if_neg (show ¬ (c < (248 : Int32)) from by rw [Int32.lt_iff_toInt_lt, show ((248 : Int32)).toInt = 248 from by decide]; omega)]
  show own_f65 c = 1
  rw [own_f65, if_pos (show (767 : Int32) < c from by rw [Int32.lt_iff_toInt_lt, show ((767 : Int32)).toInt = 767 from by decide]; omega)]
  show own_f72 c = 1
  rw [own_f72, if_neg (show ¬ (c < (880 : Int32)) from by rw [Int32.lt_iff_toInt_lt, show ((880 : Int32)).toInt = 880 from by decide]; omega)]
  show own_f79 c = 1
  rw [own_f79, if_pos (show (893 : Int32) < c from by rw [Int32.lt_iff_toInt_lt, show ((893 : Int32)).toInt = 893 from by decide]; omega)]
  show own_f86 c = 1
  rw [own_f86, if_neg (show ¬ (c < (895 : Int32)) from by rw [Int32.lt_iff_toInt_lt, show ((895 : Int32)).toInt = 895 from by decide]; omega)]
  show own_f93 c = 1
  rw [own_f93, if_pos (show (8191 : Int32) < c from by rw [Int32.lt_iff_toInt_lt, show ((8191 : Int32)).toInt = 8191 from by decide]; omega)]
  show own_f100 c = 1
  rw [own_f100, if_neg (show ¬ (c = (8204 : Int32)) from by intro q; have q2 := congrArg Int32.toInt q; rw [show ((8204 : Int32)).toInt = 8204 from by decide] at q2; omega)]
  show own_f107 c = 1
  rw [own_f107, if_neg (show ¬ (c = (8205 : Int32)) from by intro q; have q2 := congrArg Int32.toInt q; rw [show ((8205 : Int32)).toInt = 8205 from by decide] at q2; omega)]
  show own_f114 c = 1
  rw [own_f114, if_neg (show ¬ (c < (8304 : Int32)) from by rw [Int32.lt_iff_toInt_lt, show ((8304 : Int32)).toInt = 8304 from by decide]; omega)]
  show own_f121 c = 1
  rw [own_f121, if_pos (show (8591 : Int32) < c from by rw [Int32.lt_iff_toInt_lt, show ((8591 : Int32)).toInt = 8591 from by decide]; omega)]
  show own_f128 c = 1
  rw [own_f128, if_neg (show ¬ (c < (11264 : Int32)) from by rw [Int32.lt_iff_toInt_lt, show ((11264 : Int32)).toInt = 11264 from by decide]; omega)]
  show own_f135 c = 1
  rw [own_f135, if_pos (show (12271 : Int32) < c from by rw [Int32.lt_iff_toInt_lt, show ((12271 : Int32)).toInt = 12271 from by decide]; omega)]
  show own_f142 c = 1
  rw [own_f142, if_neg (show ¬ (c < (12289 : Int32)) from by rw [Int32.lt_iff_toInt_lt, show ((12289 : Int32)).toInt = 12289 from by decide]; omega)]
  show own_f149 c = 1
  rw [own_f149, if_pos (show (55295 : Int32) < c from by rw [Int32.lt_iff_toInt_lt, show ((55295 : Int32)).toInt = 55295 from by decide]; omega)]
  show own_f155 c = 1
  rw [own_f155, if_neg (show ¬ (c < (63744 : Int32)) from by rw [Int32.lt_iff_toInt_lt, show ((63744 : Int32)).toInt = 63744 from by decide]; omega)]
  show own_f161 c = 1
  rw [own_f161, if_neg (show ¬ ((64975 : Int32) < c) from by rw [Int32.lt_iff_toInt_lt, show ((64975 : Int32)).toInt = 64975 from by decide]; omega)]
theorem own_leaf26 (c : Int32) (h1 : (64976 : Int) ≤ c.toInt) (h2 : c.toInt < (65008 : Int)) : own_f0 c = own_e ((((((((((((((((((((((((((((((own_ge c (65 : Int32)) + (own_ge c (91 : Int32))) + (own_ge c (95 : Int32))) + (own_ge c (96 : Int32))) + (own_ge c (97 : Int32))) + (own_ge c (123 : Int32))) + (own_ge c (192 : Int32))) + (own_ge c (215 : Int32))) + (own_ge c (216 : Int32))) + (own_ge c (247 : Int32))) + (own_ge c (248 : Int32))) + (own_ge c (768 : Int32))) + (own_ge c (880 : Int32))) + (own_ge c (894 : Int32))) + (own_ge c (895 : Int32))) + (own_ge c (8192 : Int32))) + (own_ge c (8204 : Int32))) + (own_ge c (8206 : Int32))) + (own_ge c (8304 : Int32))) + (own_ge c (8592 : Int32))) + (own_ge c (11264 : Int32))) + (own_ge c (12272 : Int32))) + (own_ge c (12289 : Int32))) + (own_ge c (55296 : Int32))) + (own_ge c (63744 : Int32))) + (own_ge c (64976 : Int32))) + (own_ge c (65008 : Int32))) + (own_ge c (65534 : Int32))) + (own_ge c (65536 : Int32))) + (own_ge c (983040 : Int32))) := by
  rw [show own_ge c (65 : Int32) = 1 from own_ge1 (by rw [show ((65 : Int32)).toInt = 65 from by decide]; omega)]
  rw [show own_ge c (91 : Int32) = 1 from own_ge1 (by rw [show ((91 : Int32)).toInt = 91 from by decide]; omega)]
  rw [show own_ge c (95 : Int32) = 1 from own_ge1 (by rw [show ((95 : Int32)).toInt = 95 from by decide]; omega)]
  rw [show own_ge c (96 : Int32) = 1 from own_ge1 (by rw [show ((96 : Int32)).toInt = 96 from by decide]; omega)]
  rw [show own_ge c (97 : Int32) = 1 from own_ge1 (by rw [show ((97 : Int32)).toInt = 97 from by decide]; omega)]
  rw [show own_ge c (123 : Int32) = 1 from own_ge1 (by rw [show ((123 : Int32)).toInt = 123 from by decide]; omega)]
  rw [show own_ge c (192 : Int32) = 1 from own_ge1 (by rw [show ((192 : Int32)).toInt = 192 from by decide]; omega)]
  rw [show own_ge c (215 : Int32) = 1 from own_ge1 (by rw [show ((215 : Int32)).toInt = 215 from by decide]; omega)]
  rw [show own_ge c (216 : Int32) = 1 from own_ge1 (by rw [show ((216 : Int32)).toInt = 216 from by decide]; omega)]
  rw [show own_ge c (247 : Int32) = 1 from own_ge1 (by rw [show ((247 : Int32)).toInt = 247 from by decide]; omega)]
  rw [show own_ge c (248 : Int32) = 1 from own_ge1 (by rw [show ((248 : Int32)).toInt = 248 from by decide]; omega)]
  rw [show own_ge c (768 : Int32) = 1 from own_ge1 (by rw [show ((768 : Int32)).toInt = 768 from by decide]; omega)]
  rw [show own_ge c (880 : Int32) = 1 from own_ge1 (by rw [show ((880 : Int32)).toInt = 880 from by decide]; omega)]
  rw [show own_ge c (894 : Int32) = 1 from own_ge1 (by rw [show ((894 : Int32)).toInt = 894 from by decide]; omega)]
  rw [show own_ge c (895 : Int32) = 1 from own_ge1 (by rw [show ((895 : Int32)).toInt = 895 from by decide]; omega)]
  rw [show own_ge c (8192 : Int32) = 1 from own_ge1 (by rw [show ((8192 : Int32)).toInt = 8192 from by decide]; omega)]
  rw [show own_ge c (8204 : Int32) = 1 from own_ge1 (by rw [show ((8204 : Int32)).toInt = 8204 from by decide]; omega)]
  rw [show own_ge c (8206 : Int32) = 1 from own_ge1 (by rw [show ((8206 : Int32)).toInt = 8206 from by decide]; omega)]
  rw [show own_ge c (8304 : Int32) = 1 from own_ge1 (by rw [show ((8304 : Int32)).toInt = 8304 from by decide]; omega)]
  rw [show own_ge c (8592 : Int32) = 1 from own_ge1 (by rw [show ((8592 : Int32)).toInt = 8592 from by decide]; omega)]
  rw [show own_ge c (11264 : Int32) = 1 from own_ge1 (by rw [show ((11264 : Int32)).toInt = 11264 from by decide]; omega)]
  rw [show own_ge c (12272 : Int32) = 1 from own_ge1 (by rw [show ((12272 : Int32)).toInt = 12272 from by decide]; omega)]
  rw [show own_ge c (12289 : Int32) = 1 from own_ge1 (by rw [show ((12289 : Int32)).toInt = 12289 from by decide]; omega)]
  rw [show own_ge c (55296 : Int32) = 1 from own_ge1 (by rw [show ((55296 : Int32)).toInt = 55296 from by decide]; omega)]
  rw [show own_ge c (63744 : Int32) = 1 from own_ge1 (by rw [show ((63744 : Int32)).toInt = 63744 from by decide]; omega)]
  rw [show own_ge c (64976 : Int32) = 1 from own_ge1 (by rw [show ((64976 : Int32)).toInt = 64976 from by decide]; omega)]
  rw [show own_ge c (65008 : Int32) = 0 from own_ge0 (by rw [show ((65008 : Int32)).toInt = 65008 from by decide]; omega)]
  rw [show own_ge c (65534 : Int32) = 0 from own_ge0 (by rw [show ((65534 : Int32)).toInt = 65534 from by decide]; omega)]
  rw [show own_ge c (65536 : Int32) = 0 from own_ge0 (by rw [show ((65536 : Int32)).toInt = 65536 from by decide]; omega)]
  rw [show own_ge c (983040 : Int32) = 0 from own_ge0 (by rw [show ((983040 : Int32)).toInt = 983040 from by decide]; omega)]
  rw [show own_e _ = 0 from by decide]
  show own_f0 c = 0
  rw [own_f0, if_neg (show ¬ (c < (97 : Int32)) from by rw [Int32.lt_iff_toInt_lt, show ((97 : Int32)).toInt = 97 from by decide]; omega)]
  show own_f6 c = 0
  rw [own_f6, if_pos (show (122 : Int32) < c from by rw [Int32.lt_iff_toInt_lt, show ((122 : Int32)).toInt = 122 from by decide]; omega)]
  show own_f12 c = 0
  rw [own_f12, if_neg (show ¬ (c < (65 : Int32)) from by rw [Int32.lt_iff_toInt_lt, show ((65 : Int32)).toInt = 65 from by decide]; omega)]
  show own_f18 c = 0
  rw [own_f18, if_pos (show (90 : Int32) < c from by rw [Int32.lt_iff_toInt_lt, show ((90 : Int32)).toInt = 90 from by decide]; omega)]
  show own_f24 c = 0
  rw [own_f24, if_neg (show ¬ (c = (95 : Int32)) from by intro q; have q2 := congrArg Int32.toInt q; rw [show ((95 : Int32)).toInt = 95 from by decide] at q2; omega)]
  show own_f30 c = 0
  rw [own_f30, if_neg (show ¬ (c < (192 : Int32)) from by rw [Int32.lt_iff_toInt_lt, show ((192 : Int32)).toInt = 192 from by decide]; omega)]
  show own_f37 c = 0
  rw [own_f37, if_pos (show (214 : Int32) < c from by rw [Int32.lt_iff_toInt_lt, show ((214 : Int32)).toInt = 214 from by decide]; omega)]
  show own_f44 c = 0
  rw [own_f44, if_neg (show ¬ (c < (216 : Int32)) from by rw [Int32.lt_iff_toInt_lt, show ((216 : Int32)).toInt = 216 from by decide]; omega)]
  show own_f51 c = 0
  rw [own_f51, if_pos (show (246 : Int32) < c from by rw [Int32.lt_iff_toInt_lt, show ((246 : Int32)).toInt = 246 from by decide]; omega)]
  show own_f58 c = 0
  rw [own_f58, if_neg (show ¬ (c < (248 : Int32)) from by rw [Int32.lt_iff_toInt_lt, show ((248 : Int32)).toInt = 248 from by decide]; omega)]
  show own_f65 c = 0
  rw [own_f65, if_pos (show (767 : Int32) < c from by rw [Int32.lt_iff_toInt_lt, show ((767 : Int32)).toInt = 767 from by decide]; omega)]
  show own_f72 c = 0
  rw [own_f72, if_neg (show ¬ (c < (880 : Int32)) from by rw [Int32.lt_iff_toInt_lt, show ((880 : Int32)).toInt = 880 from by decide]; omega)]
  show own_f79 c = 0
  rw [own_f79, if_pos (show (893 : Int32) < c from by rw [Int32.lt_iff_toInt_lt, show ((893 : Int32)).toInt = 893 from by decide]; omega)]
  show own_f86 c = 0
  rw [own_f86, if_neg (show ¬ (c < (895 : Int32)) from by rw [Int32.lt_iff_toInt_lt, show ((895 : Int32)).toInt = 895 from by decide]; omega)]
  show own_f93 c = 0
  rw [own_f93, if_pos (show (8191 : Int32) < c from by rw [Int32.lt_iff_toInt_lt, show ((8191 : Int32)).toInt = 8191 from by decide]; omega)]
  show own_f100 c = 0
  rw [own_f100, if_neg (show ¬ (c = (8204 : Int32)) from by intro q; have q2 := congrArg Int32.toInt q; rw [show ((8204 : Int32)).toInt = 8204 from by decide] at q2; omega)]
  show own_f107 c = 0
  rw [own_f107, if_neg (show ¬ (c = (8205 : Int32)) from by intro q; have q2 := congrArg Int32.toInt q; rw [show ((8205 : Int32)).toInt = 8205 from by decide] at q2; omega)]
  show own_f114 c = 0
  rw [own_f114, if_neg (show ¬ (c < (8304 : Int32)) from by rw [Int32.lt_iff_toInt_lt, show ((8304 : Int32)).toInt = 8304 from by decide]; omega)]
  show own_f121 c = 0
  rw [own_f121, if_pos (show (8591 : Int32) < c from by rw [Int32.lt_iff_toInt_lt, show ((8591 : Int32)).toInt = 8591 from by decide]; omega)]
  show own_f128 c = 0
  rw [own_f128, if_neg (show ¬ (c < (11264 : Int32)) from by rw [Int32.lt_iff_toInt_lt, show ((11264 : Int32)).toInt = 11264 from by decide]; omega)]
  show own_f135 c = 0
  rw [own_f135, if_pos (show (12271 : Int32) < c from by rw [Int32.lt_iff_toInt_lt, show ((12271 : Int32)).toInt = 12271 from by decide]; omega)]
  show own_f142 c = 0
  rw [own_f142, if_neg (show ¬ (c < (12289 : Int32)) from by rw [Int32.lt_iff_toInt_lt, show ((12289 : Int32)).toInt = 12289 from by decide]; omega)]
  show own_f149 c = 0
  rw [own_f149, if_pos (show (55295 : Int32) < c from by rw [Int32.lt_iff_toInt_lt, show ((55295 : Int32)).toInt = 55295 from by decide]; omega)]
  show own_f155 c = 0
  rw [own_f155, if_neg (show ¬ (c < (63744 : Int32)) from by rw [Int32.lt_iff_toInt_lt, show ((63744 : Int32)).toInt = 63744 from by decide]; omega)]
  show own_f161 c = 0
  rw [own_f161, if_pos (show (64975 : Int32) < c from by rw [Int32.lt_iff_toInt_lt, show ((64975 : Int32)).toInt = 64975 from by decide]; omega)]
  show own_f167 c = 0
  rw [own_f167, if_pos (show c < (65008 : Int32) from by rw [Int32.lt_iff_toInt_lt, show ((65008 : Int32)).toInt = 65008 from by decide]; omega)]
  show own_f179 c = 0
  rw [own_f179, if_pos (show c < (65536 : Int32) from by rw [Int32.lt_iff_toInt_lt, show ((65536 : Int32)).toInt = 65536 from by decide]; omega)]
theorem own_leaf27 (c : Int32) (h1 : (65008 : Int) ≤ c.toInt) (h2 : c.toInt < (65534 : Int)) : own_f0 c = own_e ((((((((((((((((((((((((((((((own_ge c (65 : Int32)) + (own_ge c (91 : Int32))) + (own_ge c (95 : Int32))) + (own_ge c (96 : Int32))) + (own_ge c (97 : Int32))) + (own_ge c (123 : Int32))) + (own_ge c (192 : Int32))) + (own_ge c (215 : Int32))) + (own_ge c (216 : Int32))) + (own_ge c (247 : Int32))) + (own_ge c (248 : Int32))) + (own_ge c (768 : Int32))) + (own_ge c (880 : Int32))) + (own_ge c (894 : Int32))) + (own_ge c (895 : Int32))) + (own_ge c (8192 : Int32))) + (own_ge c (8204 : Int32))) + (own_ge c (8206 : Int32))) + (own_ge c (8304 : Int32))) + (own_ge c (8592 : Int32))) + (own_ge c (11264 : Int32))) + (own_ge c (12272 : Int32))) + (own_ge c (12289 : Int32))) + (own_ge c (55296 : Int32))) + (own_ge c (63744 : Int32))) + (own_ge c (64976 : Int32))) + (own_ge c (65008 : Int32))) + (own_ge c (65534 : Int32))) + (own_ge c (65536 : Int32))) + (own_ge c (983040 : Int32))) := by
  rw [show own_ge c (65 : Int32) = 1 from own_ge1 (by rw [show ((65 : Int32)).toInt = 65 from by decide]; omega)]
  rw [show own_ge c (91 : Int32) = 1 from own_ge1 (by rw [show ((91 : Int32)).toInt = 91 from by decide]; omega)]
  rw [show own_ge c (95 : Int32) = 1 from own_ge1 (by rw [show ((95 : Int32)).toInt = 95 from by decide]; omega)]
  rw [show own_ge c (96 : Int32) = 1 from own_ge1 (by rw [show ((96 : Int32)).toInt = 96 from by decide]; omega)]
  rw [show own_ge c (97 : Int32) = 1 from own_ge1 (by rw [show ((97 : Int32)).toInt = 97 from by decide]; omega)]
  rw [show own_ge c (123 : Int32) = 1 from own_ge1 (by rw [show ((123 : Int32)).toInt = 123 from by decide]; omega)]
  rw [show own_ge c (192 : Int32) = 1 from own_ge1 (by rw [show ((192 : Int32)).toInt = 192 from by decide]; omega)]
  rw [show own_ge c (215 : Int32) = 1 from own_ge1 (by rw [show ((215 : Int32)).toInt = 215 from by decide]; omega)]
  rw [show own_ge c (216 : Int32) = 1 from own_ge1 (by rw [show ((216 : Int32)).toInt = 216 from by decide]; omega)]
  rw [show own_ge c (247 : Int32) = 1 from own_ge1 (by rw [show ((247 : Int32)).toInt = 247 from by decide]; omega)]
  rw [show own_ge c (248 : Int32) = 1 from own_ge1 (by rw [show ((248 : Int32)).toInt = 248 from by decide]; omega)]
  rw [show own_ge c (768 : Int32) = 1 from own_ge1 (by rw [show ((768 : Int32)).toInt = 768 from by decide]; omega)]
  rw [show own_ge c (880 : Int32) = 1 from own_ge1 (by rw [show ((880 : Int32)).toInt = 880 from by decide]; omega)]
  rw [show own_ge c (894 : Int32) = 1 from own_ge1 (by rw [show ((894 : Int32)).toInt = 894 from by decide]; omega)]
  rw [show own_ge c (895 : Int32) = 1 from own_ge1 (by rw [show ((895 : Int32)).toInt = 895 from by decide]; omega)]
  rw [show own_ge c (8192 : Int32) = 1 from own_ge1 (by rw [show ((8192 : Int32)).toInt = 8192 from by decide]; omega)]
  rw [show own_ge c (8204 : Int32) = 1 from own_ge1 (by rw [show ((8204 : Int32)).toInt = 8204 from by decide]; omega)]
  rw [show own_ge c (8206 : Int32) = 1 from own_ge1 (by rw [show ((8206 : Int32)).toInt = 8206 from by decide]; omega)]
  rw [show own_ge c (8304 : Int32) = 1 from own_ge1 (by rw [show ((8304 : Int32)).toInt = 8304 from by decide]; omega)]
  rw [show own_ge c (8592 : Int32) = 1 from own_ge1 (by rw [show ((8592 : Int32)).toInt = 8592 from by decide]; omega)]
  rw [show own_ge c (11264 : Int32) = 1 from own_ge1 (by rw [show ((11264 : Int32)).toInt = 11264 from by decide]; omega)]
  rw [show own_ge c (12272 : Int32) = 1 from own_ge1 (by rw [show ((12272 : Int32)).toInt = 12272 from by decide]; omega)]
  rw [show own_ge c (12289 : Int32) = 1 from own_ge1 (by rw [show ((12289 : Int32)).toInt = 12289 from by decide]; omega)]
  rw [show own_ge c (55296 : Int32) = 1 from own_ge1 (by rw [show ((55296 : Int32)).toInt = 55296 from by decide]; omega)]
  rw [show own_ge c (63744 : Int32) = 1 from own_ge1 (by rw [show ((63744 : Int32)).toInt = 63744 from by decide]; omega)]
  rw [show own_ge c (64976 : Int32) = 1 from own_ge1 (by rw [show ((64976 : Int32)).toInt = 64976 from by decide]; omega)]
  rw [show own_ge c (65008 : Int32) = 1 from own_ge1 (by rw [show ((65008 : Int32)).toInt = 65008 from by decide]; omega)]
  rw [show own_ge c (65534 : Int32) = 0 from own_ge0 (by rw [show ((65534 : Int32)).toInt = 65534 from by decide]; omega)]
  rw [show own_ge c (65536 : Int32) = 0 from own_ge0 (by rw [show ((65536 : Int32)).toInt = 65536 from by decide]; omega)]
  rw [show own_ge c (983040 : Int32) = 0 from own_ge0 (by rw [show ((983040 : Int32)).toInt = 983040 from by decide]; omega)]
  rw [show own_e _ = 1 from by decide]
  show own_f0 c = 1
  rw [own_f0, if_neg (show ¬ (c < (97 : Int32)) from by rw [Int32.lt_iff_toInt_lt, show ((97 : Int32)).toInt = 97 from by decide]; omega)]
  show own_f6 c = 1
  rw [own_f6, if_pos (show (122 : Int32) < c from by rw [Int32.lt_iff_toInt_lt, show ((122 : Int32)).toInt = 122 from by decide]; omega)]
  show own_f12 c = 1
  rw [own_f12, if_neg (show ¬ (c < (65 : Int32)) from by rw [Int32.lt_iff_toInt_lt, show ((65 : Int32)).toInt = 65 from by decide]; omega)]
  show own_f18 c = 1
  rw [own_f18, if_pos (show (90 : Int32) < c from by rw [Int32.lt_iff_toInt_lt, show ((90 : Int32)).toInt = 90 from by decide]; omega)]
  show own_f24 c = 1
  rw [own_f24, if_neg (show ¬ (c = (95 : Int32)) from by intro q; have q2 := congrArg Int32.toInt q; rw [show ((95 : Int32)).toInt = 95 from by decide] at q2; omega)]
  show own_f30 c = 1
  rw [own_f30, if_neg (show ¬ (c < (192 : Int32)) from by rw [Int32.lt_iff_toInt_lt, show ((192 : Int32)).toInt = 192 from by decide]; omega)]
  show own_f37 c = 1
  rw [own_f37, if_pos (show (214 : Int32) < c from by rw [Int32.lt_iff_toInt_lt, show ((214 : Int32)).toInt = 214 from by decide]; omega)]
  show own_f44 c = 1
  rw [own_f44, if_neg (show ¬ (c < (216 : Int32)) from by rw [Int32.lt_iff_toInt_lt, show ((216 : Int32)).toInt = 216 from by decide]; omega)]
  show own_f51 c = 1
  rw [own_f51, if_pos (show (246 : Int32) < c from by rw [Int32.lt_iff_toInt_lt, show ((246 : Int32)).toInt = 246 from by decide]; omega)]
  show own_f58 c = 1
  rw [own_f58, if_neg (show ¬ (c < (248 : Int32)) from by rw [Int32.lt_iff_toInt_lt, show ((248 : Int32)).toInt = 248 from by decide]; omega)]
  show own_f65 c = 1
  rw [own_f65, if_pos (show (767 : Int32) < c from by rw [Int32.lt_iff_toInt_lt, show ((767 : Int32)).toInt = 767 from by decide]; omega)]
  show own_f72 c = 1
  rw [own_f72, if_neg (show ¬ (c < (880 : Int32)) from by rw [Int32.lt_iff_toInt_lt, show ((880 : Int32)).toInt = 880 from by decide]; omega)]
  show own_f79 c = 1
  rw [own_f79, if_pos (show (893 : Int32) < c from by rw [Int32.lt_iff_toInt_lt, show ((893 : Int32)).toInt = 893 from by decide]; omega)]
  show own_f86 c = 1
  rw [own_f86, if_neg (show ¬ (c < (895 : Int32)) from by rw [Int32.lt_iff_toInt_lt, show ((895 : Int32)).toInt = 895 from by decide]; omega)]
  show own_f93 c = 1
  rw [own_f93, if_pos (show (8191 : Int32) < c from by rw [Int32.lt_iff_toInt_lt, show ((8191 : Int32)).toInt = 8191 from by decide]; omega)]
  show own_f100 c = 1
  rw [own_f100, if_neg (show ¬ (c = (8204 : Int32)) from by intro q; have q2 := congrArg Int32.toInt q; rw [show ((8204 : Int32)).toInt = 8204 from by decide] at q2; omega)]
  show own_f107 c = 1
  rw [own_f107, if_neg (show ¬ (c = (8205 : Int32)) from by intro q; have q2 := congrArg Int32.toInt q; rw [show ((8205 : Int32)).toInt = 8205 from by decide] at q2; omega)]
  show own_f114 c = 1
  rw [own_f114, if_neg (show ¬ (c < (8304 : Int32)) from by rw [Int32.lt_iff_toInt_lt, show ((8304 : Int32)).toInt = 8304 from by decide]; omega)]
  show own_f121 c = 1
  rw [own_f121, if_pos (show (8591 : Int32) < c from by rw [Int32.lt_iff_toInt_lt, show ((8591 : Int32)).toInt = 8591 from by decide]; omega)]
  show own_f128 c = 1
  rw [own_f128, if_neg (show ¬ (c < (11264 : Int32)) from by rw [Int32.lt_iff_toInt_lt, show ((11264 : Int32)).toInt = 11264 from by decide]; omega)]
  show own_f135 c = 1
  rw [own_f135, if_pos (show (12271 : Int32) < c from by rw [Int32.lt_iff_toInt_lt, show ((12271 : Int32)).toInt = 12271 from by decide]; omega)]
  show own_f142 c = 1
  rw [own_f142, if_neg (show ¬ (c < (12289 : Int32)) from by rw [Int32.lt_iff_toInt_lt, show ((12289 : Int32)).toInt = 12289 from by decide]; omega)]
  show own_f149 c = 1
  rw [own_f149, if_pos (show (55295 : Int32) < c from by rw [Int32.lt_iff_toInt_lt, show ((55295 : Int32)).toInt = 55295 from by decide]; omega)]
  show own_f155 c = 1
  rw [own_f155, if_neg (show ¬ (c < (63744 : Int32)) from by rw [Int32.lt_iff_toInt_lt, show ((63744 : Int32)).toInt = 63744 from by decide]; omega)]
  show own_f161 c = 1
  rw [own_f161, if_pos (show (64975 : Int32) < c from by rw [Int32.lt_iff_toInt_lt, show ((64975 : Int32)).toInt = 64975 from by decide]; omega)]
  show own_f167 c = 1
  rw [own_f167, if_neg (show ¬ (c < (65008 : Int32)) from by rw [Int32.lt_iff_toInt_lt, show ((65008 : Int32)).toInt = 65008 from by decide]; omega)]
  show own_f173 c = 1
  rw [own_f173, if_neg (show ¬ ((65533 : Int32) < c) from by rw [Int32.lt_iff_toInt_lt, show ((65533 : Int32)).toInt = 65533 from by decide]; omega)]
theorem own_leaf28 (c : Int32) (h1 : (65534 : Int) ≤ c.toInt) (h2 : c.toInt < (65536 : Int)) : own_f0 c = own_e ((((((((((((((((((((((((((((((own_ge c (65 : Int32)) + (own_ge c (91 : Int32))) + (own_ge c (95 : Int32))) + (own_ge c (96 : Int32))) + (own_ge c (97 : Int32))) + (own_ge c (123 : Int32))) + (own_ge c (192 : Int32))) + (own_ge c (215 : Int32))) + (own_ge c (216 : Int32))) + (own_ge c (247 : Int32))) + (own_ge c (248 : Int32))) + (own_ge c (768 : Int32))) + (own_ge c (880 : Int32))) + (own_ge c (894 : Int32))) + (own_ge c (895 : Int32))) + (own_ge c (8192 : Int32))) + (own_ge c (8204 : Int32))) + (own_ge c (8206 : Int32))) + (own_ge c (8304 : Int32))) + (own_ge c (8592 : Int32))) + (own_ge c (11264 : Int32))) + (own_ge c (12272 : Int32))) + (own_ge c (12289 : Int32))) + (own_ge c (55296 : Int32))) + (own_ge c (63744 : Int32))) + (own_ge c (64976 : Int32))) + (own_ge c (65008 : Int32))) + (own_ge c (65534 : Int32))) + (own_ge c (65536 : Int32))) + (own_ge c (983040 : Int32))) := by
  rw [show own_ge c (65 : Int32) = 1 from own_ge1 (by rw [show ((65 : Int32)).toInt = 65 from by decide]; omega)]
  rw [show own_ge c (91 : Int32) = 1 from own_ge1 (by rw [show ((91 : Int32)).toInt = 91 from by decide]; omega)]
  rw [show own_ge c (95 : Int32) = 1 from own_ge1 (by rw [show ((95 : Int32)).toInt = 95 from by decide]; omega)]
  rw [show own_ge c (96 : Int32) = 1 from own_ge1 (by rw [show ((96 : Int32)).toInt = 96 from by decide]; omega)]
  rw [show own_ge c (97 : Int32) = 1 from own_ge1 (by rw [show ((97 : Int32)).toInt = 97 from by decide]; omega)]
  rw [show own_ge c (123 : Int32) = 1 from own_ge1 (by rw [show ((123 : Int32)).toInt = 123 from by decide]; omega)]
  rw [show own_ge c (192 : Int32) = 1 from own_ge1 (by rw [show ((192 : Int32)).toInt = 192 from by decide]; omega)]
  rw [show own_ge c (215 : Int32) = 1 from own_ge1 (by rw [show ((215 : Int32)).toInt = 215 from by decide]; omega)]
  rw [show own_ge c (216 : Int32) = 1 from own_ge1 (by rw [show ((216 : Int32)).toInt = 216 from by decide]; omega)]
  rw [show own_ge c (247 : Int32) = 1 from own_ge1 (by rw [show ((247 : Int32)).toInt = 247 from by decide]; omega)]
  rw [show own_ge c (248 : Int32) = 1 from own_ge1 (by rw [show ((248 : Int32)).toInt = 248 from by decide]; omega)]
  rw [show own_ge c (768 : Int32) = 1 from own_ge1 (by rw [show ((768 : Int32)).toInt = 768 from by decide]; omega)]
  rw [show own_ge c (880 : Int32) = 1 from own_ge1 (by rw [show ((880 : Int32)).toInt = 880 from by decide]; omega)]
  rw [show own_ge c (894 : Int32) = 1 from own_ge1 (by rw [show ((894 : Int32)).toInt = 894 from by decide]; omega)]
  rw [show own_ge c (895 : Int32) = 1 from own_ge1 (by rw [show ((895 : Int32)).toInt = 895 from by decide]; omega)]
  rw [show own_ge c (8192 : Int32) = 1 from own_ge1 (by rw [show ((8192 : Int32)).toInt = 8192 from by decide]; omega)]
  rw [show own_ge c (8204 : Int32) = 1 from own_ge1 (by rw [show ((8204 : Int32)).toInt = 8204 from by decide]; omega)]
  rw [show own_ge c (8206 : Int32) = 1 from own_ge1 (by rw [show ((8206 : Int32)).toInt = 8206 from by decide]; omega)]
  rw [show own_ge c (8304 : Int32) = 1 from own_ge1 (by rw [show ((8304 : Int32)).toInt = 8304 from by decide]; omega)]
  rw [show own_ge c (8592 : Int32) = 1 from own_ge1 (by rw [show ((8592 : Int32)).toInt = 8592 from by decide]; omega)]
  rw [show own_ge c (11264 : Int32) = 1 from own_ge1 (by rw [show ((11264 : Int32)).toInt = 11264 from by decide]; omega)]
  rw [show own_ge c (12272 : Int32) = 1 from own_ge1 (by rw [show ((12272 : Int32)).toInt = 12272 from by decide]; omega)]
  rw [show own_ge c (12289 : Int32) = 1 from own_ge1 (by rw [show ((12289 : Int32)).toInt = 12289 from by decide]; omega)]
  rw [show own_ge c (55296 : Int32) = 1 from own_ge1 (by rw [show ((55296 : Int32)).toInt = 55296 from by decide]; omega)]
  rw [show own_ge c (63744 : Int32) = 1 from own_ge1 (by rw [show ((63744 : Int32)).toInt = 63744 from by decide]; omega)]
  rw [show own_ge c (64976 : Int32) = 1 from own_ge1 (by rw [show ((64976 : Int32)).toInt = 64976 from by decide]; omega)]
  rw [show own_ge c (65008 : Int32) = 1 from own_ge1 (by rw [show ((65008 : Int32)).toInt = 65008 from by decide]; omega)]
  rw [show own_ge c (65534 : Int32) = 1 from own_ge1 (by rw [show ((65534 : Int32)).toInt = 65534 from by decide]; omega)]
  rw [show own_ge c (65536 : Int32) = 0 from own_ge0 (by rw [show ((65536 : Int32)).toInt = 65536 from by decide]; omega)]
  rw [show own_ge c (983040 : Int32) = 0 from own_ge0 (by rw [show ((983040 : Int32)).toInt = 983040 from by decide]; omega)]
  rw [show own_e _ = 0 from by decide]
  show own_f0 c = 0
  rw [own_f0, if_neg (show ¬ (c < (97 : Int32)) from by rw [Int32.lt_iff_toInt_lt, show ((97 : Int32)).toInt = 97 from by decide]; omega)]
  show own_f6 c = 0
  rw [own_f6, if_pos (show (122 : Int32) < c from by rw [Int32.lt_iff_toInt_lt, show ((122 : Int32)).toInt = 122 from by decide]; omega)]
  show own_f12 c = 0
  rw [own_f12, if_neg (show ¬ (c < (65 : Int32)) from by rw [Int32.lt_iff_toInt_lt, show ((65 : Int32)).toInt = 65 from by decide]; omega)]
  show own_f18 c = 0
  rw [own_f18, if_pos (show (90 : Int32) < c from by rw [Int32.lt_iff_toInt_lt, show ((90 : Int32)).toInt = 90 from by decide]; omega)]
  show own_f24 c = 0
  rw [own_f24, if_neg (show ¬ (c = (95 : Int32)) from by intro q; have q2 := congrArg Int32.toInt q; rw [show ((95 : Int32)).toInt = 95 from by decide] at q2; omega)]
  show own_f30 c = 0
  rw [own_f30, if_neg (show ¬ (c < (192 : Int32)) from by rw [Int32.lt_iff_toInt_lt, show ((192 : Int32)).toInt = 192 from by decide]; omega)]
  show own_f37 c = 0
  rw [own_f37, if_pos (show (214 : Int32) < c from by rw [Int32.lt_iff_toInt_lt, show ((214 : Int32)).toInt = 214 from by decide]; omega)]
  show own_f44 c = 0
  rw [own_f44, if_neg (show ¬ (c < (216 : Int32)) from by rw [Int32.lt_iff_toInt_lt, show ((216 : Int32)).toInt = 216 from by decide]; omega)]
  show own_f51 c = 0
  rw [own_f51, if_pos (show (246 : Int32) < c from by rw [Int32.lt_iff_toInt_lt, show ((246 : Int32)).toInt = 246 from by decide]; omega)]
  show own_f58 c = 0
  rw [own_f58, if_neg (show ¬ (c < (248 : Int32)) from by rw [Int32.lt_iff_toInt_lt, show ((248 : Int32)).toInt = 248 from by decide]; omega)]
  show own_f65 c = 0
  rw [own_f65, if_pos (show (767 : Int32) < c from by rw [Int32.lt_iff_toInt_lt, show ((767 : Int32)).toInt = 767 from by decide]; omega)]
  show own_f72 c = 0
  rw [own_f72, if_neg (show ¬ (c < (880 : Int32)) from by rw [Int32.lt_iff_toInt_lt, show ((880 : Int32)).toInt = 880 from by decide]; omega)]
  show own_f79 c = 0
  rw [own_f79, if_pos (show (893 : Int32) < c from by rw [Int32.lt_iff_toInt_lt, show ((893 : Int32)).toInt = 893 from by decide]; omega)]
  show own_f86 c = 0
  rw [own_f86, if_neg (show ¬ (c < (895 : Int32)) from by rw [Int32.lt_iff_toInt_lt, show ((895 : Int32)).toInt = 895 from by decide]; omega)]
  show own_f93 c = 0
  rw [own_f93, if_pos (show (8191 : Int32) < c from by rw [Int32.lt_iff_toInt_lt, show ((8191 : Int32)).toInt = 8191 from by decide]; omega)]
  show own_f100 c = 0
  rw [own_f100, if_neg (show ¬ (c = (8204 : Int32)) from by intro q; have q2 := congrArg Int32.toInt q; rw [show ((8204 : Int32)).toInt = 8204 from by decide] at q2; omega)]
  show own_f107 c = 0
  rw [own_f107, if_neg (show ¬ (c = (8205 : Int32)) from by intro q; have q2 := congrArg Int32.toInt q; rw [show ((8205 : Int32)).toInt = 8205 from by decide] at q2; omega)]
  show own_f114 c = 0
  rw [own_f114, if_neg (show ¬ (c < (8304 : Int32)) from by rw [Int32.lt_iff_toInt_lt, show ((8304 : Int32)).toInt = 8304 from by decide]; omega)]
  show own_f121 c = 0
  rw [own_f121, if_pos (show (8591 : Int32) < c from by rw [Int32.lt_iff_toInt_lt, show ((8591 : Int32)).toInt = 8591 from by decide]; omega)]
  show own_f128 c = 0
  rw [own_f128, if_neg (show ¬ (c < (11264 : Int32)) from by rw [Int32.lt_iff_toInt_lt, show ((11264 : Int32)).toInt = 11264 from by decide]; omega)]
  show own_f135 c = 0
  rw [own_f135, if_pos (show (12271 : Int32) < c from by rw [Int32.lt_iff_toInt_lt, show ((12271 : Int32)).toInt = 12271 from by decide]; omega)]
  show own_f142 c = 0
  rw [own_f142, if_neg (show ¬ (c < (12289 : Int32)) from by rw [Int32.lt_iff_toInt_lt, show ((12289 : Int32)).toInt = 12289 from by decide]; omega)]
  show own_f149 c = 0
  rw [own_f149, if_pos (show (55295 : Int32) < c from by rw [Int32.lt_iff_toInt_lt, show ((55295 : Int32)).toInt = 55295 from by decide]; omega)]
  show own_f155 c = 0
  rw [own_f155, if_neg (show ¬ (c < (63744 : Int32)) from by rw [Int32.lt_iff_toInt_lt, show ((63744 : Int32)).toInt = 63744 from by decide]; omega)]
  show own_f161 c = 0
  rw [own_f161, if_pos (show (64975 : Int32) < c from by rw [Int32.lt_iff_toInt_lt, show ((64975 : Int32)).toInt = 64975 from by decide]; omega)]
  show own_f167 c = 0
  rw [own_f167, if_neg (show ¬ (c < (65008 : Int32)) from by rw [Int32.lt_iff_toInt_lt, show ((65008 : Int32)).toInt = 65008 from by decide]; omega)]
  show own_f173 c = 0
  rw [own_f173, if_pos (show (65533 : Int32) < c from by rw [Int32.lt_iff_toInt_lt, show ((65533 : Int32)).toInt = 65533 from by decide]; omega)]
  show own_f179 c = 0
  rw [own_f179, if_pos (show c < (65536 : Int32) from by rw [Int32.lt_iff_toInt_lt, show ((65536 : Int32)).toInt = 65536 from by decide]; omega)]
theorem own_leaf29 (c : Int32) (h1 : (65536 : Int) ≤ c.toInt) (h2 : c.toInt < (983040 : Int)) : own_f0 c = own_e ((((((((((((((((((((((((((((((own_ge c (65 : Int32)) + (own_ge c (91 : Int32))) + (own_ge c (95 : Int32))) + (own_ge c (96 : Int32))) + (own_ge c (97 : Int32))) + (own_ge c (123 : Int32))) + (own_ge c (192 : Int32))) + (own_ge c (215 : Int32))) + (own_ge c (216 : Int32))) + (own_ge c (247 : Int32))) + (own_ge c (248 : Int32))) + (own_ge c (768 : Int32))) + (own_ge c (880 : Int32))) + (own_ge c (894 : Int32))) + (own_ge c (895 : Int32))) + (own_ge c (8192 : Int32))) + (own_ge c (8204 : Int32))) + (own_ge c (8206 : Int32))) + (own_ge c (8304 : Int32))) + (own_ge c (8592 : Int32))) + (own_ge c (11264 : Int32))) + (own_ge c (12272 : Int32))) + (own_ge c (12289 : Int32))) + (own_ge c (55296 : Int32))) + (own_ge c (63744 : Int32))) + (own_ge c (64976 : Int32))) + (own_ge c (65008 : Int32))) + (own_ge c (65534 : Int32))) + (own_ge c (65536 : Int32))) + (own_ge c (983040 : Int32))) := by
  rw [show own_ge c (65 : Int32) = 1 from own_ge1 (by rw [show ((65 : Int32)).toInt = 65 from by decide]; omega)]
  rw [show own_ge c (91 : Int32) = 1 from own_ge1 (by rw [show ((91 : Int32)).toInt = 91 from by decide]; omega)]
  rw [show own_ge c (95 : Int32) = 1 from own_ge1 (by rw [show ((95 : Int32)).toInt = 95 from by decide]; omega)]
  rw [show own_ge c (96 : Int32) = 1 from own_ge1 (by rw [show ((96 : Int32)).toInt = 96 from by decide]; omega)]
  rw [show own_ge c (97 : Int32) = 1 from own_ge1 (by rw [show ((97 : Int32)).toInt = 97 from by decide]; omega)]
  rw [show own_ge c (123 : Int32) = 1 from own_ge1 (by rw [show ((123 : Int32)).toInt = 123 from by decide]; omega)]
  rw [show own_ge c (192 : Int32) = 1 from own_ge1 (by rw [show ((192 : Int32)).toInt = 192 from by decide]; omega)]
  rw [show own_ge c (215 : Int32) = 1 from own_ge1 (by rw [show ((215 : Int32)).toInt = 215 from by decide]; omega)]
  rw [show own_ge c (216 : Int32) = 1 from own_ge1 (by rw [show ((216 : Int32)).toInt = 216 from by decide]; omega)]
  rw [show own_ge c (247 : Int32) = 1 from own_ge1 (by rw [show ((247 : Int32)).toInt = 247 from by decide]; omega)]
  rw [show own_ge c (248 : Int32) = 1 from own_ge1 (by rw [show ((248 : Int32)).toInt = 248 from by decide]; omega)]
  rw [show own_ge c (768 : Int32) = 1 from own_ge1 (by rw [show ((768 : Int32)).toInt = 768 from by decide]; omega)]
  rw [show own_ge c (880 : Int32) = 1 from own_ge1 (by rw [show ((880 : Int32)).toInt = 880 from by decide]; omega)]
  rw [show own_ge c (894 : Int32) = 1 from own_ge1 (by rw [show ((894 : Int32)).toInt = 894 from by decide]; omega)]
  rw [show own_ge c (895 : Int32) = 1 from own_ge1 (by rw [show ((895 : Int32)).toInt = 895 from by decide]; omega)]
  rw [show own_ge c (8192 : Int32) = 1 from own_ge1 (by rw [show ((8192 : Int32)).toInt = 8192 from by decide]; omega)]
  rw [show own_ge c (8204 : Int32) = 1 from own_ge1 (by rw [show ((8204 : Int32)).toInt = 8204 from by decide]; omega)]
  rw [show own_ge c (8206 : Int32) = 1 from own_ge1 (by rw [show ((8206 : Int32)).toInt = 8206 from by decide]; omega)]
  rw [show own_ge c (8304 : Int32) = 1 from own_ge1 (by rw [show ((8304 : Int32)).toInt = 8304 from by decide]; omega)]
  rw [show own_ge c (8592 : Int32) = 1 from own_ge1 (by rw [show ((8592 : Int32)).toInt = 8592 from by decide]; omega)]
  rw [show own_ge c (11264 : Int32) = 1 from own_ge1 (by rw [show ((11264 : Int32)).toInt = 11264 from by decide]; omega)]
  rw [show own_ge c (12272 : Int32) = 1 from own_ge1 (by rw [show ((12272 : Int32)).toInt = 12272 from by decide]; omega)]
  rw [show own_ge c (12289 : Int32) = 1 from own_ge1 (by rw [show ((12289 : Int32)).toInt = 12289 from by decide]; omega)]
  rw [show own_ge c (55296 : Int32) = 1 from own_ge1 (by rw [show ((55296 : Int32)).toInt = 55296 from by decide]; omega)]
  rw [show own_ge c (63744 : Int32) = 1 from own_ge1 (by rw [show ((63744 : Int32)).toInt = 63744 from by decide]; omega)]
  rw [show own_ge c (64976 : Int32) = 1 from own_ge1 (by rw [show ((64976 : Int32)).toInt = 64976 from by decide]; omega)]
  rw [show own_ge c (65008 : Int32) = 1 from own_ge1 (by rw [show ((65008 : Int32)).toInt = 65008 from by decide]; omega)]
  rw [show own_ge c (65534 : Int32) = 1 from own_ge1 (by rw [show ((65534 : Int32)).toInt = 65534 from by decide]; omega)]
  rw [show own_ge c (65536 : Int32) = 1 from own_ge1 (by rw [show ((65536 : Int32)).toInt = 65536 from by decide]; omega)]
  rw [show own_ge c (983040 : Int32) = 0 from own_ge0 (by rw [show ((983040 : Int32)).toInt = 983040 from by decide]; omega)]
  rw [show own_e _ = 1 from by decide]
  show own_f0 c = 1
  rw [own_f0, if_neg (show ¬ (c < (97 : Int32)) from by rw [Int32.lt_iff_toInt_lt, show ((97 : Int32)).toInt = 97 from by decide]; omega)]
  show own_f6 c = 1
  rw [own_f6, if_pos (show (122 : Int32) < c from by rw [Int32.lt_iff_toInt_lt, show ((122 : Int32)).toInt = 122 from by decide]; omega)]
  show own_f12 c = 1
  rw [own_f12, if_neg (show ¬ (c < (65 : Int32)) from by rw [Int32.lt_iff_toInt_lt, show ((65 : Int32)).toInt = 65 from by decide]; omega)]
  show own_f18 c = 1
  rw [own_f18, if_pos (show (90 : Int32) < c from by rw [Int32.lt_iff_toInt_lt, show ((90 : Int32)).toInt = 90 from by decide]; omega)]
  show own_f24 c = 1
  rw [own_f24, if_neg (show ¬ (c = (95 : Int32)) from by intro q; have q2 := congrArg Int32.toInt q; rw [show ((95 : Int32)).toInt = 95 from by decide] at q2; omega)]
  show own_f30 c = 1
  rw [own_f30, if_neg (show ¬ (c < (192 : Int32)) from by rw [Int32.lt_iff_toInt_lt, show ((192 : Int32)).toInt = 192 from by decide]; omega)]
  show own_f37 c = 1
  rw [own_f37, if_pos (show (214 : Int32) < c from by rw [Int32.lt_iff_toInt_lt, show ((214 : Int32)).toInt = 214 from by decide]; omega)]
  show own_f44 c = 1
  rw [own_f44, if_neg (show ¬ (c < (216 : Int32)) from by rw [Int32.lt_iff_toInt_lt, show ((216 : Int32)).toInt = 216 from by decide]; omega)]
  show own_f51 c = 1
  rw [own_f51, if_pos (show (246 : Int32) < c from by rw [Int32.lt_iff_toInt_lt, show ((246 : Int32)).toInt = 246 from by decide]; omega)]
  show own_f58 c = 1
  rw [own_f58, if_neg (show ¬ (c < (248 : Int32)) from by rw [Int32.lt_iff_toInt_lt, show ((248 : Int32)).toInt = 248 from by decide]; omega)]
  show own_f65 c = 1
  rw [own_f65, if_pos (show (767 : Int32) < c from by rw [Int32.lt_iff_toInt_lt, show ((767 : Int32)).toInt = 767 from by decide]; omega)]
  show own_f72 c = 1
  rw [own_f72, if_neg (show ¬ (c < (880 : Int32)) from by rw [Int32.lt_iff_toInt_lt, show ((880 : Int32)).toInt = 880 from by decide]; omega)]
  show own_f79 c = 1
  rw [own_f79, if_pos (show (893 : Int32) < c from by rw [Int32.lt_iff_toInt_lt, show ((893 : Int32)).toInt = 893 from by decide]; omega)]
  show own_f86 c = 1
  rw [own_f86, if_neg (show ¬ (c < (895 : Int32)) from by rw [Int32.lt_iff_toInt_lt, show ((895 : Int32)).toInt = 895 from by decide]; omega)]
  show own_f93 c = 1
  rw [own_f93, if_pos (show (8191 : Int32) < c from by rw [Int32.lt_iff_toInt_lt, show ((8191 : Int32)).toInt = 8191 from by decide]; omega)]
  show own_f100 c = 1
  rw [own_f100, if_neg (show ¬ (c = (8204 : Int32)) from by intro q; have q2 := congrArg Int32.toInt q; rw [show ((8204 : Int32)).toInt = 8204 from by decide] at q2; omega)]
  show own_f107 c = 1
  rw [own_f107, if_neg (show ¬ (c = (8205 : Int32)) from by intro q; have q2 := congrArg Int32.toInt q; rw [show ((8205 : Int32)).toInt = 8205 from by decide] at q2; omega)]
  show own_f114 c = 1
  rw [own_f114, if_neg (show ¬ (c < (8304 : Int32)) from by rw [Int32.lt_iff_toInt_lt, show ((8304 : Int32)).toInt = 8304 from by decide]; omega)]
  show own_f121 c = 1
  rw [own_f121, if_pos (show (8591 : Int32) < c from by rw [Int32.lt_iff_toInt_lt, show ((8591 : Int32)).toInt = 8591 from by decide]; omega)]
  show own_f128 c = 1
  rw [own_f128, if_neg (show ¬ (c < (11264 : Int32)) from by rw [Int32.lt_iff_toInt_lt, show ((11264 : Int32)).toInt = 11264 from by decide]; omega)]
  show own_f135 c = 1
  rw [own_f135, if_pos (show (12271 : Int32) < c from by rw [Int32.lt_iff_toInt_lt, show ((12271 : Int32)).toInt = 12271 from by decide]; omega)]
  show own_f142 c = 1
  rw [own_f142, if_neg (show ¬ (c < (12289 : Int32)) from by rw [Int32.lt_iff_toInt_lt, show ((12289 : Int32)).toInt = 12289 from by decide]; omega)]
  show own_f149 c = 1
  rw [own_f149, if_pos (show (55295 : Int32) < c from by rw [Int32.lt_iff_toInt_lt, show ((55295 : Int32)).toInt = 55295 from by decide]; omega)]
  show own_f155 c = 1
  rw [own_f155, if_neg (show ¬ (c < (63744 : Int32)) from by rw [Int32.lt_iff_toInt_lt, show ((63744 : Int32)).toInt = 63744 from by decide]; omega)]
  show own_f161 c = 1
  rw [own_f161, if_pos (show (64975 : Int32) < c from by rw [Int32.lt_iff_toInt_lt, show ((64975 : Int32)).toInt = 64975 from by decide]; omega)]
  show own_f167 c = 1
  rw [own_f167, if_neg (show ¬ (c < (65008 : Int32)) from by rw [Int32.lt_iff_toInt_lt, show ((65008 : Int32)).toInt = 65008 from by decide]; omega)]
  show own_f173 c = 1
  rw [own_f173, if_pos (show (65533 : Int32) < c from by rw [Int32.lt_iff_toInt_lt, show ((65533 : Int32)).toInt = 65533 from by decide]; omega)]
  show own_f179 c = 1
  rw [own_f179, if_neg (show ¬ (c < (65536 : Int32)) from by rw [Int32.lt_iff_toInt_lt, show ((65536 : Int32)).toInt = 65536 from by decide]; omega)]
  show own_f185 c = 1
  rw [own_f185, if_neg (show ¬ ((983039 : Int32) < c) from by rw [Int32.lt_iff_toInt_lt, show ((983039 : Int32)).toInt = 983039 from by decide]; omega)]
theorem own_leaf30 (c : Int32) (h1 : (983040 : Int) ≤ c.toInt) : own_f0 c = own_e ((((((((((((((((((((((((((((((own_ge c (65 : Int32)) + (own_ge c (91 : Int32))) + (own_ge c (95 : Int32))) + (own_ge c (96 : Int32))) + (own_ge c (97 : Int32))) + (own_ge c (123 : Int32))) + (own_ge c (192 : Int32))) + (own_ge c (215 : Int32))) + (own_ge c (216 : Int32))) + (own_ge c (247 : Int32))) + (own_ge c (248 : Int32))) + (own_ge c (768 : Int32))) + (own_ge c (880 : Int32))) + (own_ge c (894 : Int32))) + (own_ge c (895 : Int32))) + (own_ge c (8192 : Int32))) + (own_ge c (8204 : Int32))) + (own_ge c (8206 : Int32))) + (own_ge c (8304 : Int32))) + (own_ge c (8592 : Int32))) + (own_ge c (11264 : Int32))) + (own_ge c (12272 : Int32))) + (own_ge c (12289 : Int32))) + (own_ge c (55296 : Int32))) + (own_ge c (63744 : Int32))) + (own_ge c (64976 : Int32))) + (own_ge c (65008 : Int32))) + (own_ge c (65534 : Int32))) + (own_ge c (65536 : Int32))) + (own_ge c (983040 : Int32))) := by
  rw [show own_ge c (65 : Int32) = 1 from own_ge1 (by rw [show ((65 : Int32)).toInt = 65 from by decide]; omega)]
  rw [show own_ge c (91 : Int32) = 1 from own_ge1 (by rw [show ((91 : Int32)).toInt = 91 from by decide]; omega)]
  rw [show own_ge c (95 : Int32) = 1 from own_ge1 (by rw [show ((95 : Int32)).toInt = 95 from by decide]; omega)]
  rw [show own_ge c (96 : Int32) = 1 from own_ge1 (by rw [show ((96 : Int32)).toInt = 96 from by decide]; omega)]
  rw [show own_ge c (97 : Int32) = 1 from own_ge1 (by rw [show ((97 : Int32)).toInt = 97 from by decide]; omega)]
  rw [show own_ge c (123 : Int32) = 1 from own_ge1 (by rw [show ((123 : Int32)).toInt = 123 from by decide]; omega)]
  rw [show own_ge c (192 : Int32) = 1 from own_ge1 (by rw [show ((192 : Int32)).toInt = 192 from by decide]; omega)]
  rw [show own_ge c (215 : Int32) = 1 from own_ge1 (by rw [show ((215 : Int32)).toInt = 215 from by decide]; omega)]
  rw [show own_ge c (216 : Int32) = 1 from own_ge1 (by rw [show ((216 : Int32)).toInt = 216 from by decide]; omega)]
  rw [show own_ge c (247 : Int32) = 1 from own_ge1 (by rw [show ((247 : Int32)).toInt = 247 from by decide]; omega)]
  rw [show own_ge c (248 : Int32) = 1 from own_ge1 (by rw [show ((248 : Int32)).toInt = 248 from by decide]; omega)]
  rw [show own_ge c (768 : Int32) = 1 from own_ge1 (by rw [show ((768 : Int32)).toInt = 768 from by decide]; omega)]
  rw [show own_ge c (880 : Int32) = 1 from own_ge1 (by rw [show ((880 : Int32)).toInt = 880 from by decide]; omega)]
  rw [show own_ge c (894 : Int32) = 1 from own_ge1 (by rw [show ((894 : Int32)).toInt = 894 from by decide]; omega)]
  rw [show own_ge c (895 : Int32) = 1 from own_ge1 (by rw [show ((895 : Int32)).toInt = 895 from by decide]; omega)]
  rw [show own_ge c (8192 : Int32) = 1 from own_ge1 (by rw [show ((8192 : Int32)).toInt = 8192 from by decide]; omega)]
  rw [show own_ge c (8204 : Int32) = 1 from own_ge1 (by rw [show ((8204 : Int32)).toInt = 8204 from by decide]; omega)]
  rw [show own_ge c (8206 : Int32) = 1 from own_ge1 (by rw [show ((8206 : Int32)).toInt = 8206 from by decide]; omega)]
  rw [show own_ge c (8304 : Int32) = 1 from own_ge1 (by rw [show ((8304 : Int32)).toInt = 8304 from by decide]; omega)]
  rw [show own_ge c (8592 : Int32) = 1 from own_ge1 (by rw [show ((8592 : Int32)).toInt = 8592 from by decide]; omega)]
  rw [show own_ge c (11264 : Int32) = 1 from own_ge1 (by rw [show ((11264 : Int32)).toInt = 11264 from by decide]; omega)]
  rw [show own_ge c (12272 : Int32) = 1 from own_ge1 (by rw [show ((12272 : Int32)).toInt = 12272 from by decide]; omega)]
  rw [show own_ge c (12289 : Int32) = 1 from own_ge1 (by rw [show ((12289 : Int32)).toInt = 12289 from by decide]; omega)]
  rw [show own_ge c (55296 : Int32) = 1 from own_ge1 (by rw [show ((55296 : Int32)).toInt = 55296 from by decide]; omega)]
  rw [show own_ge c (63744 : Int32) = 1 from own_ge1 (by rw [show ((63744 : Int32)).toInt = 63744 from by decide]; omega)]
  rw [show own_ge c (64976 : Int32) = 1 from own_ge1 (by rw [show ((64976 : Int32)).toInt = 64976 from by decide]; omega)]
  rw [show own_ge c (65008 : Int32) = 1 from own_ge1 (by rw [show ((65008 : Int32)).toInt = 65008 from by decide]; omega)]
  rw [show own_ge c (65534 : Int32) = 1 from own_ge1 (by rw [show ((65534 : Int32)).toInt = 65534 from by decide]; omega)]
  rw [show own_ge c (65536 : Int32) = 1 from own_ge1 (by rw [show ((65536 : Int32)).toInt = 65536 from by decide]; omega)]
  rw [show own_ge c (983040 : Int32) = 1 from own_ge1 (by rw [show ((983040 : Int32)).toInt = 983040 from by decide]; omega)]
  rw [show own_e _ = 0 from by decide]
  show own_f0 c = 0
  rw [own_f0, if_neg (show ¬ (c < (97 : Int32)) from by rw [Int32.lt_iff_toInt_lt, show ((97 : Int32)).toInt = 97 from by decide]; omega)]
  show own_f6 c = 0
  rw [own_f6, if_pos (show (122 : Int32) < c from by rw [Int32.lt_iff_toInt_lt, show ((122 : Int32)).toInt = 122 from by decide]; omega)]
  show own_f12 c = 0
  rw [own_f12, if_neg (show ¬ (c < (65 : Int32)) from by rw [Int32.lt_iff_toInt_lt, show ((65 : Int32)).toInt = 65 from by decide]; omega)]
  show own_f18 c = 0
  rw [own_f18, if_pos (show (90 : Int32) < c from by rw [Int32.lt_iff_toInt_lt, show ((90 : Int32)).toInt = 90 from by decide]; omega)]
  show own_f24 c = 0
  rw [own_f24, if_neg (show ¬ (c = (95 : Int32)) from by intro q; have q2 := congrArg Int32.toInt q; rw [show ((95 : Int32)).toInt = 95 from by decide] at q2; omega)]
  show own_f30 c = 0
  rw [own_f30, if_neg (show ¬ (c < (192 : Int32)) from by rw [Int32.lt_iff_toInt_lt, show ((192 : Int32)).toInt = 192 from by decide]; omega)]
  show own_f37 c = 0
  rw [own_f37, if_pos (show (214 : Int32) < c from by rw [Int32.lt_iff_toInt_lt, show ((214 : Int32)).toInt = 214 from by decide]; omega)]
  show own_f44 c = 0
  rw [own_f44, if_neg (show ¬ (c < (216 : Int32)) from by rw [Int32.lt_iff_toInt_lt, show ((216 : Int32)).toInt = 216 from by decide]; omega)]
  show own_f51 c = 0
  rw [own_f51, if_pos (show (246 : Int32) < c from by rw [Int32.lt_iff_toInt_lt, show ((246 : Int32)).toInt = 246 from by decide]; omega)]
  show own_f58 c = 0
  rw [own_f58, if_neg (show ¬ (c < (248 : Int32)) from by rw [Int32.lt_iff_toInt_lt, show ((248 : Int32)).toInt = 248 from by decide]; omega)]
  show own_f65 c = 0
  rw [own_f65, if_pos (show (767 : Int32) < c from by rw [Int32.lt_iff_toInt_lt, show ((767 : Int32)).toInt = 767 from by decide]; omega)]
  show own_f72 c = 0
  rw [own_f72, if_neg (show ¬ (c < (880 : Int32)) from by rw [Int32.lt_iff_toInt_lt, show ((880 : Int32)).toInt = 880 from by decide]; omega)]
  show own_f79 c = 0
  rw [own_f79, if_pos (show (893 : Int32) < c from by rw [Int32.lt_iff_toInt_lt, show ((893 : Int32)).toInt = 893 from by decide]; omega)]
  show own_f86 c = 0
  rw [own_f86, if_neg (show ¬ (c < (895 : Int32)) from by rw [Int32.lt_iff_toInt_lt, show ((895 : Int32)).toInt = 895 from by decide]; omega)]
  show own_f93 c = 0
  rw [own_f93, if_pos (show (8191 : Int32) < c from by rw [Int32.lt_iff_toInt_lt, show ((8191 : Int32)).toInt = 8191 from by decide]; omega)]
  show own_f100 c = 0
  rw [own_f100, if_neg (show ¬ (c = (8204 : Int32)) from by intro q; have q2 := congrArg Int32.toInt q; rw [show ((8204 : Int32)).toInt = 8204 from by decide] at q2; omega)]
  show own_f107 c = 0
  rw [own_f107, if_neg (show ¬ (c = (8205 : Int32)) from by intro q; have q2 := congrArg Int32.toInt q; rw [show ((8205 : Int32)).toInt = 8205 from by decide] at q2; omega)]
  show own_f114 c = 0
  rw [own_f114, if_neg (show ¬ (c < (8304 : Int32)) from by rw [Int32.lt_iff_toInt_lt, show ((8304 : Int32)).toInt = 8304 from by decide]; omega)]
  show own_f121 c = 0
  rw [own_f121, if_pos (show (8591 : Int32) < c from by rw [Int32.lt_iff_toInt_lt, show ((8591 : Int32)).toInt = 8591 from by decide]; omega)]
  show own_f128 c = 0
  rw [own_f128, if_neg (show ¬ (c < (11264 : Int32)) from by rw [Int32.lt_iff_toInt_lt, show ((11264 : Int32)).toInt = 11264 from by decide]; omega)]
  show own_f135 c = 0
  rw [own_f135, if_pos (show (12271 : Int32) < c from by rw [Int32.lt_iff_toInt_lt, show ((12271 : Int32)).toInt = 12271 from by decide]; omega)]
  show own_f142 c = 0
  rw [own_f142, if_neg (show ¬ (c < (12289 : Int32)) from by rw [Int32.lt_iff_toInt_lt, show ((12289 : Int32)).toInt = 12289 from by decide]; omega)]
  show own_f149 c = 0
  rw [own_f149, if_pos (show (55295 : Int32) < c from by rw [Int32.lt_iff_toInt_lt, show ((55295 : Int32)).toInt = 55295 from by decide]; omega)]
  show own_f155 c = 0
  rw [own_f155, if_neg (show ¬ (c < (63744 : Int32)) from by rw [Int32.lt_iff_toInt_lt, show ((63744 : Int32)).toInt = 63744 from by decide]; omega)]
  show own_f161 c = 0
  rw [own_f161, if_pos (show (64975 : Int32) < c from by rw [Int32.lt_iff_toInt_lt, show ((64975 : Int32)).toInt = 64975 from by decide]; omega)]
  show own_f167 c = 0
  rw [own_f167, if_neg (show ¬ (c < (65008 : Int32)) from by rw [Int32.lt_iff_toInt_lt, show ((65008 : Int32)).toInt = 65008 from by decide]; omega)]
  show own_f173 c = 0
  rw [own_f173, if_pos (show (65533 : Int32) < c from by rw [Int32.lt_iff_toInt_lt, show ((65533 : Int32)).toInt = 65533 from by decide]; omega)]
  show own_f179 c = 0
  rw [own_f179, if_neg (show ¬ (c < (65536 : Int32)) from by rw [Int32.lt_iff_toInt_lt, show ((65536 : Int32)).toInt = 65536 from by decide]; omega)]
  show own_f185 c = 0
  rw [own_f185, if_pos (show (983039 : Int32) < c from by rw [Int32.lt_iff_toInt_lt, show ((983039 : Int32)).toInt = 983039 from by decide]; omega)]
theorem own_all (c : Int32) : own_f0 c = own_e ((((((((((((((((((((((((((((((own_ge c (65 : Int32)) + (own_ge c (91 : Int32))) + (own_ge c (95 : Int32))) + (own_ge c (96 : Int32))) + (own_ge c (97 : Int32))) + (own_ge c (123 : Int32))) + (own_ge c (192 : Int32))) + (own_ge c (215 : Int32))) + (own_ge c (216 : Int32))) + (own_ge c (247 : Int32))) + (own_ge c (248 : Int32))) + (own_ge c (768 : Int32))) + (own_ge c (880 : Int32))) + (own_ge c (894 : Int32))) + (own_ge c (895 : Int32))) + (own_ge c (8192 : Int32))) + (own_ge c (8204 : Int32))) + (own_ge c (8206 : Int32))) + (own_ge c (8304 : Int32))) + (own_ge c (8592 : Int32))) + (own_ge c (11264 : Int32))) + (own_ge c (12272 : Int32))) + (own_ge c (12289 : Int32))) + (own_ge c (55296 : Int32))) + (own_ge c (63744 : Int32))) + (own_ge c (64976 : Int32))) + (own_ge c (65008 : Int32))) + (own_ge c (65534 : Int32))) + (own_ge c (65536 : Int32))) + (own_ge c (983040 : Int32))) := by
  by_cases q0 : c.toInt < (65 : Int)
  · exact own_leaf0 c q0
  by_cases q1 : c.toInt < (91 : Int)
  · exact own_leaf1 c (Int.not_lt.mp q0) q1
  by_cases q2 : c.toInt < (95 : Int)
  · exact own_leaf2 c (Int.not_lt.mp q1) q2
  by_cases q3 : c.toInt < (96 : Int)
  · exact own_leaf3 c (Int.not_lt.mp q2) q3
  by_cases q4 : c.toInt < (97 : Int)
  · exact own_leaf4 c (Int.not_lt.mp q3) q4
  by_cases q5 : c.toInt < (123 : Int)
  · exact own_leaf5 c (Int.not_lt.mp q4) q5
  by_cases q6 : c.toInt < (192 : Int)
  · exact own_leaf6 c (Int.not_lt.mp q5) q6
  by_cases q7 : c.toInt < (215 : Int)
  · exact own_leaf7 c (Int.not_lt.mp q6) q7
  by_cases q8 : c.toInt < (216 : Int)
  · exact own_leaf8 c (Int.not_lt.mp q7) q8
  by_cases q9 : c.toInt < (247 : Int)
  · exact own_leaf9 c (Int.not_lt.mp q8) q9
  by_cases q10 : c.toInt < (248 : Int)
  · exact own_leaf10 c (Int.not_lt.mp q9) q10
  by_cases q11 : c.toInt < (768 : Int)
  · exact own_leaf11 c (Int.not_lt.mp q10) q11
  by_cases q12 : c.toInt < (880 : Int)
  · exact own_leaf12 c (Int.not_lt.mp q11) q12
  by_cases q13 : c.toInt < (894 : Int)
  · exact own_leaf13 c (Int.not_lt.mp q12) q13
  by_cases q14 : c.toInt < (895 : Int)
  · exact own_leaf14 c (Int.not_lt.mp q13) q14
  by_cases q15 : c.toInt < (8192 : Int)
  · exact own_leaf15 c (Int.not_lt.mp q14) q15
  by_cases q16 : c.toInt < (8204 : Int)
  · exact own_leaf16 c (Int.not_lt.mp q15) q16
  by_cases q17 : c.toInt < (8206 : Int)
  · exact own_leaf17 c (Int.not_lt.mp q16) q17
  by_cases q18 : c.toInt < (8304 : Int)
  · exact own_leaf18 c (Int.not_lt.mp q17) q18
  by_cases q19 : c.toInt < (8592 : Int)
  · exact own_leaf19 c (Int.not_lt.mp q18) q19
  by_cases q20 : c.toInt < (11264 : Int)
  · exact own_leaf20 c (Int.not_lt.mp q19) q20
  by_cases q21 : c.toInt < (12272 : Int)
  · exact own_leaf21 c (Int.not_lt.mp q20) q21
  by_cases q22 : c.toInt < (12289 : Int)
  · exact own_leaf22 c (Int.not_lt.mp q21) q22
  by_cases q23 : c.toInt < (55296 : Int)
  · exact own_leaf23 c (Int.not_lt.mp q22) q23
  by_cases q24 : c.toInt < (63744 : Int)
  · exact own_leaf24 c (Int.not_lt.mp q23) q24
  by_cases q25 : c.toInt < (64976 : Int)
  · exact own_leaf25 c (Int.not_lt.mp q24) q25
  by_cases q26 : c.toInt < (65008 : Int)
  · exact own_leaf26 c (Int.not_lt.mp q25) q26
  by_cases q27 : c.toInt < (65534 : Int)
  · exact own_leaf27 c (Int.not_lt.mp q26) q27
  by_cases q28 : c.toInt < (65536 : Int)
  · exact own_leaf28 c (Int.not_lt.mp q27) q28
  by_cases q29 : c.toInt < (983040 : Int)
  · exact own_leaf29 c (Int.not_lt.mp q28) q29
  exact own_leaf30 c (Int.not_lt.mp q29)
def own_L : List Int32 := [65, 91, 95, 96, 97, 123, 192, 215, 216, 247, 248, 768, 880, 894, 895, 8192, 8204, 8206, 8304, 8592, 11264, 12272, 12289, 55296, 63744, 64976, 65008, 65534, 65536, 983040]
def own_pv (k : Nat) : Int32 := own_L.getD k 0
def own_c (p1 p2 p3 p4 : Int32) : Int32 := if (p4 &&& (3 : Int32)) = (0 : Int32) then p1 else if (p4 &&& (3 : Int32)) = (1 : Int32) then (p1 &&& (1048575 : Int32)) else (own_pv (own_rem (p2 &&& (2147483647 : Int32)) (30 : Int32)).toNatClampNeg + (own_rem p3 (3 : Int32)))
theorem own_idx (p : Int32) : ¬ (own_rem (p &&& (2147483647 : Int32)) (30 : Int32)) < 0 ∧ (own_rem (p &&& (2147483647 : Int32)) (30 : Int32)) < 30 := by
  have h := own_and_rng p 31 (by decide) (2147483647 : Int32) (by decide)
  have e := own_rem_toInt (p &&& (2147483647 : Int32)) (30 : Int32) h.1 (by decide)
  rw [Int32.lt_iff_toInt_lt, Int32.lt_iff_toInt_lt, e]
  have e5 : (30 : Int32).toInt = 30 := by decide
  have e0 : (0 : Int32).toInt = 0 := by decide
  rw [e5, e0]
  omega
theorem own_vs (k : Nat) : (own_L.map Value.int).getD k (.int 0) = .int (own_pv k) := by
  unfold own_pv
  rw [List.getD_eq_getElem?_getD, List.getD_eq_getElem?_getD, List.getElem?_map]
  cases own_L[k]? <;> rfl
theorem pn_0 : plainName "com/example/coarsen/coarsen/xml/XmlNamesIsNameStartCharPinLaw" = true := by first | (simp [plainName, overriddenIn]; done) | decide +kernel
theorem pd_0_0 : parseMethodDescriptor "(II)I" = some ⟨[.int, .int], some .int⟩ := by decide +kernel
theorem pd_0_1 : parseMethodDescriptor "(I)Z" = some ⟨[.int], some .boolean⟩ := by decide +kernel
theorem ef_0 (m : MethodId) (x0 : Int32) (x1 : Int32) (x2 : Int32) (x3 : Int32) : entryFrame m #[(.int x0), (.int x1), (.int x2), (.int x3)] maxLocals = mkF m 0 #[.val (.int x0), .val (.int x1), .val (.int x2), .val (.int x3), .unset, .unset, .unset, .unset, .unset] [] := by first | (simp [entryFrame, mkF, argsToLocals, Value.category, maxLocals]; done) | rfl
def Q0 (Z : State) (p1 : Int32) (p2 : Int32) (p3 : Int32) (p4 : Int32) (h0 : Heap) (n0 : Nat) (v : Option Value) (h : Heap) (L : List Loc) : Prop := v = some (.int (1 : Int32)) ∧ Fr n0 L
set_option maxRecDepth 65536 in
set_option maxHeartbeats 40000000 in
theorem rm0 (l : Launch) (Z : State) (a0 : Array Value) (hw : ∀ d ∈ tables_1, d.before a0 Z = true) (ws : List Jvm.Cond) (p1 : Int32) (p2 : Int32) (p3 : Int32) (p4 : Int32) (h0 : Heap) (n0 : Nat) (Z0 : n0 ≤ h0.size) :
    MetFree l x (head1 (Jvm.Cond.code x code maxLocals ret :: ws) room_1) (fun a U => a = #[(.int p1), (.int p2), (.int p3), (.int p4)] ∧ Z.Warmed39 U.vm ∧ U.heap = h0) (fun _ _ _ _ _ => True) (fun _ U o U' => ∃ v L, o = .returned v ∧ Q0 Z p1 p2 p3 p4 h0 n0 v U'.heap L ∧ FrameEnd U o U' L room_1.cells room_1.slots) := by
  refine MetFree.of_bodySF (plainFor_of_name pn_0) hisR ?_
  intro p e s m args below meth c s₁ Bd hml0 hP hK
  obtain ⟨rfl, hZ, hh⟩ := hP
  have hx := Bd.exec
  have hby := Bd.bytes
  have hml : c.maxLocals = 9 := hml0
  have hown : s.vm.findClass "com/example/coarsen/coarsen/xml/XmlNamesIsNameStartCharPinLaw" = some m.cls := findClass_of_methodNamed Bd.named
  have hnm := (name_of_methodNamed Bd.named Bd.method).1
  have X0 : Stand p l e room_1 s m #[(.int p1), (.int p2), (.int p3), (.int p4)] below meth c s₁ [] 0 0 := Stand.of_body Bd
  have e0 : s₁.heap = h0 := by rw [← hh, Bd.state]; rfl
  have N0 := Fr.nil n0
  have pre0 : ∀ t, Steps p.tables e below (s₁.setTop (mkF m 0 #[.val (.int p1), .val (.int p2), .val (.int p3), .val (.int p4), .unset, .unset, .unset, .unset, .unset] [])) t → Steps p.tables e below (s₁.setTop (entryFrame m #[(.int p1), (.int p2), (.int p3), (.int p4)] maxLocals)) t := fun t k => castTop (ef_0 m p1 p2 p3 p4) k
  obtain ⟨T5, h5, k5, X5, e5, E5, A5, st5⟩ := newP X0 hx hZ (hw _ (List.mem_of_getElem? (i := 0) rfl)) e0 (g := (mkF m 2 #[.val (.int p1), .val (.int p2), .val (.int p3), .val (.int p4), .unset, .unset, .unset, .unset, .unset] [(.int (30 : Int32))])) rfl (hb hby at_2) rfl (by decide) (cap := 30) (by decide) (by decide) (by decide) (by decide)
  obtain ⟨b5, g5⟩ : ∃ z, z = h0.size := ⟨_, rfl⟩
  rw [← g5] at A5 st5
  have V_b5 : Arv Z h5 b5 k5 .int (30 : Int32) [(.int (0 : Int32)), (.int (0 : Int32)), (.int (0 : Int32)), (.int (0 : Int32)), (.int (0 : Int32)), (.int (0 : Int32)), (.int (0 : Int32)), (.int (0 : Int32)), (.int (0 : Int32)), (.int (0 : Int32)), (.int (0 : Int32)), (.int (0 : Int32)), (.int (0 : Int32)), (.int (0 : Int32)), (.int (0 : Int32)), (.int (0 : Int32)), (.int (0 : Int32)), (.int (0 : Int32)), (.int (0 : Int32)), (.int (0 : Int32)), (.int (0 : Int32)), (.int (0 : Int32)), (.int (0 : Int32)), (.int (0 : Int32)), (.int (0 : Int32)), (.int (0 : Int32)), (.int (0 : Int32)), (.int (0 : Int32)), (.int (0 : Int32)), (.int (0 : Int32))] (.int (0 : Int32)) := (Arv.new A5 (by decide)).pad (pad_rep [] (.int (0 : Int32)) 30)
  have g_b5 : n0 ≤ b5 := Nat.le_trans Z0 (Nat.le_of_eq g5.symm)
  have sz_b5 : h0.size ≤ b5 := (Nat.le_trans (Keep.refl h0 []).1 (Nat.le_of_eq g5.symm))
  have K5 : Keep h0 h5 [] := (Keep.refl h0 []).ext E5
  obtain ⟨cl_b5_8, Ar_b5, q_b5, S_b5, N_b5, H_b5, G_b5⟩ := V_b5
  have hin8 : ¬ ((0 : Int32) < 0 ∨ cl_b5_8.slots.size ≤ ((0 : Int32)).toNatClampNeg) := inb_of S_b5 ⟨by decide, by decide⟩
  obtain ⟨T6, h6, X6, e6, W6, st6⟩ := stI X5 hx hZ e5 Ar_b5 (j := (0 : Int32)) hin8 (g := (mkF m 8 #[.val (.int p1), .val (.int p2), .val (.int p3), .val (.int p4), .unset, .unset, .unset, .unset, .unset] [(.int (65 : Int32)), (.int (0 : Int32)), (.ref b5), (.ref b5)])) rfl rfl (hb hby at_8)
  have V_b5_6 := Arv.set Ar_b5 q_b5 S_b5 N_b5 H_b5 G_b5 rfl W6 0 rfl (Nat.le_of_ble_eq_true rfl)
  have K6 : Keep h0 h6 [] := K5.wr W6 (Or.inr sz_b5)
  have N6 := Fr.snoc X6 N0 g_b5
  obtain ⟨cl_b5_13, Ar_b5, q_b5, S_b5, N_b5, H_b5, G_b5⟩ := V_b5_6
  have hin13 : ¬ ((1 : Int32) < 0 ∨ cl_b5_13.slots.size ≤ ((1 : Int32)).toNatClampNeg) := inb_of S_b5 ⟨by decide, by decide⟩
  obtain ⟨T7, h7, X7, e7, W7, st7⟩ := stI X6 hx hZ e6 Ar_b5 (j := (1 : Int32)) hin13 (g := (mkF m 13 #[.val (.int p1), .val (.int p2), .val (.int p3), .val (.int p4), .unset, .unset, .unset, .unset, .unset] [(.int (91 : Int32)), (.int (1 : Int32)), (.ref b5), (.ref b5)])) rfl rfl (hb hby at_13)
  have V_b5_7 := Arv.set Ar_b5 q_b5 S_b5 N_b5 H_b5 G_b5 rfl W7 1 rfl (Nat.le_of_ble_eq_true rfl)
  have K7 : Keep h0 h7 [] := K6.wr W7 (Or.inr sz_b5)
  have N7 := Fr.snoc X7 N6 g_b5
  obtain ⟨cl_b5_18, Ar_b5, q_b5, S_b5, N_b5, H_b5, G_b5⟩ := V_b5_7
  have hin18 : ¬ ((2 : Int32) < 0 ∨ cl_b5_18.slots.size ≤ ((2 : Int32)).toNatClampNeg) := inb_of S_b5 ⟨by decide, by decide⟩
  obtain ⟨T8, h8, X8, e8, W8, st8⟩ := stI X7 hx hZ e7 Ar_b5 (j := (2 : Int32)) hin18 (g := (mkF m 18 #[.val (.int p1), .val (.int p2), .val (.int p3), .val (.int p4), .unset, .unset, .unset, .unset, .unset] [(.int (95 : Int32)), (.int (2 : Int32)), (.ref b5), (.ref b5)])) rfl rfl (hb hby at_18)
  have V_b5_8 := Arv.set Ar_b5 q_b5 S_b5 N_b5 H_b5 G_b5 rfl W8 2 rfl (Nat.le_of_ble_eq_true rfl)
  have K8 : Keep h0 h8 [] := K7.wr W8 (Or.inr sz_b5)
  have N8 := Fr.snoc X8 N7 g_b5
  obtain ⟨cl_b5_23, Ar_b5, q_b5, S_b5, N_b5, H_b5, G_b5⟩ := V_b5_8
  have hin23 : ¬ ((3 : Int32) < 0 ∨ cl_b5_23.slots.size ≤ ((3 : Int32)).toNatClampNeg) := inb_of S_b5 ⟨by decide, by decide⟩
  obtain ⟨T9, h9, X9, e9, W9, st9⟩ := stI X8 hx hZ e8 Ar_b5 (j := (3 : Int32)) hin23 (g := (mkF m 23 #[.val (.int p1), .val (.int p2), .val (.int p3), .val (.int p4), .unset, .unset, .unset, .unset, .unset] [(.int (96 : Int32)), (.int (3 : Int32)), (.ref b5), (.ref b5)])) rfl rfl (hb hby at_23)
  have V_b5_9 := Arv.set Ar_b5 q_b5 S_b5 N_b5 H_b5 G_b5 rfl W9 3 rfl (Nat.le_of_ble_eq_true rfl)
  have K9 : Keep h0 h9 [] := K8.wr W9 (Or.inr sz_b5)
  have N9 := Fr.snoc X9 N8 g_b5
  obtain ⟨cl_b5_28, Ar_b5, q_b5, S_b5, N_b5, H_b5, G_b5⟩ := V_b5_9
  have hin28 : ¬ ((4 : Int32) < 0 ∨ cl_b5_28.slots.size ≤ ((4 : Int32)).toNatClampNeg) := inb_of S_b5 ⟨by decide, by decide⟩
  obtain ⟨T10, h10, X10, e10, W10, st10⟩ := stI X9 hx hZ e9 Ar_b5 (j := (4 : Int32)) hin28 (g := (mkF m 28 #[.val (.int p1), .val (.int p2), .val (.int p3), .val (.int p4), .unset, .unset, .unset, .unset, .unset] [(.int (97 : Int32)), (.int (4 : Int32)), (.ref b5), (.ref b5)])) rfl rfl (hb hby at_28)
  have V_b5_10 := Arv.set Ar_b5 q_b5 S_b5 N_b5 H_b5 G_b5 rfl W10 4 rfl (Nat.le_of_ble_eq_true rfl)
  have K10 : Keep h0 h10 [] := K9.wr W10 (Or.inr sz_b5)
  have N10 := Fr.snoc X10 N9 g_b5
  obtain ⟨cl_b5_33, Ar_b5, q_b5, S_b5, N_b5, H_b5, G_b5⟩ := V_b5_10
  have hin33 : ¬ ((5 : Int32) < 0 ∨ cl_b5_33.slots.size ≤ ((5 : Int32)).toNatClampNeg) := inb_of S_b5 ⟨by decide, by decide⟩
  obtain ⟨T11, h11, X11, e11, W11, st11⟩ := stI X10 hx hZ e10 Ar_b5 (j := (5 : Int32)) hin33 (g := (mkF m 33 #[.val (.int p1), .val (.int p2), .val (.int p3), .val (.int p4), .unset, .unset, .unset, .unset, .unset] [(.int (123 : Int32)), (.int (5 : Int32)), (.ref b5), (.ref b5)])) rfl rfl (hb hby at_33)
  have V_b5_11 := Arv.set Ar_b5 q_b5 S_b5 N_b5 H_b5 G_b5 rfl W11 5 rfl (Nat.le_of_ble_eq_true rfl)
  have K11 : Keep h0 h11 [] := K10.wr W11 (Or.inr sz_b5)
  have N11 := Fr.snoc X11 N10 g_b5
  obtain ⟨cl_b5_40, Ar_b5, q_b5, S_b5, N_b5, H_b5, G_b5⟩ := V_b5_11
  have hin40 : ¬ ((6 : Int32) < 0 ∨ cl_b5_40.slots.size ≤ ((6 : Int32)).toNatClampNeg) := inb_of S_b5 ⟨by decide, by decide⟩
  obtain ⟨T12, h12, X12, e12, W12, st12⟩ := stI X11 hx hZ e11 Ar_b5 (j := (6 : Int32)) hin40 (g := (mkF m 40 #[.val (.int p1), .val (.int p2), .val (.int p3), .val (.int p4), .unset, .unset, .unset, .unset, .unset] [(.int (192 : Int32)), (.int (6 : Int32)), (.ref b5), (.ref b5)])) rfl rfl (hb hby at_40)
  have V_b5_12 := Arv.set Ar_b5 q_b5 S_b5 N_b5 H_b5 G_b5 rfl W12 6 rfl (Nat.le_of_ble_eq_true rfl)
  have K12 : Keep h0 h12 [] := K11.wr W12 (Or.inr sz_b5)
  have N12 := Fr.snoc X12 N11 g_b5
  obtain ⟨cl_b5_47, Ar_b5, q_b5, S_b5, N_b5, H_b5, G_b5⟩ := V_b5_12
  have hin47 : ¬ ((7 : Int32) < 0 ∨ cl_b5_47.slots.size ≤ ((7 : Int32)).toNatClampNeg) := inb_of S_b5 ⟨by decide, by decide⟩
  obtain ⟨T13, h13, X13, e13, W13, st13⟩ := stI X12 hx hZ e12 Ar_b5 (j := (7 : Int32)) hin47 (g := (mkF m 47 #[.val (.int p1), .val (.int p2), .val (.int p3), .val (.int p4), .unset, .unset, .unset, .unset, .unset] [(.int (215 : Int32)), (.int (7 : Int32)), (.ref b5), (.ref b5)])) rfl rfl (hb hby at_47)
  have V_b5_13 := Arv.set Ar_b5 q_b5 S_b5 N_b5 H_b5 G_b5 rfl W13 7 rfl (Nat.le_of_ble_eq_true rfl)
  have K13 : Keep h0 h13 [] := K12.wr W13 (Or.inr sz_b5)
  have N13 := Fr.snoc X13 N12 g_b5
  obtain ⟨cl_b5_54, Ar_b5, q_b5, S_b5, N_b5, H_b5, G_b5⟩ := V_b5_13
  have hin54 : ¬ ((8 : Int32) < 0 ∨ cl_b5_54.slots.size ≤ ((8 : Int32)).toNatClampNeg) := inb_of S_b5 ⟨by decide, by decide⟩
  obtain ⟨T14, h14, X14, e14, W14, st14⟩ := stI X13 hx hZ e13 Ar_b5 (j := (8 : Int32)) hin54 (g := (mkF m 54 #[.val (.int p1), .val (.int p2), .val (.int p3), .val (.int p4), .unset, .unset, .unset, .unset, .unset] [(.int (216 : Int32)), (.int (8 : Int32)), (.ref b5), (.ref b5)])) rfl rfl (hb hby at_54)
  have V_b5_14 := Arv.set Ar_b5 q_b5 S_b5 N_b5 H_b5 G_b5 rfl W14 8 rfl (Nat.le_of_ble_eq_true rfl)
  have K14 : Keep h0 h14 [] := K13.wr W14 (Or.inr sz_b5)
  have N14 := Fr.snoc X14 N13 g_b5
  obtain ⟨cl_b5_61, Ar_b5, q_b5, S_b5, N_b5, H_b5, G_b5⟩ := V_b5_14
  have hin61 : ¬ ((9 : Int32) < 0 ∨ cl_b5_61.slots.size ≤ ((9 : Int32)).toNatClampNeg) := inb_of S_b5 ⟨by decide, by decide⟩
  obtain ⟨T15, h15, X15, e15, W15, st15⟩ := stI X14 hx hZ e14 Ar_b5 (j := (9 : Int32)) hin61 (g := (mkF m 61 #[.val (.int p1), .val (.int p2), .val (.int p3), .val (.int p4), .unset, .unset, .unset, .unset, .unset] [(.int (247 : Int32)), (.int (9 : Int32)), (.ref b5), (.ref b5)])) rfl rfl (hb hby at_61)
  have V_b5_15 := Arv.set Ar_b5 q_b5 S_b5 N_b5 H_b5 G_b5 rfl W15 9 rfl (Nat.le_of_ble_eq_true rfl)
  have K15 : Keep h0 h15 [] := K14.wr W15 (Or.inr sz_b5)
  have N15 := Fr.snoc X15 N14 g_b5
  obtain ⟨cl_b5_68, Ar_b5, q_b5, S_b5, N_b5, H_b5, G_b5⟩ := V_b5_15
  have hin68 : ¬ ((10 : Int32) < 0 ∨ cl_b5_68.slots.size ≤ ((10 : Int32)).toNatClampNeg) := inb_of S_b5 ⟨by decide, by decide⟩
  obtain ⟨T16, h16, X16, e16, W16, st16⟩ := stI X15 hx hZ e15 Ar_b5 (j := (10 : Int32)) hin68 (g := (mkF m 68 #[.val (.int p1), .val (.int p2), .val (.int p3), .val (.int p4), .unset, .unset, .unset, .unset, .unset] [(.int (248 : Int32)), (.int (10 : Int32)), (.ref b5), (.ref b5)])) rfl rfl (hb hby at_68)
  have V_b5_16 := Arv.set Ar_b5 q_b5 S_b5 N_b5 H_b5 G_b5 rfl W16 10 rfl (Nat.le_of_ble_eq_true rfl)
  have K16 : Keep h0 h16 [] := K15.wr W16 (Or.inr sz_b5)
  have N16 := Fr.snoc X16 N15 g_b5
  obtain ⟨cl_b5_75, Ar_b5, q_b5, S_b5, N_b5, H_b5, G_b5⟩ := V_b5_16
  have hin75 : ¬ ((11 : Int32) < 0 ∨ cl_b5_75.slots.size ≤ ((11 : Int32)).toNatClampNeg) := inb_of S_b5 ⟨by decide, by decide⟩
  obtain ⟨T17, h17, X17, e17, W17, st17⟩ := stI X16 hx hZ e16 Ar_b5 (j := (11 : Int32)) hin75 (g := (mkF m 75 #[.val (.int p1), .val (.int p2), .val (.int p3), .val (.int p4), .unset, .unset, .unset, .unset, .unset] [(.int (768 : Int32)), (.int (11 : Int32)), (.ref b5), (.ref b5)])) rfl rfl (hb hby at_75)
  have V_b5_17 := Arv.set Ar_b5 q_b5 S_b5 N_b5 H_b5 G_b5 rfl W17 11 rfl (Nat.le_of_ble_eq_true rfl)
  have K17 : Keep h0 h17 [] := K16.wr W17 (Or.inr sz_b5)
  have N17 := Fr.snoc X17 N16 g_b5
  obtain ⟨cl_b5_82, Ar_b5, q_b5, S_b5, N_b5, H_b5, G_b5⟩ := V_b5_17
  have hin82 : ¬ ((12 : Int32) < 0 ∨ cl_b5_82.slots.size ≤ ((12 : Int32)).toNatClampNeg) := inb_of S_b5 ⟨by decide, by decide⟩
  obtain ⟨T18, h18, X18, e18, W18, st18⟩ := stI X17 hx hZ e17 Ar_b5 (j := (12 : Int32)) hin82 (g := (mkF m 82 #[.val (.int p1), .val (.int p2), .val (.int p3), .val (.int p4), .unset, .unset, .unset, .unset, .unset] [(.int (880 : Int32)), (.int (12 : Int32)), (.ref b5), (.ref b5)])) rfl rfl (hb hby at_82)
  have V_b5_18 := Arv.set Ar_b5 q_b5 S_b5 N_b5 H_b5 G_b5 rfl W18 12 rfl (Nat.le_of_ble_eq_true rfl)
  have K18 : Keep h0 h18 [] := K17.wr W18 (Or.inr sz_b5)
  have N18 := Fr.snoc X18 N17 g_b5
  obtain ⟨cl_b5_89, Ar_b5, q_b5, S_b5, N_b5, H_b5, G_b5⟩ := V_b5_18
  have hin89 : ¬ ((13 : Int32) < 0 ∨ cl_b5_89.slots.size ≤ ((13 : Int32)).toNatClampNeg) := inb_of S_b5 ⟨by decide, by decide⟩
  obtain ⟨T19, h19, X19, e19, W19, st19⟩ := stI X18 hx hZ e18 Ar_b5 (j := (13 : Int32)) hin89 (g := (mkF m 89 #[.val (.int p1), .val (.int p2), .val (.int p3), .val (.int p4), .unset, .unset, .unset, .unset, .unset] [(.int (894 : Int32)), (.int (13 : Int32)), (.ref b5), (.ref b5)])) rfl rfl (hb hby at_89)
  have V_b5_19 := Arv.set Ar_b5 q_b5 S_b5 N_b5 H_b5 G_b5 rfl W19 13 rfl (Nat.le_of_ble_eq_true rfl)
  have K19 : Keep h0 h19 [] := K18.wr W19 (Or.inr sz_b5)
  have N19 := Fr.snoc X19 N18 g_b5
  obtain ⟨cl_b5_96, Ar_b5, q_b5, S_b5, N_b5, H_b5, G_b5⟩ := V_b5_19
  have hin96 : ¬ ((14 : Int32) < 0 ∨ cl_b5_96.slots.size ≤ ((14 : Int32)).toNatClampNeg) := inb_of S_b5 ⟨by decide, by decide⟩
  obtain ⟨T20, h20, X20, e20, W20, st20⟩ := stI X19 hx hZ e19 Ar_b5 (j := (14 : Int32)) hin96 (g := (mkF m 96 #[.val (.int p1), .val (.int p2), .val (.int p3), .val (.int p4), .unset, .unset, .unset, .unset, .unset] [(.int (895 : Int32)), (.int (14 : Int32)), (.ref b5), (.ref b5)])) rfl rfl (hb hby at_96)
  have V_b5_20 := Arv.set Ar_b5 q_b5 S_b5 N_b5 H_b5 G_b5 rfl W20 14 rfl (Nat.le_of_ble_eq_true rfl)
  have K20 : Keep h0 h20 [] := K19.wr W20 (Or.inr sz_b5)
  have N20 := Fr.snoc X20 N19 g_b5
  obtain ⟨cl_b5_103, Ar_b5, q_b5, S_b5, N_b5, H_b5, G_b5⟩ := V_b5_20
  have hin103 : ¬ ((15 : Int32) < 0 ∨ cl_b5_103.slots.size ≤ ((15 : Int32)).toNatClampNeg) := inb_of S_b5 ⟨by decide, by decide⟩
  obtain ⟨T21, h21, X21, e21, W21, st21⟩ := stI X20 hx hZ e20 Ar_b5 (j := (15 : Int32)) hin103 (g := (mkF m 103 #[.val (.int p1), .val (.int p2), .val (.int p3), .val (.int p4), .unset, .unset, .unset, .unset, .unset] [(.int (8192 : Int32)), (.int (15 : Int32)), (.ref b5), (.ref b5)])) rfl rfl (hb hby at_103)
  have V_b5_21 := Arv.set Ar_b5 q_b5 S_b5 N_b5 H_b5 G_b5 rfl W21 15 rfl (Nat.le_of_ble_eq_true rfl)
  have K21 : Keep h0 h21 [] := K20.wr W21 (Or.inr sz_b5)
  have N21 := Fr.snoc X21 N20 g_b5
  obtain ⟨cl_b5_110, Ar_b5, q_b5, S_b5, N_b5, H_b5, G_b5⟩ := V_b5_21
  have hin110 : ¬ ((16 : Int32) < 0 ∨ cl_b5_110.slots.size ≤ ((16 : Int32)).toNatClampNeg) := inb_of S_b5 ⟨by decide, by decide⟩
  obtain ⟨T22, h22, X22, e22, W22, st22⟩ := stI X21 hx hZ e21 Ar_b5 (j := (16 : Int32)) hin110 (g := (mkF m 110 #[.val (.int p1), .val (.int p2), .val (.int p3), .val (.int p4), .unset, .unset, .unset, .unset, .unset] [(.int (8204 : Int32)), (.int (16 : Int32)), (.ref b5), (.ref b5)])) rfl rfl (hb hby at_110)
  have V_b5_22 := Arv.set Ar_b5 q_b5 S_b5 N_b5 H_b5 G_b5 rfl W22 16 rfl (Nat.le_of_ble_eq_true rfl)
  have K22 : Keep h0 h22 [] := K21.wr W22 (Or.inr sz_b5)
  have N22 := Fr.snoc X22 N21 g_b5
  obtain ⟨cl_b5_117, Ar_b5, q_b5, S_b5, N_b5, H_b5, G_b5⟩ := V_b5_22
  have hin117 : ¬ ((17 : Int32) < 0 ∨ cl_b5_117.slots.size ≤ ((17 : Int32)).toNatClampNeg) := inb_of S_b5 ⟨by decide, by decide⟩
  obtain ⟨T23, h23, X23, e23, W23, st23⟩ := stI X22 hx hZ e22 Ar_b5 (j := (17 : Int32)) hin117 (g := (mkF m 117 #[.val (.int p1), .val (.int p2), .val (.int p3), .val (.int p4), .unset, .unset, .unset, .unset, .unset] [(.int (8206 : Int32)), (.int (17 : Int32)), (.ref b5), (.ref b5)])) rfl rfl (hb hby at_117)
  have V_b5_23 := Arv.set Ar_b5 q_b5 S_b5 N_b5 H_b5 G_b5 rfl W23 17 rfl (Nat.le_of_ble_eq_true rfl)
  have K23 : Keep h0 h23 [] := K22.wr W23 (Or.inr sz_b5)
  have N23 := Fr.snoc X23 N22 g_b5
  obtain ⟨cl_b5_124, Ar_b5, q_b5, S_b5, N_b5, H_b5, G_b5⟩ := V_b5_23
  have hin124 : ¬ ((18 : Int32) < 0 ∨ cl_b5_124.slots.size ≤ ((18 : Int32)).toNatClampNeg) := inb_of S_b5 ⟨by decide, by decide⟩
  obtain ⟨T24, h24, X24, e24, W24, st24⟩ := stI X23 hx hZ e23 Ar_b5 (j := (18 : Int32)) hin124 (g := (mkF m 124 #[.val (.int p1), .val (.int p2), .val (.int p3), .val (.int p4), .unset, .unset, .unset, .unset, .unset] [(.int (8304 : Int32)), (.int (18 : Int32)), (.ref b5), (.ref b5)])) rfl rfl (hb hby at_124)
  have V_b5_24 := Arv.set Ar_b5 q_b5 S_b5 N_b5 H_b5 G_b5 rfl W24 18 rfl (Nat.le_of_ble_eq_true rfl)
  have K24 : Keep h0 h24 [] := K23.wr W24 (Or.inr sz_b5)
  have N24 := Fr.snoc X24 N23 g_b5
  obtain ⟨cl_b5_131, Ar_b5, q_b5, S_b5, N_b5, H_b5, G_b5⟩ := V_b5_24
  have hin131 : ¬ ((19 : Int32) < 0 ∨ cl_b5_131.slots.size ≤ ((19 : Int32)).toNatClampNeg) := inb_of S_b5 ⟨by decide, by decide⟩
  obtain ⟨T25, h25, X25, e25, W25, st25⟩ := stI X24 hx hZ e24 Ar_b5 (j := (19 : Int32)) hin131 (g := (mkF m 131 #[.val (.int p1), .val (.int p2), .val (.int p3), .val (.int p4), .unset, .unset, .unset, .unset, .unset] [(.int (8592 : Int32)), (.int (19 : Int32)), (.ref b5), (.ref b5)])) rfl rfl (hb hby at_131)
  have V_b5_25 := Arv.set Ar_b5 q_b5 S_b5 N_b5 H_b5 G_b5 rfl W25 19 rfl (Nat.le_of_ble_eq_true rfl)
  have K25 : Keep h0 h25 [] := K24.wr W25 (Or.inr sz_b5)
  have N25 := Fr.snoc X25 N24 g_b5
  obtain ⟨cl_b5_138, Ar_b5, q_b5, S_b5, N_b5, H_b5, G_b5⟩ := V_b5_25
  have hin138 : ¬ ((20 : Int32) < 0 ∨ cl_b5_138.slots.size ≤ ((20 : Int32)).toNatClampNeg) := inb_of S_b5 ⟨by decide, by decide⟩
  obtain ⟨T26, h26, X26, e26, W26, st26⟩ := stI X25 hx hZ e25 Ar_b5 (j := (20 : Int32)) hin138 (g := (mkF m 138 #[.val (.int p1), .val (.int p2), .val (.int p3), .val (.int p4), .unset, .unset, .unset, .unset, .unset] [(.int (11264 : Int32)), (.int (20 : Int32)), (.ref b5), (.ref b5)])) rfl rfl (hb hby at_138)
  have V_b5_26 := Arv.set Ar_b5 q_b5 S_b5 N_b5 H_b5 G_b5 rfl W26 20 rfl (Nat.le_of_ble_eq_true rfl)
  have K26 : Keep h0 h26 [] := K25.wr W26 (Or.inr sz_b5)
  have N26 := Fr.snoc X26 N25 g_b5
  obtain ⟨cl_b5_145, Ar_b5, q_b5, S_b5, N_b5, H_b5, G_b5⟩ := V_b5_26
  have hin145 : ¬ ((21 : Int32) < 0 ∨ cl_b5_145.slots.size ≤ ((21 : Int32)).toNatClampNeg) := inb_of S_b5 ⟨by decide, by decide⟩
  obtain ⟨T27, h27, X27, e27, W27, st27⟩ := stI X26 hx hZ e26 Ar_b5 (j := (21 : Int32)) hin145 (g := (mkF m 145 #[.val (.int p1), .val (.int p2), .val (.int p3), .val (.int p4), .unset, .unset, .unset, .unset, .unset] [(.int (12272 : Int32)), (.int (21 : Int32)), (.ref b5), (.ref b5)])) rfl rfl (hb hby at_145)
  have V_b5_27 := Arv.set Ar_b5 q_b5 S_b5 N_b5 H_b5 G_b5 rfl W27 21 rfl (Nat.le_of_ble_eq_true rfl)
  have K27 : Keep h0 h27 [] := K26.wr W27 (Or.inr sz_b5)
  have N27 := Fr.snoc X27 N26 g_b5
  obtain ⟨cl_b5_152, Ar_b5, q_b5, S_b5, N_b5, H_b5, G_b5⟩ := V_b5_27
  have hin152 : ¬ ((22 : Int32) < 0 ∨ cl_b5_152.slots.size ≤ ((22 : Int32)).toNatClampNeg) := inb_of S_b5 ⟨by decide, by decide⟩
  obtain ⟨T28, h28, X28, e28, W28, st28⟩ := stI X27 hx hZ e27 Ar_b5 (j := (22 : Int32)) hin152 (g := (mkF m 152 #[.val (.int p1), .val (.int p2), .val (.int p3), .val (.int p4), .unset, .unset, .unset, .unset, .unset] [(.int (12289 : Int32)), (.int (22 : Int32)), (.ref b5), (.ref b5)])) rfl rfl (hb hby at_152)
  have V_b5_28 := Arv.set Ar_b5 q_b5 S_b5 N_b5 H_b5 G_b5 rfl W28 22 rfl (Nat.le_of_ble_eq_true rfl)
  have K28 : Keep h0 h28 [] := K27.wr W28 (Or.inr sz_b5)
  have N28 := Fr.snoc X28 N27 g_b5
  obtain ⟨cl_b5_158, Ar_b5, q_b5, S_b5, N_b5, H_b5, G_b5⟩ := V_b5_28
  have hin158 : ¬ ((23 : Int32) < 0 ∨ cl_b5_158.slots.size ≤ ((23 : Int32)).toNatClampNeg) := inb_of S_b5 ⟨by decide, by decide⟩
  obtain ⟨T29, h29, X29, e29, W29, st29⟩ := stI X28 hx hZ e28 Ar_b5 (j := (23 : Int32)) hin158 (g := (mkF m 158 #[.val (.int p1), .val (.int p2), .val (.int p3), .val (.int p4), .unset, .unset, .unset, .unset, .unset] [(.int (55296 : Int32)), (.int (23 : Int32)), (.ref b5), (.ref b5)])) rfl rfl (hb hby at_158)
  have V_b5_29 := Arv.set Ar_b5 q_b5 S_b5 N_b5 H_b5 G_b5 rfl W29 23 rfl (Nat.le_of_ble_eq_true rfl)
  have K29 : Keep h0 h29 [] := K28.wr W29 (Or.inr sz_b5)
  have N29 := Fr.snoc X29 N28 g_b5
  obtain ⟨cl_b5_164, Ar_b5, q_b5, S_b5, N_b5, H_b5, G_b5⟩ := V_b5_29
  have hin164 : ¬ ((24 : Int32) < 0 ∨ cl_b5_164.slots.size ≤ ((24 : Int32)).toNatClampNeg) := inb_of S_b5 ⟨by decide, by decide⟩
  obtain ⟨T30, h30, X30, e30, W30, st30⟩ := stI X29 hx hZ e29 Ar_b5 (j := (24 : Int32)) hin164 (g := (mkF m 164 #[.val (.int p1), .val (.int p2), .val (.int p3), .val (.int p4), .unset, .unset, .unset, .unset, .unset] [(.int (63744 : Int32)), (.int (24 : Int32)), (.ref b5), (.ref b5)])) rfl rfl (hb hby at_164)
  have V_b5_30 := Arv.set Ar_b5 q_b5 S_b5 N_b5 H_b5 G_b5 rfl W30 24 rfl (Nat.le_of_ble_eq_true rfl)
  have K30 : Keep h0 h30 [] := K29.wr W30 (Or.inr sz_b5)
  have N30 := Fr.snoc X30 N29 g_b5
  obtain ⟨cl_b5_170, Ar_b5, q_b5, S_b5, N_b5, H_b5, G_b5⟩ := V_b5_30
  have hin170 : ¬ ((25 : Int32) < 0 ∨ cl_b5_170.slots.size ≤ ((25 : Int32)).toNatClampNeg) := inb_of S_b5 ⟨by decide, by decide⟩
  obtain ⟨T31, h31, X31, e31, W31, st31⟩ := stI X30 hx hZ e30 Ar_b5 (j := (25 : Int32)) hin170 (g := (mkF m 170 #[.val (.int p1), .val (.int p2), .val (.int p3), .val (.int p4), .unset, .unset, .unset, .unset, .unset] [(.int (64976 : Int32)), (.int (25 : Int32)), (.ref b5), (.ref b5)])) rfl rfl (hb hby at_170)
  have V_b5_31 := Arv.set Ar_b5 q_b5 S_b5 N_b5 H_b5 G_b5 rfl W31 25 rfl (Nat.le_of_ble_eq_true rfl)
  have K31 : Keep h0 h31 [] := K30.wr W31 (Or.inr sz_b5)
  have N31 := Fr.snoc X31 N30 g_b5
  obtain ⟨cl_b5_176, Ar_b5, q_b5, S_b5, N_b5, H_b5, G_b5⟩ := V_b5_31
  have hin176 : ¬ ((26 : Int32) < 0 ∨ cl_b5_176.slots.size ≤ ((26 : Int32)).toNatClampNeg) := inb_of S_b5 ⟨by decide, by decide⟩
  obtain ⟨T32, h32, X32, e32, W32, st32⟩ := stI X31 hx hZ e31 Ar_b5 (j := (26 : Int32)) hin176 (g := (mkF m 176 #[.val (.int p1), .val (.int p2), .val (.int p3), .val (.int p4), .unset, .unset, .unset, .unset, .unset] [(.int (65008 : Int32)), (.int (26 : Int32)), (.ref b5), (.ref b5)])) rfl rfl (hb hby at_176)
  have V_b5_32 := Arv.set Ar_b5 q_b5 S_b5 N_b5 H_b5 G_b5 rfl W32 26 rfl (Nat.le_of_ble_eq_true rfl)
  have K32 : Keep h0 h32 [] := K31.wr W32 (Or.inr sz_b5)
  have N32 := Fr.snoc X32 N31 g_b5
  obtain ⟨cl_b5_182, Ar_b5, q_b5, S_b5, N_b5, H_b5, G_b5⟩ := V_b5_32
  have hin182 : ¬ ((27 : Int32) < 0 ∨ cl_b5_182.slots.size ≤ ((27 : Int32)).toNatClampNeg) := inb_of S_b5 ⟨by decide, by decide⟩
  obtain ⟨T33, h33, X33, e33, W33, st33⟩ := stI X32 hx hZ e32 Ar_b5 (j := (27 : Int32)) hin182 (g := (mkF m 182 #[.val (.int p1), .val (.int p2), .val (.int p3), .val (.int p4), .unset, .unset, .unset, .unset, .unset] [(.int (65534 : Int32)), (.int (27 : Int32)), (.ref b5), (.ref b5)])) rfl rfl (hb hby at_182)
  have V_b5_33 := Arv.set Ar_b5 q_b5 S_b5 N_b5 H_b5 G_b5 rfl W33 27 rfl (Nat.le_of_ble_eq_true rfl)
  have K33 : Keep h0 h33 [] := K32.wr W33 (Or.inr sz_b5)
  have N33 := Fr.snoc X33 N32 g_b5
  obtain ⟨cl_b5_188, Ar_b5, q_b5, S_b5, N_b5, H_b5, G_b5⟩ := V_b5_33
  have hin188 : ¬ ((28 : Int32) < 0 ∨ cl_b5_188.slots.size ≤ ((28 : Int32)).toNatClampNeg) := inb_of S_b5 ⟨by decide, by decide⟩
  obtain ⟨T34, h34, X34, e34, W34, st34⟩ := stI X33 hx hZ e33 Ar_b5 (j := (28 : Int32)) hin188 (g := (mkF m 188 #[.val (.int p1), .val (.int p2), .val (.int p3), .val (.int p4), .unset, .unset, .unset, .unset, .unset] [(.int (65536 : Int32)), (.int (28 : Int32)), (.ref b5), (.ref b5)])) rfl rfl (hb hby at_188)
  have V_b5_34 := Arv.set Ar_b5 q_b5 S_b5 N_b5 H_b5 G_b5 rfl W34 28 rfl (Nat.le_of_ble_eq_true rfl)
  have K34 : Keep h0 h34 [] := K33.wr W34 (Or.inr sz_b5)
  have N34 := Fr.snoc X34 N33 g_b5
  obtain ⟨cl_b5_194, Ar_b5, q_b5, S_b5, N_b5, H_b5, G_b5⟩ := V_b5_34
  have hin194 : ¬ ((29 : Int32) < 0 ∨ cl_b5_194.slots.size ≤ ((29 : Int32)).toNatClampNeg) := inb_of S_b5 ⟨by decide, by decide⟩
  obtain ⟨T35, h35, X35, e35, W35, st35⟩ := stI X34 hx hZ e34 Ar_b5 (j := (29 : Int32)) hin194 (g := (mkF m 194 #[.val (.int p1), .val (.int p2), .val (.int p3), .val (.int p4), .unset, .unset, .unset, .unset, .unset] [(.int (983040 : Int32)), (.int (29 : Int32)), (.ref b5), (.ref b5)])) rfl rfl (hb hby at_194)
  have V_b5_35 := Arv.set Ar_b5 q_b5 S_b5 N_b5 H_b5 G_b5 rfl W35 29 rfl (Nat.le_of_ble_eq_true rfl)
  have K35 : Keep h0 h35 [] := K34.wr W35 (Or.inr sz_b5)
  have N35 := Fr.snoc X35 N34 g_b5
  have VF : Arv Z h35 b5 k5 .int (30 : Int32) (own_L.map Value.int) (.int (0 : Int32)) := V_b5_35
  obtain ⟨cl_F, Ar_b5, q_b5, S_b5, N_b5, H_b5, G_b5⟩ := VF
  have szF : cl_F.slots.size = 30 := S_b5
  have hin249 : ¬ ((0 : Int32) < 0 ∨ cl_F.slots.size ≤ ((0 : Int32)).toNatClampNeg) := inb_of S_b5 ⟨by decide, by decide⟩
  have hat249 : cl_F.slots[((0 : Int32)).toNatClampNeg]? = some (.int (65 : Int32)) := H_b5 0 (by rw [szF]; decide)
  have hin258 : ¬ ((1 : Int32) < 0 ∨ cl_F.slots.size ≤ ((1 : Int32)).toNatClampNeg) := inb_of S_b5 ⟨by decide, by decide⟩
  have hat258 : cl_F.slots[((1 : Int32)).toNatClampNeg]? = some (.int (91 : Int32)) := H_b5 1 (by rw [szF]; decide)
  have hin268 : ¬ ((2 : Int32) < 0 ∨ cl_F.slots.size ≤ ((2 : Int32)).toNatClampNeg) := inb_of S_b5 ⟨by decide, by decide⟩
  have hat268 : cl_F.slots[((2 : Int32)).toNatClampNeg]? = some (.int (95 : Int32)) := H_b5 2 (by rw [szF]; decide)
  have hin278 : ¬ ((3 : Int32) < 0 ∨ cl_F.slots.size ≤ ((3 : Int32)).toNatClampNeg) := inb_of S_b5 ⟨by decide, by decide⟩
  have hat278 : cl_F.slots[((3 : Int32)).toNatClampNeg]? = some (.int (96 : Int32)) := H_b5 3 (by rw [szF]; decide)
  have hin288 : ¬ ((4 : Int32) < 0 ∨ cl_F.slots.size ≤ ((4 : Int32)).toNatClampNeg) := inb_of S_b5 ⟨by decide, by decide⟩
  have hat288 : cl_F.slots[((4 : Int32)).toNatClampNeg]? = some (.int (97 : Int32)) := H_b5 4 (by rw [szF]; decide)
  have hin298 : ¬ ((5 : Int32) < 0 ∨ cl_F.slots.size ≤ ((5 : Int32)).toNatClampNeg) := inb_of S_b5 ⟨by decide, by decide⟩
  have hat298 : cl_F.slots[((5 : Int32)).toNatClampNeg]? = some (.int (123 : Int32)) := H_b5 5 (by rw [szF]; decide)
  have hin309 : ¬ ((6 : Int32) < 0 ∨ cl_F.slots.size ≤ ((6 : Int32)).toNatClampNeg) := inb_of S_b5 ⟨by decide, by decide⟩
  have hat309 : cl_F.slots[((6 : Int32)).toNatClampNeg]? = some (.int (192 : Int32)) := H_b5 6 (by rw [szF]; decide)
  have hin320 : ¬ ((7 : Int32) < 0 ∨ cl_F.slots.size ≤ ((7 : Int32)).toNatClampNeg) := inb_of S_b5 ⟨by decide, by decide⟩
  have hat320 : cl_F.slots[((7 : Int32)).toNatClampNeg]? = some (.int (215 : Int32)) := H_b5 7 (by rw [szF]; decide)
  have hin331 : ¬ ((8 : Int32) < 0 ∨ cl_F.slots.size ≤ ((8 : Int32)).toNatClampNeg) := inb_of S_b5 ⟨by decide, by decide⟩
  have hat331 : cl_F.slots[((8 : Int32)).toNatClampNeg]? = some (.int (216 : Int32)) := H_b5 8 (by rw [szF]; decide)
  have hin342 : ¬ ((9 : Int32) < 0 ∨ cl_F.slots.size ≤ ((9 : Int32)).toNatClampNeg) := inb_of S_b5 ⟨by decide, by decide⟩
  have hat342 : cl_F.slots[((9 : Int32)).toNatClampNeg]? = some (.int (247 : Int32)) := H_b5 9 (by rw [szF]; decide)
  have hin353 : ¬ ((10 : Int32) < 0 ∨ cl_F.slots.size ≤ ((10 : Int32)).toNatClampNeg) := inb_of S_b5 ⟨by decide, by decide⟩
  have hat353 : cl_F.slots[((10 : Int32)).toNatClampNeg]? = some (.int (248 : Int32)) := H_b5 10 (by rw [szF]; decide)
  have hin364 : ¬ ((11 : Int32) < 0 ∨ cl_F.slots.size ≤ ((11 : Int32)).toNatClampNeg) := inb_of S_b5 ⟨by decide, by decide⟩
  have hat364 : cl_F.slots[((11 : Int32)).toNatClampNeg]? = some (.int (768 : Int32)) := H_b5 11 (by rw [szF]; decide)
  have hin375 : ¬ ((12 : Int32) < 0 ∨ cl_F.slots.size ≤ ((12 : Int32)).toNatClampNeg) := inb_of S_b5 ⟨by decide, by decide⟩
  have hat375 : cl_F.slots[((12 : Int32)).toNatClampNeg]? = some (.int (880 : Int32)) := H_b5 12 (by rw [szF]; decide)
  have hin386 : ¬ ((13 : Int32) < 0 ∨ cl_F.slots.size ≤ ((13 : Int32)).toNatClampNeg) := inb_of S_b5 ⟨by decide, by decide⟩
  have hat386 : cl_F.slots[((13 : Int32)).toNatClampNeg]? = some (.int (894 : Int32)) := H_b5 13 (by rw [szF]; decide)
  have hin397 : ¬ ((14 : Int32) < 0 ∨ cl_F.slots.size ≤ ((14 : Int32)).toNatClampNeg) := inb_of S_b5 ⟨by decide, by decide⟩
  have hat397 : cl_F.slots[((14 : Int32)).toNatClampNeg]? = some (.int (895 : Int32)) := H_b5 14 (by rw [szF]; decide)
  have hin408 : ¬ ((15 : Int32) < 0 ∨ cl_F.slots.size ≤ ((15 : Int32)).toNatClampNeg) := inb_of S_b5 ⟨by decide, by decide⟩
  have hat408 : cl_F.slots[((15 : Int32)).toNatClampNeg]? = some (.int (8192 : Int32)) := H_b5 15 (by rw [szF]; decide)
  have hin419 : ¬ ((16 : Int32) < 0 ∨ cl_F.slots.size ≤ ((16 : Int32)).toNatClampNeg) := inb_of S_b5 ⟨by decide, by decide⟩
  have hat419 : cl_F.slots[((16 : Int32)).toNatClampNeg]? = some (.int (8204 : Int32)) := H_b5 16 (by rw [szF]; decide)
  have hin430 : ¬ ((17 : Int32) < 0 ∨ cl_F.slots.size ≤ ((17 : Int32)).toNatClampNeg) := inb_of S_b5 ⟨by decide, by decide⟩
  have hat430 : cl_F.slots[((17 : Int32)).toNatClampNeg]? = some (.int (8206 : Int32)) := H_b5 17 (by rw [szF]; decide)
  have hin441 : ¬ ((18 : Int32) < 0 ∨ cl_F.slots.size ≤ ((18 : Int32)).toNatClampNeg) := inb_of S_b5 ⟨by decide, by decide⟩
  have hat441 : cl_F.slots[((18 : Int32)).toNatClampNeg]? = some (.int (8304 : Int32)) := H_b5 18 (by rw [szF]; decide)
  have hin452 : ¬ ((19 : Int32) < 0 ∨ cl_F.slots.size ≤ ((19 : Int32)).toNatClampNeg) := inb_of S_b5 ⟨by decide, by decide⟩
  have hat452 : cl_F.slots[((19 : Int32)).toNatClampNeg]? = some (.int (8592 : Int32)) := H_b5 19 (by rw [szF]; decide)
  have hin463 : ¬ ((20 : Int32) < 0 ∨ cl_F.slots.size ≤ ((20 : Int32)).toNatClampNeg) := inb_of S_b5 ⟨by decide, by decide⟩
  have hat463 : cl_F.slots[((20 : Int32)).toNatClampNeg]? = some (.int (11264 : Int32)) := H_b5 20 (by rw [szF]; decide)
  have hin474 : ¬ ((21 : Int32) < 0 ∨ cl_F.slots.size ≤ ((21 : Int32)).toNatClampNeg) := inb_of S_b5 ⟨by decide, by decide⟩
  have hat474 : cl_F.slots[((21 : Int32)).toNatClampNeg]? = some (.int (12272 : Int32)) := H_b5 21 (by rw [szF]; decide)
  have hin485 : ¬ ((22 : Int32) < 0 ∨ cl_F.slots.size ≤ ((22 : Int32)).toNatClampNeg) := inb_of S_b5 ⟨by decide, by decide⟩
  have hat485 : cl_F.slots[((22 : Int32)).toNatClampNeg]? = some (.int (12289 : Int32)) := H_b5 22 (by rw [szF]; decide)
  have hin496 : ¬ ((23 : Int32) < 0 ∨ cl_F.slots.size ≤ ((23 : Int32)).toNatClampNeg) := inb_of S_b5 ⟨by decide, by decide⟩
  have hat496 : cl_F.slots[((23 : Int32)).toNatClampNeg]? = some (.int (55296 : Int32)) := H_b5 23 (by rw [szF]; decide)
  have hin507 : ¬ ((24 : Int32) < 0 ∨ cl_F.slots.size ≤ ((24 : Int32)).toNatClampNeg) := inb_of S_b5 ⟨by decide, by decide⟩
  have hat507 : cl_F.slots[((24 : Int32)).toNatClampNeg]? = some (.int (63744 : Int32)) := H_b5 24 (by rw [szF]; decide)
  have hin518 : ¬ ((25 : Int32) < 0 ∨ cl_F.slots.size ≤ ((25 : Int32)).toNatClampNeg) := inb_of S_b5 ⟨by decide, by decide⟩
  have hat518 : cl_F.slots[((25 : Int32)).toNatClampNeg]? = some (.int (64976 : Int32)) := H_b5 25 (by rw [szF]; decide)
  have hin529 : ¬ ((26 : Int32) < 0 ∨ cl_F.slots.size ≤ ((26 : Int32)).toNatClampNeg) := inb_of S_b5 ⟨by decide, by decide⟩
  have hat529 : cl_F.slots[((26 : Int32)).toNatClampNeg]? = some (.int (65008 : Int32)) := H_b5 26 (by rw [szF]; decide)
  have hin540 : ¬ ((27 : Int32) < 0 ∨ cl_F.slots.size ≤ ((27 : Int32)).toNatClampNeg) := inb_of S_b5 ⟨by decide, by decide⟩
  have hat540 : cl_F.slots[((27 : Int32)).toNatClampNeg]? = some (.int (65534 : Int32)) := H_b5 27 (by rw [szF]; decide)
  have hin551 : ¬ ((28 : Int32) < 0 ∨ cl_F.slots.size ≤ ((28 : Int32)).toNatClampNeg) := inb_of S_b5 ⟨by decide, by decide⟩
  have hat551 : cl_F.slots[((28 : Int32)).toNatClampNeg]? = some (.int (65536 : Int32)) := H_b5 28 (by rw [szF]; decide)
  have hin562 : ¬ ((29 : Int32) < 0 ∨ cl_F.slots.size ≤ ((29 : Int32)).toNatClampNeg) := inb_of S_b5 ⟨by decide, by decide⟩
  have hat562 : cl_F.slots[((29 : Int32)).toNatClampNeg]? = some (.int (983040 : Int32)) := H_b5 29 (by rw [szF]; decide)
  have hin237 : ¬ ((own_rem (p2 &&& (2147483647 : Int32)) (30 : Int32)) < 0 ∨ cl_F.slots.size ≤ (own_rem (p2 &&& (2147483647 : Int32)) (30 : Int32)).toNatClampNeg) := inb_of S_b5 (own_idx p2)
  have hat237 : cl_F.slots[(own_rem (p2 &&& (2147483647 : Int32)) (30 : Int32)).toNatClampNeg]? = some (.int (own_pv (own_rem (p2 &&& (2147483647 : Int32)) (30 : Int32)).toNatClampNeg)) := (H_b5 _ (Nat.lt_of_not_le fun q => hin237 (Or.inr q))).trans (congrArg some (own_vs _))
  obtain ⟨cc, hcc⟩ : ∃ z, z = own_c p1 p2 p3 p4 := ⟨_, rfl⟩
  obtain ⟨ee, hee⟩ : ∃ z, z = own_e ((((((((((((((((((((((((((((((own_ge cc (65 : Int32)) + (own_ge cc (91 : Int32))) + (own_ge cc (95 : Int32))) + (own_ge cc (96 : Int32))) + (own_ge cc (97 : Int32))) + (own_ge cc (123 : Int32))) + (own_ge cc (192 : Int32))) + (own_ge cc (215 : Int32))) + (own_ge cc (216 : Int32))) + (own_ge cc (247 : Int32))) + (own_ge cc (248 : Int32))) + (own_ge cc (768 : Int32))) + (own_ge cc (880 : Int32))) + (own_ge cc (894 : Int32))) + (own_ge cc (895 : Int32))) + (own_ge cc (8192 : Int32))) + (own_ge cc (8204 : Int32))) + (own_ge cc (8206 : Int32))) + (own_ge cc (8304 : Int32))) + (own_ge cc (8592 : Int32))) + (own_ge cc (11264 : Int32))) + (own_ge cc (12272 : Int32))) + (own_ge cc (12289 : Int32))) + (own_ge cc (55296 : Int32))) + (own_ge cc (63744 : Int32))) + (own_ge cc (64976 : Int32))) + (own_ge cc (65008 : Int32))) + (own_ge cc (65534 : Int32))) + (own_ge cc (65536 : Int32))) + (own_ge cc (983040 : Int32))) := ⟨_, rfl⟩
  obtain ⟨LL, XL, NL⟩ : ∃ LL, Stand p l e room_1 s m #[(.int p1), (.int p2), (.int p3), (.int p4)] below meth c T35 LL 1 30 ∧ Fr n0 LL := ⟨_, X35, N35⟩
  obtain ⟨_, _, ⟨T37, L37, k37, n37⟩, -, X37, ⟨Lc37, hQ37, l37, y37, z37⟩, st37⟩ := Jvm.LawKit.callS XL hx (y := (⟨"com/example/coarsen/coarsen/xml/XmlNamesIsNameStartCharPinLaw", "ge", "(II)I"⟩ : MethodName)) hown (mvT hZ (hw _ (List.mem_of_getElem? (i := 9) rfl))) (mvT hZ (hw _ (List.mem_of_getElem? (i := 10) rfl))) (mvT hZ (hw _ (List.mem_of_getElem? (i := 11) rfl))) (mvT hZ (hw _ (List.mem_of_getElem? (i := 12) rfl))) (by decide) (backOf (W := 0) (rm1 l Z a0 hw [] cc (65 : Int32) h35 n0 (Nat.le_trans Z0 K35.1)) hZ (hw _ (List.mem_of_getElem? (i := 12) rfl)) (hw _ (List.mem_of_getElem? (i := 11) rfl)) (by decide) (by decide)) (g := (mkF m 250 #[.val (.int p1), .val (.int p2), .val (.int p3), .val (.int p4), .val (.ref b5), .val (.int (p4 &&& (3 : Int32))), .val (.int cc), .unset, .unset] [(.int (65 : Int32)), (.int cc)])) rfl (by rw [hml]; rfl) (argsL := [(.int cc), (.int (65 : Int32))]) (rest := []) (lenOf pd_0_0 rfl) rfl (by show 2 * 0 + _ ≤ _; exact Nat.le_of_eq rfl) (hb hby at_250) (fun _ _ => ⟨rfl, e35, (by decide : 1 + 0 ≤ _), (by decide : 30 + 0 ≤ _)⟩)
  dsimp only [Pt.U, Pt.locs, Pt.cells, Pt.slots] at X37 l37 y37 z37 st37 hQ37
  subst l37 y37 z37
  obtain ⟨rfl, N37q, e37q⟩ := hQ37
  have N37 := Fr.app NL N37q
  obtain ⟨LL37, X37, N37⟩ : ∃ LL, Stand p l e room_1 s m #[(.int p1), (.int p2), (.int p3), (.int p4)] below meth c T37 LL 1 30 ∧ Fr n0 LL := ⟨_, X37, N37⟩
  obtain ⟨_, _, ⟨T39, L39, k39, n39⟩, -, X39, ⟨Lc39, hQ39, l39, y39, z39⟩, st39⟩ := Jvm.LawKit.callS X37 hx (y := (⟨"com/example/coarsen/coarsen/xml/XmlNamesIsNameStartCharPinLaw", "ge", "(II)I"⟩ : MethodName)) hown (mvT hZ (hw _ (List.mem_of_getElem? (i := 9) rfl))) (mvT hZ (hw _ (List.mem_of_getElem? (i := 10) rfl))) (mvT hZ (hw _ (List.mem_of_getElem? (i := 11) rfl))) (mvT hZ (hw _ (List.mem_of_getElem? (i := 12) rfl))) (by decide) (backOf (W := 1) (rm1 l Z a0 hw [] cc (91 : Int32) h35 n0 (Nat.le_trans Z0 K35.1)) hZ (hw _ (List.mem_of_getElem? (i := 12) rfl)) (hw _ (List.mem_of_getElem? (i := 11) rfl)) (by decide) (by decide)) (g := (mkF m 259 #[.val (.int p1), .val (.int p2), .val (.int p3), .val (.int p4), .val (.ref b5), .val (.int (p4 &&& (3 : Int32))), .val (.int cc), .unset, .unset] [(.int (91 : Int32)), (.int cc), (.int (own_ge cc (65 : Int32)))])) rfl (by rw [hml]; rfl) (argsL := [(.int cc), (.int (91 : Int32))]) (rest := [(.int (own_ge cc (65 : Int32)))]) (lenOf pd_0_0 rfl) rfl (by show 2 * 0 + _ ≤ _; exact Nat.le_of_eq rfl) (hb hby at_259) (fun _ _ => ⟨rfl, e37q, (by decide : 1 + 0 ≤ _), (by decide : 30 + 0 ≤ _)⟩)
  dsimp only [Pt.U, Pt.locs, Pt.cells, Pt.slots] at X39 l39 y39 z39 st39 hQ39
  subst l39 y39 z39
  obtain ⟨rfl, N39q, e39q⟩ := hQ39
  have N39 := Fr.app N37 N39q
  obtain ⟨LL39, X39, N39⟩ : ∃ LL, Stand p l e room_1 s m #[(.int p1), (.int p2), (.int p3), (.int p4)] below meth c T39 LL 1 30 ∧ Fr n0 LL := ⟨_, X39, N39⟩
  obtain ⟨_, _, ⟨T41, L41, k41, n41⟩, -, X41, ⟨Lc41, hQ41, l41, y41, z41⟩, st41⟩ := Jvm.LawKit.callS X39 hx (y := (⟨"com/example/coarsen/coarsen/xml/XmlNamesIsNameStartCharPinLaw", "ge", "(II)I"⟩ : MethodName)) hown (mvT hZ (hw _ (List.mem_of_getElem? (i := 9) rfl))) (mvT hZ (hw _ (List.mem_of_getElem? (i := 10) rfl))) (mvT hZ (hw _ (List.mem_of_getElem? (i := 11) rfl))) (mvT hZ (hw _ (List.mem_of_getElem? (i := 12) rfl))) (by decide) (backOf (W := 1) (rm1 l Z a0 hw [] cc (95 : Int32) h35 n0 (Nat.le_trans Z0 K35.1)) hZ (hw _ (List.mem_of_getElem? (i := 12) rfl)) (hw _ (List.mem_of_getElem? (i := 11) rfl)) (by decide) (by decide)) (g := (mkF m 269 #[.val (.int p1), .val (.int p2), .val (.int p3), .val (.int p4), .val (.ref b5), .val (.int (p4 &&& (3 : Int32))), .val (.int cc), .unset, .unset] [(.int (95 : Int32)), (.int cc), (.int ((own_ge cc (65 : Int32)) + (own_ge cc (91 : Int32))))])) rfl (by rw [hml]; rfl) (argsL := [(.int cc), (.int (95 : Int32))]) (rest := [(.int ((own_ge cc (65 : Int32)) + (own_ge cc (91 : Int32))))]) (lenOf pd_0_0 rfl) rfl (by show 2 * 0 + _ ≤ _; exact Nat.le_of_eq rfl) (hb hby at_269) (fun _ _ => ⟨rfl, e39q, (by decide : 1 + 0 ≤ _), (by decide : 30 + 0 ≤ _)⟩)
  dsimp only [Pt.U, Pt.locs, Pt.cells, Pt.slots] at X41 l41 y41 z41 st41 hQ41
  subst l41 y41 z41
  obtain ⟨rfl, N41q, e41q⟩ := hQ41
  have N41 := Fr.app N39 N41q
  obtain ⟨LL41, X41, N41⟩ : ∃ LL, Stand p l e room_1 s m #[(.int p1), (.int p2), (.int p3), (.int p4)] below meth c T41 LL 1 30 ∧ Fr n0 LL := ⟨_, X41, N41⟩
  obtain ⟨_, _, ⟨T43, L43, k43, n43⟩, -, X43, ⟨Lc43, hQ43, l43, y43, z43⟩, st43⟩ := Jvm.LawKit.callS X41 hx (y := (⟨"com/example/coarsen/coarsen/xml/XmlNamesIsNameStartCharPinLaw", "ge", "(II)I"⟩ : MethodName)) hown (mvT hZ (hw _ (List.mem_of_getElem? (i := 9) rfl))) (mvT hZ (hw _ (List.mem_of_getElem? (i := 10) rfl))) (mvT hZ (hw _ (List.mem_of_getElem? (i := 11) rfl))) (mvT hZ (hw _ (List.mem_of_getElem? (i := 12) rfl))) (by decide) (backOf (W := 1) (rm1 l Z a0 hw [] cc (96 : Int32) h35 n0 (Nat.le_trans Z0 K35.1)) hZ (hw _ (List.mem_of_getElem? (i := 12) rfl)) (hw _ (List.mem_of_getElem? (i := 11) rfl)) (by decide) (by decide)) (g := (mkF m 279 #[.val (.int p1), .val (.int p2), .val (.int p3), .val (.int p4), .val (.ref b5), .val (.int (p4 &&& (3 : Int32))), .val (.int cc), .unset, .unset] [(.int (96 : Int32)), (.int cc), (.int (((own_ge cc (65 : Int32)) + (own_ge cc (91 : Int32))) + (own_ge cc (95 : Int32))))])) rfl (by rw [hml]; rfl) (argsL := [(.int cc), (.int (96 : Int32))]) (rest := [(.int (((own_ge cc (65 : Int32)) + (own_ge cc (91 : Int32))) + (own_ge cc (95 : Int32))))]) (lenOf pd_0_0 rfl) rfl (by show 2 * 0 + _ ≤ _; exact Nat.le_of_eq rfl) (hb hby at_279) (fun _ _ => ⟨rfl, e41q, (by decide : 1 + 0 ≤ _), (by decide : 30 + 0 ≤ _)⟩)
  dsimp only [Pt.U, Pt.locs, Pt.cells, Pt.slots] at X43 l43 y43 z43 st43 hQ43
  subst l43 y43 z43
  obtain ⟨rfl, N43q, e43q⟩ := hQ43
  have N43 := Fr.app N41 N43q
  obtain ⟨LL43, X43, N43⟩ : ∃ LL, Stand p l e room_1 s m #[(.int p1), (.int p2), (.int p3), (.int p4)] below meth c T43 LL 1 30 ∧ Fr n0 LL := ⟨_, X43, N43⟩
  obtain ⟨_, _, ⟨T45, L45, k45, n45⟩, -, X45, ⟨Lc45, hQ45, l45, y45, z45⟩, st45⟩ := Jvm.LawKit.callS X43 hx (y := (⟨"com/example/coarsen/coarsen/xml/XmlNamesIsNameStartCharPinLaw", "ge", "(II)I"⟩ : MethodName)) hown (mvT hZ (hw _ (List.mem_of_getElem? (i := 9) rfl))) (mvT hZ (hw _ (List.mem_of_getElem? (i := 10) rfl))) (mvT hZ (hw _ (List.mem_of_getElem? (i := 11) rfl))) (mvT hZ (hw _ (List.mem_of_getElem? (i := 12) rfl))) (by decide) (backOf (W := 1) (rm1 l Z a0 hw [] cc (97 : Int32) h35 n0 (Nat.le_trans Z0 K35.1)) hZ (hw _ (List.mem_of_getElem? (i := 12) rfl)) (hw _ (List.mem_of_getElem? (i := 11) rfl)) (by decide) (by decide)) (g := (mkF m 289 #[.val (.int p1), .val (.int p2), .val (.int p3), .val (.int p4), .val (.ref b5), .val (.int (p4 &&& (3 : Int32))), .val (.int cc), .unset, .unset] [(.int (97 : Int32)), (.int cc), (.int ((((own_ge cc (65 : Int32)) + (own_ge cc (91 : Int32))) + (own_ge cc (95 : Int32))) + (own_ge cc (96 : Int32))))])) rfl (by rw [hml]; rfl) (argsL := [(.int cc), (.int (97 : Int32))]) (rest := [(.int ((((own_ge cc (65 : Int32)) + (own_ge cc (91 : Int32))) + (own_ge cc (95 : Int32))) + (own_ge cc (96 : Int32))))]) (lenOf pd_0_0 rfl) rfl (by show 2 * 0 + _ ≤ _; exact Nat.le_of_eq rfl) (hb hby at_289) (fun _ _ => ⟨rfl, e43q, (by decide : 1 + 0 ≤ _), (by decide : 30 + 0 ≤ _)⟩)
  dsimp only [Pt.U, Pt.locs, Pt.cells, Pt.slots] at X45 l45 y45 z45 st45 hQ45
  subst l45 y45 z45
  obtain ⟨rfl, N45q, e45q⟩ := hQ45
  have N45 := Fr.app N43 N45q
  obtain ⟨LL45, X45, N45⟩ : ∃ LL, Stand p l e room_1 s m #[(.int p1), (.int p2), (.int p3), (.int p4)] below meth c T45 LL 1 30 ∧ Fr n0 LL := ⟨_, X45, N45⟩
  obtain ⟨_, _, ⟨T47, L47, k47, n47⟩, -, X47, ⟨Lc47, hQ47, l47, y47, z47⟩, st47⟩ := Jvm.LawKit.callS X45 hx (y := (⟨"com/example/coarsen/coarsen/xml/XmlNamesIsNameStartCharPinLaw", "ge", "(II)I"⟩ : MethodName)) hown (mvT hZ (hw _ (List.mem_of_getElem? (i := 9) rfl))) (mvT hZ (hw _ (List.mem_of_getElem? (i := 10) rfl))) (mvT hZ (hw _ (List.mem_of_getElem? (i := 11) rfl))) (mvT hZ (hw _ (List.mem_of_getElem? (i := 12) rfl))) (by decide) (backOf (W := 1) (rm1 l Z a0 hw [] cc (123 : Int32) h35 n0 (Nat.le_trans Z0 K35.1)) hZ (hw _ (List.mem_of_getElem? (i := 12) rfl)) (hw _ (List.mem_of_getElem? (i := 11) rfl)) (by decide) (by decide)) (g := (mkF m 299 #[.val (.int p1), .val (.int p2), .val (.int p3), .val (.int p4), .val (.ref b5), .val (.int (p4 &&& (3 : Int32))), .val (.int cc), .unset, .unset] [(.int (123 : Int32)), (.int cc), (.int (((((own_ge cc (65 : Int32)) + (own_ge cc (91 : Int32))) + (own_ge cc (95 : Int32))) + (own_ge cc (96 : Int32))) + (own_ge cc (97 : Int32))))])) rfl (by rw [hml]; rfl) (argsL := [(.int cc), (.int (123 : Int32))]) (rest := [(.int (((((own_ge cc (65 : Int32)) + (own_ge cc (91 : Int32))) + (own_ge cc (95 : Int32))) + (own_ge cc (96 : Int32))) + (own_ge cc (97 : Int32))))]) (lenOf pd_0_0 rfl) rfl (by show 2 * 0 + _ ≤ _; exact Nat.le_of_eq rfl) (hb hby at_299) (fun _ _ => ⟨rfl, e45q, (by decide : 1 + 0 ≤ _), (by decide : 30 + 0 ≤ _)⟩)
  dsimp only [Pt.U, Pt.locs, Pt.cells, Pt.slots] at X47 l47 y47 z47 st47 hQ47
  subst l47 y47 z47
  obtain ⟨rfl, N47q, e47q⟩ := hQ47
  have N47 := Fr.app N45 N47q
  obtain ⟨LL47, X47, N47⟩ : ∃ LL, Stand p l e room_1 s m #[(.int p1), (.int p2), (.int p3), (.int p4)] below meth c T47 LL 1 30 ∧ Fr n0 LL := ⟨_, X47, N47⟩
  obtain ⟨_, _, ⟨T49, L49, k49, n49⟩, -, X49, ⟨Lc49, hQ49, l49, y49, z49⟩, st49⟩ := Jvm.LawKit.callS X47 hx (y := (⟨"com/example/coarsen/coarsen/xml/XmlNamesIsNameStartCharPinLaw", "ge", "(II)I"⟩ : MethodName)) hown (mvT hZ (hw _ (List.mem_of_getElem? (i := 9) rfl))) (mvT hZ (hw _ (List.mem_of_getElem? (i := 10) rfl))) (mvT hZ (hw _ (List.mem_of_getElem? (i := 11) rfl))) (mvT hZ (hw _ (List.mem_of_getElem? (i := 12) rfl))) (by decide) (backOf (W := 1) (rm1 l Z a0 hw [] cc (192 : Int32) h35 n0 (Nat.le_trans Z0 K35.1)) hZ (hw _ (List.mem_of_getElem? (i := 12) rfl)) (hw _ (List.mem_of_getElem? (i := 11) rfl)) (by decide) (by decide)) (g := (mkF m 310 #[.val (.int p1), .val (.int p2), .val (.int p3), .val (.int p4), .val (.ref b5), .val (.int (p4 &&& (3 : Int32))), .val (.int cc), .unset, .unset] [(.int (192 : Int32)), (.int cc), (.int ((((((own_ge cc (65 : Int32)) + (own_ge cc (91 : Int32))) + (own_ge cc (95 : Int32))) + (own_ge cc (96 : Int32))) + (own_ge cc (97 : Int32))) + (own_ge cc (123 : Int32))))])) rfl (by rw [hml]; rfl) (argsL := [(.int cc), (.int (192 : Int32))]) (rest := [(.int ((((((own_ge cc (65 : Int32)) + (own_ge cc (91 : Int32))) + (own_ge cc (95 : Int32))) + (own_ge cc (96 : Int32))) + (own_ge cc (97 : Int32))) + (own_ge cc (123 : Int32))))]) (lenOf pd_0_0 rfl) rfl (by show 2 * 0 + _ ≤ _; exact Nat.le_of_eq rfl) (hb hby at_310) (fun _ _ => ⟨rfl, e47q, (by decide : 1 + 0 ≤ _), (by decide : 30 + 0 ≤ _)⟩)
  dsimp only [Pt.U, Pt.locs, Pt.cells, Pt.slots] at X49 l49 y49 z49 st49 hQ49
  subst l49 y49 z49
  obtain ⟨rfl, N49q, e49q⟩ := hQ49
  have N49 := Fr.app N47 N49q
  obtain ⟨LL49, X49, N49⟩ : ∃ LL, Stand p l e room_1 s m #[(.int p1), (.int p2), (.int p3), (.int p4)] below meth c T49 LL 1 30 ∧ Fr n0 LL := ⟨_, X49, N49⟩
  obtain ⟨_, _, ⟨T51, L51, k51, n51⟩, -, X51, ⟨Lc51, hQ51, l51, y51, z51⟩, st51⟩ := Jvm.LawKit.callS X49 hx (y := (⟨"com/example/coarsen/coarsen/xml/XmlNamesIsNameStartCharPinLaw", "ge", "(II)I"⟩ : MethodName)) hown (mvT hZ (hw _ (List.mem_of_getElem? (i := 9) rfl))) (mvT hZ (hw _ (List.mem_of_getElem? (i := 10) rfl))) (mvT hZ (hw _ (List.mem_of_getElem? (i := 11) rfl))) (mvT hZ (hw _ (List.mem_of_getElem? (i := 12) rfl))) (by decide) (backOf (W := 1) (rm1 l Z a0 hw [] cc (215 : Int32) h35 n0 (Nat.le_trans Z0 K35.1)) hZ (hw _ (List.mem_of_getElem? (i := 12) rfl)) (hw _ (List.mem_of_getElem? (i := 11) rfl)) (by decide) (by decide)) (g := (mkF m 321 #[.val (.int p1), .val (.int p2), .val (.int p3), .val (.int p4), .val (.ref b5), .val (.int (p4 &&& (3 : Int32))), .val (.int cc), .unset, .unset] [(.int (215 : Int32)), (.int cc), (.int (((((((own_ge cc (65 : Int32)) + (own_ge cc (91 : Int32))) + (own_ge cc (95 : Int32))) + (own_ge cc (96 : Int32))) + (own_ge cc (97 : Int32))) + (own_ge cc (123 : Int32))) + (own_ge cc (192 : Int32))))])) rfl (by rw [hml]; rfl) (argsL := [(.int cc), (.int (215 : Int32))]) (rest := [(.int (((((((own_ge cc (65 : Int32)) + (own_ge cc (91 : Int32))) + (own_ge cc (95 : Int32))) + (own_ge cc (96 : Int32))) + (own_ge cc (97 : Int32))) + (own_ge cc (123 : Int32))) + (own_ge cc (192 : Int32))))]) (lenOf pd_0_0 rfl) rfl (by show 2 * 0 + _ ≤ _; exact Nat.le_of_eq rfl) (hb hby at_321) (fun _ _ => ⟨rfl, e49q, (by decide : 1 + 0 ≤ _), (by decide : 30 + 0 ≤ _)⟩)
  dsimp only [Pt.U, Pt.locs, Pt.cells, Pt.slots] at X51 l51 y51 z51 st51 hQ51
  subst l51 y51 z51
  obtain ⟨rfl, N51q, e51q⟩ := hQ51
  have N51 := Fr.app N49 N51q
  obtain ⟨LL51, X51, N51⟩ : ∃ LL, Stand p l e room_1 s m #[(.int p1), (.int p2), (.int p3), (.int p4)] below meth c T51 LL 1 30 ∧ Fr n0 LL := ⟨_, X51, N51⟩
  obtain ⟨_, _, ⟨T53, L53, k53, n53⟩, -, X53, ⟨Lc53, hQ53, l53, y53, z53⟩, st53⟩ := Jvm.LawKit.callS X51 hx (y := (⟨"com/example/coarsen/coarsen/xml/XmlNamesIsNameStartCharPinLaw", "ge", "(II)I"⟩ : MethodName)) hown (mvT hZ (hw _ (List.mem_of_getElem? (i := 9) rfl))) (mvT hZ (hw _ (List.mem_of_getElem? (i := 10) rfl))) (mvT hZ (hw _ (List.mem_of_getElem? (i := 11) rfl))) (mvT hZ (hw _ (List.mem_of_getElem? (i := 12) rfl))) (by decide) (backOf (W := 1) (rm1 l Z a0 hw [] cc (216 : Int32) h35 n0 (Nat.le_trans Z0 K35.1)) hZ (hw _ (List.mem_of_getElem? (i := 12) rfl)) (hw _ (List.mem_of_getElem? (i := 11) rfl)) (by decide) (by decide)) (g := (mkF m 332 #[.val (.int p1), .val (.int p2), .val (.int p3), .val (.int p4), .val (.ref b5), .val (.int (p4 &&& (3 : Int32))), .val (.int cc), .unset, .unset] [(.int (216 : Int32)), (.int cc), (.int ((((((((own_ge cc (65 : Int32)) + (own_ge cc (91 : Int32))) + (own_ge cc (95 : Int32))) + (own_ge cc (96 : Int32))) + (own_ge cc (97 : Int32))) + (own_ge cc (123 : Int32))) + (own_ge cc (192 : Int32))) + (own_ge cc (215 : Int32))))])) rfl (by rw [hml]; rfl) (argsL := [(.int cc), (.int (216 : Int32))]) (rest := [(.int ((((((((own_ge cc (65 : Int32)) + (own_ge cc (91 : Int32))) + (own_ge cc (95 : Int32))) + (own_ge cc (96 : Int32))) + (own_ge cc (97 : Int32))) + (own_ge cc (123 : Int32))) + (own_ge cc (192 : Int32))) + (own_ge cc (215 : Int32))))]) (lenOf pd_0_0 rfl) rfl (by show 2 * 0 + _ ≤ _; exact Nat.le_of_eq rfl) (hb hby at_332) (fun _ _ => ⟨rfl, e51q, (by decide : 1 + 0 ≤ _), (by decide : 30 + 0 ≤ _)⟩)
  dsimp only [Pt.U, Pt.locs, Pt.cells, Pt.slots] at X53 l53 y53 z53 st53 hQ53
  subst l53 y53 z53
  obtain ⟨rfl, N53q, e53q⟩ := hQ53
  have N53 := Fr.app N51 N53q
  obtain ⟨LL53, X53, N53⟩ : ∃ LL, Stand p l e room_1 s m #[(.int p1), (.int p2), (.int p3), (.int p4)] below meth c T53 LL 1 30 ∧ Fr n0 LL := ⟨_, X53, N53⟩
  obtain ⟨_, _, ⟨T55, L55, k55, n55⟩, -, X55, ⟨Lc55, hQ55, l55, y55, z55⟩, st55⟩ := Jvm.LawKit.callS X53 hx (y := (⟨"com/example/coarsen/coarsen/xml/XmlNamesIsNameStartCharPinLaw", "ge", "(II)I"⟩ : MethodName)) hown (mvT hZ (hw _ (List.mem_of_getElem? (i := 9) rfl))) (mvT hZ (hw _ (List.mem_of_getElem? (i := 10) rfl))) (mvT hZ (hw _ (List.mem_of_getElem? (i := 11) rfl))) (mvT hZ (hw _ (List.mem_of_getElem? (i := 12) rfl))) (by decide) (backOf (W := 1) (rm1 l Z a0 hw [] cc (247 : Int32) h35 n0 (Nat.le_trans Z0 K35.1)) hZ (hw _ (List.mem_of_getElem? (i := 12) rfl)) (hw _ (List.mem_of_getElem? (i := 11) rfl)) (by decide) (by decide)) (g := (mkF m 343 #[.val (.int p1), .val (.int p2), .val (.int p3), .val (.int p4), .val (.ref b5), .val (.int (p4 &&& (3 : Int32))), .val (.int cc), .unset, .unset] [(.int (247 : Int32)), (.int cc), (.int (((((((((own_ge cc (65 : Int32)) + (own_ge cc (91 : Int32))) + (own_ge cc (95 : Int32))) + (own_ge cc (96 : Int32))) + (own_ge cc (97 : Int32))) + (own_ge cc (123 : Int32))) + (own_ge cc (192 : Int32))) + (own_ge cc (215 : Int32))) + (own_ge cc (216 : Int32))))])) rfl (by rw [hml]; rfl) (argsL := [(.int cc), (.int (247 : Int32))]) (rest := [(.int (((((((((own_ge cc (65 : Int32)) + (own_ge cc (91 : Int32))) + (own_ge cc (95 : Int32))) + (own_ge cc (96 : Int32))) + (own_ge cc (97 : Int32))) + (own_ge cc (123 : Int32))) + (own_ge cc (192 : Int32))) + (own_ge cc (215 : Int32))) + (own_ge cc (216 : Int32))))]) (lenOf pd_0_0 rfl) rfl (by show 2 * 0 + _ ≤ _; exact Nat.le_of_eq rfl) (hb hby at_343) (fun _ _ => ⟨rfl, e53q, (by decide : 1 + 0 ≤ _), (by decide : 30 + 0 ≤ _)⟩)
  dsimp only [Pt.U, Pt.locs, Pt.cells, Pt.slots] at X55 l55 y55 z55 st55 hQ55
  subst l55 y55 z55
  obtain ⟨rfl, N55q, e55q⟩ := hQ55
  have N55 := Fr.app N53 N55q
  obtain ⟨LL55, X55, N55⟩ : ∃ LL, Stand p l e room_1 s m #[(.int p1), (.int p2), (.int p3), (.int p4)] below meth c T55 LL 1 30 ∧ Fr n0 LL := ⟨_, X55, N55⟩
  obtain ⟨_, _, ⟨T57, L57, k57, n57⟩, -, X57, ⟨Lc57, hQ57, l57, y57, z57⟩, st57⟩ := Jvm.LawKit.callS X55 hx (y := (⟨"com/example/coarsen/coarsen/xml/XmlNamesIsNameStartCharPinLaw", "ge", "(II)I"⟩ : MethodName)) hown (mvT hZ (hw _ (List.mem_of_getElem? (i := 9) rfl))) (mvT hZ (hw _ (List.mem_of_getElem? (i := 10) rfl))) (mvT hZ (hw _ (List.mem_of_getElem? (i := 11) rfl))) (mvT hZ (hw _ (List.mem_of_getElem? (i := 12) rfl))) (by decide) (backOf (W := 1) (rm1 l Z a0 hw [] cc (248 : Int32) h35 n0 (Nat.le_trans Z0 K35.1)) hZ (hw _ (List.mem_of_getElem? (i := 12) rfl)) (hw _ (List.mem_of_getElem? (i := 11) rfl)) (by decide) (by decide)) (g := (mkF m 354 #[.val (.int p1), .val (.int p2), .val (.int p3), .val (.int p4), .val (.ref b5), .val (.int (p4 &&& (3 : Int32))), .val (.int cc), .unset, .unset] [(.int (248 : Int32)), (.int cc), (.int ((((((((((own_ge cc (65 : Int32)) + (own_ge cc (91 : Int32))) + (own_ge cc (95 : Int32))) + (own_ge cc (96 : Int32))) + (own_ge cc (97 : Int32))) + (own_ge cc (123 : Int32))) + (own_ge cc (192 : Int32))) + (own_ge cc (215 : Int32))) + (own_ge cc (216 : Int32))) + (own_ge cc (247 : Int32))))])) rfl (by rw [hml]; rfl) (argsL := [(.int cc), (.int (248 : Int32))]) (rest := [(.int ((((((((((own_ge cc (65 : Int32)) + (own_ge cc (91 : Int32))) + (own_ge cc (95 : Int32))) + (own_ge cc (96 : Int32))) + (own_ge cc (97 : Int32))) + (own_ge cc (123 : Int32))) + (own_ge cc (192 : Int32))) + (own_ge cc (215 : Int32))) + (own_ge cc (216 : Int32))) + (own_ge cc (247 : Int32))))]) (lenOf pd_0_0 rfl) rfl (by show 2 * 0 + _ ≤ _; exact Nat.le_of_eq rfl) (hb hby at_354) (fun _ _ => ⟨rfl, e55q, (by decide : 1 + 0 ≤ _), (by decide : 30 + 0 ≤ _)⟩)
  dsimp only [Pt.U, Pt.locs, Pt.cells, Pt.slots] at X57 l57 y57 z57 st57 hQ57
  subst l57 y57 z57
  obtain ⟨rfl, N57q, e57q⟩ := hQ57
  have N57 := Fr.app N55 N57q
  obtain ⟨LL57, X57, N57⟩ : ∃ LL, Stand p l e room_1 s m #[(.int p1), (.int p2), (.int p3), (.int p4)] below meth c T57 LL 1 30 ∧ Fr n0 LL := ⟨_, X57, N57⟩
  obtain ⟨_, _, ⟨T59, L59, k59, n59⟩, -, X59, ⟨Lc59, hQ59, l59, y59, z59⟩, st59⟩ := Jvm.LawKit.callS X57 hx (y := (⟨"com/example/coarsen/coarsen/xml/XmlNamesIsNameStartCharPinLaw", "ge", "(II)I"⟩ : MethodName)) hown (mvT hZ (hw _ (List.mem_of_getElem? (i := 9) rfl))) (mvT hZ (hw _ (List.mem_of_getElem? (i := 10) rfl))) (mvT hZ (hw _ (List.mem_of_getElem? (i := 11) rfl))) (mvT hZ (hw _ (List.mem_of_getElem? (i := 12) rfl))) (by decide) (backOf (W := 1) (rm1 l Z a0 hw [] cc (768 : Int32) h35 n0 (Nat.le_trans Z0 K35.1)) hZ (hw _ (List.mem_of_getElem? (i := 12) rfl)) (hw _ (List.mem_of_getElem? (i := 11) rfl)) (by decide) (by decide)) (g := (mkF m 365 #[.val (.int p1), .val (.int p2), .val (.int p3), .val (.int p4), .val (.ref b5), .val (.int (p4 &&& (3 : Int32))), .val (.int cc), .unset, .unset] [(.int (768 : Int32)), (.int cc), (.int (((((((((((own_ge cc (65 : Int32)) + (own_ge cc (91 : Int32))) + (own_ge cc (95 : Int32))) + (own_ge cc (96 : Int32))) + (own_ge cc (97 : Int32))) + (own_ge cc (123 : Int32))) + (own_ge cc (192 : Int32))) + (own_ge cc (215 : Int32))) + (own_ge cc (216 : Int32))) + (own_ge cc (247 : Int32))) + (own_ge cc (248 : Int32))))])) rfl (by rw [hml]; rfl) (argsL := [(.int cc), (.int (768 : Int32))]) (rest := [(.int (((((((((((own_ge cc (65 : Int32)) + (own_ge cc (91 : Int32))) + (own_ge cc (95 : Int32))) + (own_ge cc (96 : Int32))) + (own_ge cc (97 : Int32))) + (own_ge cc (123 : Int32))) + (own_ge cc (192 : Int32))) + (own_ge cc (215 : Int32))) + (own_ge cc (216 : Int32))) + (own_ge cc (247 : Int32))) + (own_ge cc (248 : Int32))))]) (lenOf pd_0_0 rfl) rfl (by show 2 * 0 + _ ≤ _; exact Nat.le_of_eq rfl) (hb hby at_365) (fun _ _ => ⟨rfl, e57q, (by decide : 1 + 0 ≤ _), (by decide : 30 + 0 ≤ _)⟩)
  dsimp only [Pt.U, Pt.locs, Pt.cells, Pt.slots] at X59 l59 y59 z59 st59 hQ59
  subst l59 y59 z59
  obtain ⟨rfl, N59q, e59q⟩ := hQ59
  have N59 := Fr.app N57 N59q
  obtain ⟨LL59, X59, N59⟩ : ∃ LL, Stand p l e room_1 s m #[(.int p1), (.int p2), (.int p3), (.int p4)] below meth c T59 LL 1 30 ∧ Fr n0 LL := ⟨_, X59, N59⟩
  obtain ⟨_, _, ⟨T61, L61, k61, n61⟩, -, X61, ⟨Lc61, hQ61, l61, y61, z61⟩, st61⟩ := Jvm.LawKit.callS X59 hx (y := (⟨"com/example/coarsen/coarsen/xml/XmlNamesIsNameStartCharPinLaw", "ge", "(II)I"⟩ : MethodName)) hown (mvT hZ (hw _ (List.mem_of_getElem? (i := 9) rfl))) (mvT hZ (hw _ (List.mem_of_getElem? (i := 10) rfl))) (mvT hZ (hw _ (List.mem_of_getElem? (i := 11) rfl))) (mvT hZ (hw _ (List.mem_of_getElem? (i := 12) rfl))) (by decide) (backOf (W := 1) (rm1 l Z a0 hw [] cc (880 : Int32) h35 n0 (Nat.le_trans Z0 K35.1)) hZ (hw _ (List.mem_of_getElem? (i := 12) rfl)) (hw _ (List.mem_of_getElem? (i := 11) rfl)) (by decide) (by decide)) (g := (mkF m 376 #[.val (.int p1), .val (.int p2), .val (.int p3), .val (.int p4), .val (.ref b5), .val (.int (p4 &&& (3 : Int32))), .val (.int cc), .unset, .unset] [(.int (880 : Int32)), (.int cc), (.int ((((((((((((own_ge cc (65 : Int32)) + (own_ge cc (91 : Int32))) + (own_ge cc (95 : Int32))) + (own_ge cc (96 : Int32))) + (own_ge cc (97 : Int32))) + (own_ge cc (123 : Int32))) + (own_ge cc (192 : Int32))) + (own_ge cc (215 : Int32))) + (own_ge cc (216 : Int32))) + (own_ge cc (247 : Int32))) + (own_ge cc (248 : Int32))) + (own_ge cc (768 : Int32))))])) rfl (by rw [hml]; rfl) (argsL := [(.int cc), (.int (880 : Int32))]) (rest := [(.int ((((((((((((own_ge cc (65 : Int32)) + (own_ge cc (91 : Int32))) + (own_ge cc (95 : Int32))) + (own_ge cc (96 : Int32))) + (own_ge cc (97 : Int32))) + (own_ge cc (123 : Int32))) + (own_ge cc (192 : Int32))) + (own_ge cc (215 : Int32))) + (own_ge cc (216 : Int32))) + (own_ge cc (247 : Int32))) + (own_ge cc (248 : Int32))) + (own_ge cc (768 : Int32))))]) (lenOf pd_0_0 rfl) rfl (by show 2 * 0 + _ ≤ _; exact Nat.le_of_eq rfl) (hb hby at_376) (fun _ _ => ⟨rfl, e59q, (by decide : 1 + 0 ≤ _), (by decide : 30 + 0 ≤ _)⟩)
  dsimp only [Pt.U, Pt.locs, Pt.cells, Pt.slots] at X61 l61 y61 z61 st61 hQ61
  subst l61 y61 z61
  obtain ⟨rfl, N61q, e61q⟩ := hQ61
  have N61 := Fr.app N59 N61q
  obtain ⟨LL61, X61, N61⟩ : ∃ LL, Stand p l e room_1 s m #[(.int p1), (.int p2), (.int p3), (.int p4)] below meth c T61 LL 1 30 ∧ Fr n0 LL := ⟨_, X61, N61⟩
  obtain ⟨_, _, ⟨T63, L63, k63, n63⟩, -, X63, ⟨Lc63, hQ63, l63, y63, z63⟩, st63⟩ := Jvm.LawKit.callS X61 hx (y := (⟨"com/example/coarsen/coarsen/xml/XmlNamesIsNameStartCharPinLaw", "ge", "(II)I"⟩ : MethodName)) hown (mvT hZ (hw _ (List.mem_of_getElem? (i := 9) rfl))) (mvT hZ (hw _ (List.mem_of_getElem? (i := 10) rfl))) (mvT hZ (hw _ (List.mem_of_getElem? (i := 11) rfl))) (mvT hZ (hw _ (List.mem_of_getElem? (i := 12) rfl))) (by decide) (backOf (W := 1) (rm1 l Z a0 hw [] cc (894 : Int32) h35 n0 (Nat.le_trans Z0 K35.1)) hZ (hw _ (List.mem_of_getElem? (i := 12) rfl)) (hw _ (List.mem_of_getElem? (i := 11) rfl)) (by decide) (by decide)) (g := (mkF m 387 #[.val (.int p1), .val (.int p2), .val (.int p3), .val (.int p4), .val (.ref b5), .val (.int (p4 &&& (3 : Int32))), .val (.int cc), .unset, .unset] [(.int (894 : Int32)), (.int cc), (.int (((((((((((((own_ge cc (65 : Int32)) + (own_ge cc (91 : Int32))) + (own_ge cc (95 : Int32))) + (own_ge cc (96 : Int32))) + (own_ge cc (97 : Int32))) + (own_ge cc (123 : Int32))) + (own_ge cc (192 : Int32))) + (own_ge cc (215 : Int32))) + (own_ge cc (216 : Int32))) + (own_ge cc (247 : Int32))) + (own_ge cc (248 : Int32))) + (own_ge cc (768 : Int32))) + (own_ge cc (880 : Int32))))])) rfl (by rw [hml]; rfl) (argsL := [(.int cc), (.int (894 : Int32))]) (rest := [(.int (((((((((((((own_ge cc (65 : Int32)) + (own_ge cc (91 : Int32))) + (own_ge cc (95 : Int32))) + (own_ge cc (96 : Int32))) + (own_ge cc (97 : Int32))) + (own_ge cc (123 : Int32))) + (own_ge cc (192 : Int32))) + (own_ge cc (215 : Int32))) + (own_ge cc (216 : Int32))) + (own_ge cc (247 : Int32))) + (own_ge cc (248 : Int32))) + (own_ge cc (768 : Int32))) + (own_ge cc (880 : Int32))))]) (lenOf pd_0_0 rfl) rfl (by show 2 * 0 + _ ≤ _; exact Nat.le_of_eq rfl) (hb hby at_387) (fun _ _ => ⟨rfl, e61q, (by decide : 1 + 0 ≤ _), (by decide : 30 + 0 ≤ _)⟩)
  dsimp only [Pt.U, Pt.locs, Pt.cells, Pt.slots] at X63 l63 y63 z63 st63 hQ63
  subst l63 y63 z63
  obtain ⟨rfl, N63q, e63q⟩ := hQ63
  have N63 := Fr.app N61 N63q
  obtain ⟨LL63, X63, N63⟩ : ∃ LL, Stand p l e room_1 s m #[(.int p1), (.int p2), (.int p3), (.int p4)] below meth c T63 LL 1 30 ∧ Fr n0 LL := ⟨_, X63, N63⟩
  obtain ⟨_, _, ⟨T65, L65, k65, n65⟩, -, X65, ⟨Lc65, hQ65, l65, y65, z65⟩, st65⟩ := Jvm.LawKit.callS X63 hx (y := (⟨"com/example/coarsen/coarsen/xml/XmlNamesIsNameStartCharPinLaw", "ge", "(II)I"⟩ : MethodName)) hown (mvT hZ (hw _ (List.mem_of_getElem? (i := 9) rfl))) (mvT hZ (hw _ (List.mem_of_getElem? (i := 10) rfl))) (mvT hZ (hw _ (List.mem_of_getElem? (i := 11) rfl))) (mvT hZ (hw _ (List.mem_of_getElem? (i := 12) rfl))) (by decide) (backOf (W := 1) (rm1 l Z a0 hw [] cc (895 : Int32) h35 n0 (Nat.le_trans Z0 K35.1)) hZ (hw _ (List.mem_of_getElem? (i := 12) rfl)) (hw _ (List.mem_of_getElem? (i := 11) rfl)) (by decide) (by decide)) (g := (mkF m 398 #[.val (.int p1), .val (.int p2), .val (.int p3), .val (.int p4), .val (.ref b5), .val (.int (p4 &&& (3 : Int32))), .val (.int cc), .unset, .unset] [(.int (895 : Int32)), (.int cc), (.int ((((((((((((((own_ge cc (65 : Int32)) + (own_ge cc (91 : Int32))) + (own_ge cc (95 : Int32))) + (own_ge cc (96 : Int32))) + (own_ge cc (97 : Int32))) + (own_ge cc (123 : Int32))) + (own_ge cc (192 : Int32))) + (own_ge cc (215 : Int32))) + (own_ge cc (216 : Int32))) + (own_ge cc (247 : Int32))) + (own_ge cc (248 : Int32))) + (own_ge cc (768 : Int32))) + (own_ge cc (880 : Int32))) + (own_ge cc (894 : Int32))))])) rfl (by rw [hml]; rfl) (argsL := [(.int cc), (.int (895 : Int32))]) (rest := [(.int ((((((((((((((own_ge cc (65 : Int32)) + (own_ge cc (91 : Int32))) + (own_ge cc (95 : Int32))) + (own_ge cc (96 : Int32))) + (own_ge cc (97 : Int32))) + (own_ge cc (123 : Int32))) + (own_ge cc (192 : Int32))) + (own_ge cc (215 : Int32))) + (own_ge cc (216 : Int32))) + (own_ge cc (247 : Int32))) + (own_ge cc (248 : Int32))) + (own_ge cc (768 : Int32))) + (own_ge cc (880 : Int32))) + (own_ge cc (894 : Int32))))]) (lenOf pd_0_0 rfl) rfl (by show 2 * 0 + _ ≤ _; exact Nat.le_of_eq rfl) (hb hby at_398) (fun _ _ => ⟨rfl, e63q, (by decide : 1 + 0 ≤ _), (by decide : 30 + 0 ≤ _)⟩)
  dsimp only [Pt.U, Pt.locs, Pt.cells, Pt.slots] at X65 l65 y65 z65 st65 hQ65
  subst l65 y65 z65
  obtain ⟨rfl, N65q, e65q⟩ := hQ65
  have N65 := Fr.app N63 N65q
  obtain ⟨LL65, X65, N65⟩ : ∃ LL, Stand p l e room_1 s m #[(.int p1), (.int p2), (.int p3), (.int p4)] below meth c T65 LL 1 30 ∧ Fr n0 LL := ⟨_, X65, N65⟩
  obtain ⟨_, _, ⟨T67, L67, k67, n67⟩, -, X67, ⟨Lc67, hQ67, l67, y67, z67⟩, st67⟩ := Jvm.LawKit.callS X65 hx (y := (⟨"com/example/coarsen/coarsen/xml/XmlNamesIsNameStartCharPinLaw", "ge", "(II)I"⟩ : MethodName)) hown (mvT hZ (hw _ (List.mem_of_getElem? (i := 9) rfl))) (mvT hZ (hw _ (List.mem_of_getElem? (i := 10) rfl))) (mvT hZ (hw _ (List.mem_of_getElem? (i := 11) rfl))) (mvT hZ (hw _ (List.mem_of_getElem? (i := 12) rfl))) (by decide) (backOf (W := 1) (rm1 l Z a0 hw [] cc (8192 : Int32) h35 n0 (Nat.le_trans Z0 K35.1)) hZ (hw _ (List.mem_of_getElem? (i := 12) rfl)) (hw _ (List.mem_of_getElem? (i := 11) rfl)) (by decide) (by decide)) (g := (mkF m 409 #[.val (.int p1), .val (.int p2), .val (.int p3), .val (.int p4), .val (.ref b5), .val (.int (p4 &&& (3 : Int32))), .val (.int cc), .unset, .unset] [(.int (8192 : Int32)), (.int cc), (.int (((((((((((((((own_ge cc (65 : Int32)) + (own_ge cc (91 : Int32))) + (own_ge cc (95 : Int32))) + (own_ge cc (96 : Int32))) + (own_ge cc (97 : Int32))) + (own_ge cc (123 : Int32))) + (own_ge cc (192 : Int32))) + (own_ge cc (215 : Int32))) + (own_ge cc (216 : Int32))) + (own_ge cc (247 : Int32))) + (own_ge cc (248 : Int32))) + (own_ge cc (768 : Int32))) + (own_ge cc (880 : Int32))) + (own_ge cc (894 : Int32))) + (own_ge cc (895 : Int32))))])) rfl (by rw [hml]; rfl) (argsL := [(.int cc), (.int (8192 : Int32))]) (rest := [(.int (((((((((((((((own_ge cc (65 : Int32)) + (own_ge cc (91 : Int32))) + (own_ge cc (95 : Int32))) + (own_ge cc (96 : Int32))) + (own_ge cc (97 : Int32))) + (own_ge cc (123 : Int32))) + (own_ge cc (192 : Int32))) + (own_ge cc (215 : Int32))) + (own_ge cc (216 : Int32))) + (own_ge cc (247 : Int32))) + (own_ge cc (248 : Int32))) + (own_ge cc (768 : Int32))) + (own_ge cc (880 : Int32))) + (own_ge cc (894 : Int32))) + (own_ge cc (895 : Int32))))]) (lenOf pd_0_0 rfl) rfl (by show 2 * 0 + _ ≤ _; exact Nat.le_of_eq rfl) (hb hby at_409) (fun _ _ => ⟨rfl, e65q, (by decide : 1 + 0 ≤ _), (by decide : 30 + 0 ≤ _)⟩)
  dsimp only [Pt.U, Pt.locs, Pt.cells, Pt.slots] at X67 l67 y67 z67 st67 hQ67
  subst l67 y67 z67
  obtain ⟨rfl, N67q, e67q⟩ := hQ67
  have N67 := Fr.app N65 N67q
  obtain ⟨LL67, X67, N67⟩ : ∃ LL, Stand p l e room_1 s m #[(.int p1), (.int p2), (.int p3), (.int p4)] below meth c T67 LL 1 30 ∧ Fr n0 LL := ⟨_, X67, N67⟩
  obtain ⟨_, _, ⟨T69, L69, k69, n69⟩, -, X69, ⟨Lc69, hQ69, l69, y69, z69⟩, st69⟩ := Jvm.LawKit.callS X67 hx (y := (⟨"com/example/coarsen/coarsen/xml/XmlNamesIsNameStartCharPinLaw", "ge", "(II)I"⟩ : MethodName)) hown (mvT hZ (hw _ (List.mem_of_getElem? (i := 9) rfl))) (mvT hZ (hw _ (List.mem_of_getElem? (i := 10) rfl))) (mvT hZ (hw _ (List.mem_of_getElem? (i := 11) rfl))) (mvT hZ (hw _ (List.mem_of_getElem? (i := 12) rfl))) (by decide) (backOf (W := 1) (rm1 l Z a0 hw [] cc (8204 : Int32) h35 n0 (Nat.le_trans Z0 K35.1)) hZ (hw _ (List.mem_of_getElem? (i := 12) rfl)) (hw _ (List.mem_of_getElem? (i := 11) rfl)) (by decide) (by decide)) (g := (mkF m 420 #[.val (.int p1), .val (.int p2), .val (.int p3), .val (.int p4), .val (.ref b5), .val (.int (p4 &&& (3 : Int32))), .val (.int cc), .unset, .unset] [(.int (8204 : Int32)), (.int cc), (.int ((((((((((((((((own_ge cc (65 : Int32)) + (own_ge cc (91 : Int32))) + (own_ge cc (95 : Int32))) + (own_ge cc (96 : Int32))) + (own_ge cc (97 : Int32))) + (own_ge cc (123 : Int32))) + (own_ge cc (192 : Int32))) + (own_ge cc (215 : Int32))) + (own_ge cc (216 : Int32))) + (own_ge cc (247 : Int32))) + (own_ge cc (248 : Int32))) + (own_ge cc (768 : Int32))) + (own_ge cc (880 : Int32))) + (own_ge cc (894 : Int32))) + (own_ge cc (895 : Int32))) + (own_ge cc (8192 : Int32))))])) rfl (by rw [hml]; rfl) (argsL := [(.int cc), (.int (8204 : Int32))]) (rest := [(.int ((((((((((((((((own_ge cc (65 : Int32)) + (own_ge cc (91 : Int32))) + (own_ge cc (95 : Int32))) + (own_ge cc (96 : Int32))) + (own_ge cc (97 : Int32))) + (own_ge cc (123 : Int32))) + (own_ge cc (192 : Int32))) + (own_ge cc (215 : Int32))) + (own_ge cc (216 : Int32))) + (own_ge cc (247 : Int32))) + (own_ge cc (248 : Int32))) + (own_ge cc (768 : Int32))) + (own_ge cc (880 : Int32))) + (own_ge cc (894 : Int32))) + (own_ge cc (895 : Int32))) + (own_ge cc (8192 : Int32))))]) (lenOf pd_0_0 rfl) rfl (by show 2 * 0 + _ ≤ _; exact Nat.le_of_eq rfl) (hb hby at_420) (fun _ _ => ⟨rfl, e67q, (by decide : 1 + 0 ≤ _), (by decide : 30 + 0 ≤ _)⟩)
  dsimp only [Pt.U, Pt.locs, Pt.cells, Pt.slots] at X69 l69 y69 z69 st69 hQ69
  subst l69 y69 z69
  obtain ⟨rfl, N69q, e69q⟩ := hQ69
  have N69 := Fr.app N67 N69q
  obtain ⟨LL69, X69, N69⟩ : ∃ LL, Stand p l e room_1 s m #[(.int p1), (.int p2), (.int p3), (.int p4)] below meth c T69 LL 1 30 ∧ Fr n0 LL := ⟨_, X69, N69⟩
  obtain ⟨_, _, ⟨T71, L71, k71, n71⟩, -, X71, ⟨Lc71, hQ71, l71, y71, z71⟩, st71⟩ := Jvm.LawKit.callS X69 hx (y := (⟨"com/example/coarsen/coarsen/xml/XmlNamesIsNameStartCharPinLaw", "ge", "(II)I"⟩ : MethodName)) hown (mvT hZ (hw _ (List.mem_of_getElem? (i := 9) rfl))) (mvT hZ (hw _ (List.mem_of_getElem? (i := 10) rfl))) (mvT hZ (hw _ (List.mem_of_getElem? (i := 11) rfl))) (mvT hZ (hw _ (List.mem_of_getElem? (i := 12) rfl))) (by decide) (backOf (W := 1) (rm1 l Z a0 hw [] cc (8206 : Int32) h35 n0 (Nat.le_trans Z0 K35.1)) hZ (hw _ (List.mem_of_getElem? (i := 12) rfl)) (hw _ (List.mem_of_getElem? (i := 11) rfl)) (by decide) (by decide)) (g := (mkF m 431 #[.val (.int p1), .val (.int p2), .val (.int p3), .val (.int p4), .val (.ref b5), .val (.int (p4 &&& (3 : Int32))), .val (.int cc), .unset, .unset] [(.int (8206 : Int32)), (.int cc), (.int (((((((((((((((((own_ge cc (65 : Int32)) + (own_ge cc (91 : Int32))) + (own_ge cc (95 : Int32))) + (own_ge cc (96 : Int32))) + (own_ge cc (97 : Int32))) + (own_ge cc (123 : Int32))) + (own_ge cc (192 : Int32))) + (own_ge cc (215 : Int32))) + (own_ge cc (216 : Int32))) + (own_ge cc (247 : Int32))) + (own_ge cc (248 : Int32))) + (own_ge cc (768 : Int32))) + (own_ge cc (880 : Int32))) + (own_ge cc (894 : Int32))) + (own_ge cc (895 : Int32))) + (own_ge cc (8192 : Int32))) + (own_ge cc (8204 : Int32))))])) rfl (by rw [hml]; rfl) (argsL := [(.int cc), (.int (8206 : Int32))]) (rest := [(.int (((((((((((((((((own_ge cc (65 : Int32)) + (own_ge cc (91 : Int32))) + (own_ge cc (95 : Int32))) + (own_ge cc (96 : Int32))) + (own_ge cc (97 : Int32))) + (own_ge cc (123 : Int32))) + (own_ge cc (192 : Int32))) + (own_ge cc (215 : Int32))) + (own_ge cc (216 : Int32))) + (own_ge cc (247 : Int32))) + (own_ge cc (248 : Int32))) + (own_ge cc (768 : Int32))) + (own_ge cc (880 : Int32))) + (own_ge cc (894 : Int32))) + (own_ge cc (895 : Int32))) + (own_ge cc (8192 : Int32))) + (own_ge cc (8204 : Int32))))]) (lenOf pd_0_0 rfl) rfl (by show 2 * 0 + _ ≤ _; exact Nat.le_of_eq rfl) (hb hby at_431) (fun _ _ => ⟨rfl, e69q, (by decide : 1 + 0 ≤ _), (by decide : 30 + 0 ≤ _)⟩)
  dsimp only [Pt.U, Pt.locs, Pt.cells, Pt.slots] at X71 l71 y71 z71 st71 hQ71
  subst l71 y71 z71
  obtain ⟨rfl, N71q, e71q⟩ := hQ71
  have N71 := Fr.app N69 N71q
  obtain ⟨LL71, X71, N71⟩ : ∃ LL, Stand p l e room_1 s m #[(.int p1), (.int p2), (.int p3), (.int p4)] below meth c T71 LL 1 30 ∧ Fr n0 LL := ⟨_, X71, N71⟩
  obtain ⟨_, _, ⟨T73, L73, k73, n73⟩, -, X73, ⟨Lc73, hQ73, l73, y73, z73⟩, st73⟩ := Jvm.LawKit.callS X71 hx (y := (⟨"com/example/coarsen/coarsen/xml/XmlNamesIsNameStartCharPinLaw", "ge", "(II)I"⟩ : MethodName)) hown (mvT hZ (hw _ (List.mem_of_getElem? (i := 9) rfl))) (mvT hZ (hw _ (List.mem_of_getElem? (i := 10) rfl))) (mvT hZ (hw _ (List.mem_of_getElem? (i := 11) rfl))) (mvT hZ (hw _ (List.mem_of_getElem? (i := 12) rfl))) (by decide) (backOf (W := 1) (rm1 l Z a0 hw [] cc (8304 : Int32) h35 n0 (Nat.le_trans Z0 K35.1)) hZ (hw _ (List.mem_of_getElem? (i := 12) rfl)) (hw _ (List.mem_of_getElem? (i := 11) rfl)) (by decide) (by decide)) (g := (mkF m 442 #[.val (.int p1), .val (.int p2), .val (.int p3), .val (.int p4), .val (.ref b5), .val (.int (p4 &&& (3 : Int32))), .val (.int cc), .unset, .unset] [(.int (8304 : Int32)), (.int cc), (.int ((((((((((((((((((own_ge cc (65 : Int32)) + (own_ge cc (91 : Int32))) + (own_ge cc (95 : Int32))) + (own_ge cc (96 : Int32))) + (own_ge cc (97 : Int32))) + (own_ge cc (123 : Int32))) + (own_ge cc (192 : Int32))) + (own_ge cc (215 : Int32))) + (own_ge cc (216 : Int32))) + (own_ge cc (247 : Int32))) + (own_ge cc (248 : Int32))) + (own_ge cc (768 : Int32))) + (own_ge cc (880 : Int32))) + (own_ge cc (894 : Int32))) + (own_ge cc (895 : Int32))) + (own_ge cc (8192 : Int32))) + (own_ge cc (8204 : Int32))) + (own_ge cc (8206 : Int32))))])) rfl (by rw [hml]; rfl) (argsL := [(.int cc), (.int (8304 : Int32))]) (rest := [(.int ((((((((((((((((((own_ge cc (65 : Int32)) + (own_ge cc (91 : Int32))) + (own_ge cc (95 : Int32))) + (own_ge cc (96 : Int32))) + (own_ge cc (97 : Int32))) + (own_ge cc (123 : Int32))) + (own_ge cc (192 : Int32))) + (own_ge cc (215 : Int32))) + (own_ge cc (216 : Int32))) + (own_ge cc (247 : Int32))) + (own_ge cc (248 : Int32))) + (own_ge cc (768 : Int32))) + (own_ge cc (880 : Int32))) + (own_ge cc (894 : Int32))) + (own_ge cc (895 : Int32))) + (own_ge cc (8192 : Int32))) + (own_ge cc (8204 : Int32))) + (own_ge cc (8206 : Int32))))]) (lenOf pd_0_0 rfl) rfl (by show 2 * 0 + _ ≤ _; exact Nat.le_of_eq rfl) (hb hby at_442) (fun _ _ => ⟨rfl, e71q, (by decide : 1 + 0 ≤ _), (by decide : 30 + 0 ≤ _)⟩)
  dsimp only [Pt.U, Pt.locs, Pt.cells, Pt.slots] at X73 l73 y73 z73 st73 hQ73
  subst l73 y73 z73
  obtain ⟨rfl, N73q, e73q⟩ := hQ73
  have N73 := Fr.app N71 N73q
  obtain ⟨LL73, X73, N73⟩ : ∃ LL, Stand p l e room_1 s m #[(.int p1), (.int p2), (.int p3), (.int p4)] below meth c T73 LL 1 30 ∧ Fr n0 LL := ⟨_, X73, N73⟩
  obtain ⟨_, _, ⟨T75, L75, k75, n75⟩, -, X75, ⟨Lc75, hQ75, l75, y75, z75⟩, st75⟩ := Jvm.LawKit.callS X73 hx (y := (⟨"com/example/coarsen/coarsen/xml/XmlNamesIsNameStartCharPinLaw", "ge", "(II)I"⟩ : MethodName)) hown (mvT hZ (hw _ (List.mem_of_getElem? (i := 9) rfl))) (mvT hZ (hw _ (List.mem_of_getElem? (i := 10) rfl))) (mvT hZ (hw _ (List.mem_of_getElem? (i := 11) rfl))) (mvT hZ (hw _ (List.mem_of_getElem? (i := 12) rfl))) (by decide) (backOf (W := 1) (rm1 l Z a0 hw [] cc (8592 : Int32) h35 n0 (Nat.le_trans Z0 K35.1)) hZ (hw _ (List.mem_of_getElem? (i := 12) rfl)) (hw _ (List.mem_of_getElem? (i := 11) rfl)) (by decide) (by decide)) (g := (mkF m 453 #[.val (.int p1), .val (.int p2), .val (.int p3), .val (.int p4), .val (.ref b5), .val (.int (p4 &&& (3 : Int32))), .val (.int cc), .unset, .unset] [(.int (8592 : Int32)), (.int cc), (.int (((((((((((((((((((own_ge cc (65 : Int32)) + (own_ge cc (91 : Int32))) + (own_ge cc (95 : Int32))) + (own_ge cc (96 : Int32))) + (own_ge cc (97 : Int32))) + (own_ge cc (123 : Int32))) + (own_ge cc (192 : Int32))) + (own_ge cc (215 : Int32))) + (own_ge cc (216 : Int32))) + (own_ge cc (247 : Int32))) + (own_ge cc (248 : Int32))) + (own_ge cc (768 : Int32))) + (own_ge cc (880 : Int32))) + (own_ge cc (894 : Int32))) + (own_ge cc (895 : Int32))) + (own_ge cc (8192 : Int32))) + (own_ge cc (8204 : Int32))) + (own_ge cc (8206 : Int32))) + (own_ge cc (8304 : Int32))))])) rfl (by rw [hml]; rfl) (argsL := [(.int cc), (.int (8592 : Int32))]) (rest := [(.int (((((((((((((((((((own_ge cc (65 : Int32)) + (own_ge cc (91 : Int32))) + (own_ge cc (95 : Int32))) + (own_ge cc (96 : Int32))) + (own_ge cc (97 : Int32))) + (own_ge cc (123 : Int32))) + (own_ge cc (192 : Int32))) + (own_ge cc (215 : Int32))) + (own_ge cc (216 : Int32))) + (own_ge cc (247 : Int32))) + (own_ge cc (248 : Int32))) + (own_ge cc (768 : Int32))) + (own_ge cc (880 : Int32))) + (own_ge cc (894 : Int32))) + (own_ge cc (895 : Int32))) + (own_ge cc (8192 : Int32))) + (own_ge cc (8204 : Int32))) + (own_ge cc (8206 : Int32))) + (own_ge cc (8304 : Int32))))]) (lenOf pd_0_0 rfl) rfl (by show 2 * 0 + _ ≤ _; exact Nat.le_of_eq rfl) (hb hby at_453) (fun _ _ => ⟨rfl, e73q, (by decide : 1 + 0 ≤ _), (by decide : 30 + 0 ≤ _)⟩)
  dsimp only [Pt.U, Pt.locs, Pt.cells, Pt.slots] at X75 l75 y75 z75 st75 hQ75
  subst l75 y75 z75
  obtain ⟨rfl, N75q, e75q⟩ := hQ75
  have N75 := Fr.app N73 N75q
  obtain ⟨LL75, X75, N75⟩ : ∃ LL, Stand p l e room_1 s m #[(.int p1), (.int p2), (.int p3), (.int p4)] below meth c T75 LL 1 30 ∧ Fr n0 LL := ⟨_, X75, N75⟩
  obtain ⟨_, _, ⟨T77, L77, k77, n77⟩, -, X77, ⟨Lc77, hQ77, l77, y77, z77⟩, st77⟩ := Jvm.LawKit.callS X75 hx (y := (⟨"com/example/coarsen/coarsen/xml/XmlNamesIsNameStartCharPinLaw", "ge", "(II)I"⟩ : MethodName)) hown (mvT hZ (hw _ (List.mem_of_getElem? (i := 9) rfl))) (mvT hZ (hw _ (List.mem_of_getElem? (i := 10) rfl))) (mvT hZ (hw _ (List.mem_of_getElem? (i := 11) rfl))) (mvT hZ (hw _ (List.mem_of_getElem? (i := 12) rfl))) (by decide) (backOf (W := 1) (rm1 l Z a0 hw [] cc (11264 : Int32) h35 n0 (Nat.le_trans Z0 K35.1)) hZ (hw _ (List.mem_of_getElem? (i := 12) rfl)) (hw _ (List.mem_of_getElem? (i := 11) rfl)) (by decide) (by decide)) (g := (mkF m 464 #[.val (.int p1), .val (.int p2), .val (.int p3), .val (.int p4), .val (.ref b5), .val (.int (p4 &&& (3 : Int32))), .val (.int cc), .unset, .unset] [(.int (11264 : Int32)), (.int cc), (.int ((((((((((((((((((((own_ge cc (65 : Int32)) + (own_ge cc (91 : Int32))) + (own_ge cc (95 : Int32))) + (own_ge cc (96 : Int32))) + (own_ge cc (97 : Int32))) + (own_ge cc (123 : Int32))) + (own_ge cc (192 : Int32))) + (own_ge cc (215 : Int32))) + (own_ge cc (216 : Int32))) + (own_ge cc (247 : Int32))) + (own_ge cc (248 : Int32))) + (own_ge cc (768 : Int32))) + (own_ge cc (880 : Int32))) + (own_ge cc (894 : Int32))) + (own_ge cc (895 : Int32))) + (own_ge cc (8192 : Int32))) + (own_ge cc (8204 : Int32))) + (own_ge cc (8206 : Int32))) + (own_ge cc (8304 : Int32))) + (own_ge cc (8592 : Int32))))])) rfl (by rw [hml]; rfl) (argsL := [(.int cc), (.int (11264 : Int32))]) (rest := [(.int ((((((((((((((((((((own_ge cc (65 : Int32)) + (own_ge cc (91 : Int32))) + (own_ge cc (95 : Int32))) + (own_ge cc (96 : Int32))) + (own_ge cc (97 : Int32))) + (own_ge cc (123 : Int32))) + (own_ge cc (192 : Int32))) + (own_ge cc (215 : Int32))) + (own_ge cc (216 : Int32))) + (own_ge cc (247 : Int32))) + (own_ge cc (248 : Int32))) + (own_ge cc (768 : Int32))) + (own_ge cc (880 : Int32))) + (own_ge cc (894 : Int32))) + (own_ge cc (895 : Int32))) + (own_ge cc (8192 : Int32))) + (own_ge cc (8204 : Int32))) + (own_ge cc (8206 : Int32))) + (own_ge cc (8304 : Int32))) + (own_ge cc (8592 : Int32))))]) (lenOf pd_0_0 rfl) rfl (by show 2 * 0 + _ ≤ _; exact Nat.le_of_eq rfl) (hb hby at_464) (fun _ _ => ⟨rfl, e75q, (by decide : 1 + 0 ≤ _), (by decide : 30 + 0 ≤ _)⟩)
  dsimp only [Pt.U, Pt.locs, Pt.cells, Pt.slots] at X77 l77 y77 z77 st77 hQ77
  subst l77 y77 z77
  obtain ⟨rfl, N77q, e77q⟩ := hQ77
  have N77 := Fr.app N75 N77q
  obtain ⟨LL77, X77, N77⟩ : ∃ LL, Stand p l e room_1 s m #[(.int p1), (.int p2), (.int p3), (.int p4)] below meth c T77 LL 1 30 ∧ Fr n0 LL := ⟨_, X77, N77⟩
  obtain ⟨_, _, ⟨T79, L79, k79, n79⟩, -, X79, ⟨Lc79, hQ79, l79, y79, z79⟩, st79⟩ := Jvm.LawKit.callS X77 hx (y := (⟨"com/example/coarsen/coarsen/xml/XmlNamesIsNameStartCharPinLaw", "ge", "(II)I"⟩ : MethodName)) hown (mvT hZ (hw _ (List.mem_of_getElem? (i := 9) rfl))) (mvT hZ (hw _ (List.mem_of_getElem? (i := 10) rfl))) (mvT hZ (hw _ (List.mem_of_getElem? (i := 11) rfl))) (mvT hZ (hw _ (List.mem_of_getElem? (i := 12) rfl))) (by decide) (backOf (W := 1) (rm1 l Z a0 hw [] cc (12272 : Int32) h35 n0 (Nat.le_trans Z0 K35.1)) hZ (hw _ (List.mem_of_getElem? (i := 12) rfl)) (hw _ (List.mem_of_getElem? (i := 11) rfl)) (by decide) (by decide)) (g := (mkF m 475 #[.val (.int p1), .val (.int p2), .val (.int p3), .val (.int p4), .val (.ref b5), .val (.int (p4 &&& (3 : Int32))), .val (.int cc), .unset, .unset] [(.int (12272 : Int32)), (.int cc), (.int (((((((((((((((((((((own_ge cc (65 : Int32)) + (own_ge cc (91 : Int32))) + (own_ge cc (95 : Int32))) + (own_ge cc (96 : Int32))) + (own_ge cc (97 : Int32))) + (own_ge cc (123 : Int32))) + (own_ge cc (192 : Int32))) + (own_ge cc (215 : Int32))) + (own_ge cc (216 : Int32))) + (own_ge cc (247 : Int32))) + (own_ge cc (248 : Int32))) + (own_ge cc (768 : Int32))) + (own_ge cc (880 : Int32))) + (own_ge cc (894 : Int32))) + (own_ge cc (895 : Int32))) + (own_ge cc (8192 : Int32))) + (own_ge cc (8204 : Int32))) + (own_ge cc (8206 : Int32))) + (own_ge cc (8304 : Int32))) + (own_ge cc (8592 : Int32))) + (own_ge cc (11264 : Int32))))])) rfl (by rw [hml]; rfl) (argsL := [(.int cc), (.int (12272 : Int32))]) (rest := [(.int (((((((((((((((((((((own_ge cc (65 : Int32)) + (own_ge cc (91 : Int32))) + (own_ge cc (95 : Int32))) + (own_ge cc (96 : Int32))) + (own_ge cc (97 : Int32))) + (own_ge cc (123 : Int32))) + (own_ge cc (192 : Int32))) + (own_ge cc (215 : Int32))) + (own_ge cc (216 : Int32))) + (own_ge cc (247 : Int32))) + (own_ge cc (248 : Int32))) + (own_ge cc (768 : Int32))) + (own_ge cc (880 : Int32))) + (own_ge cc (894 : Int32))) + (own_ge cc (895 : Int32))) + (own_ge cc (8192 : Int32))) + (own_ge cc (8204 : Int32))) + (own_ge cc (8206 : Int32))) + (own_ge cc (8304 : Int32))) + (own_ge cc (8592 : Int32))) + (own_ge cc (11264 : Int32))))]) (lenOf pd_0_0 rfl) rfl (by show 2 * 0 + _ ≤ _; exact Nat.le_of_eq rfl) (hb hby at_475) (fun _ _ => ⟨rfl, e77q, (by decide : 1 + 0 ≤ _), (by decide : 30 + 0 ≤ _)⟩)
  dsimp only [Pt.U, Pt.locs, Pt.cells, Pt.slots] at X79 l79 y79 z79 st79 hQ79
  subst l79 y79 z79
  obtain ⟨rfl, N79q, e79q⟩ := hQ79
  have N79 := Fr.app N77 N79q
  obtain ⟨LL79, X79, N79⟩ : ∃ LL, Stand p l e room_1 s m #[(.int p1), (.int p2), (.int p3), (.int p4)] below meth c T79 LL 1 30 ∧ Fr n0 LL := ⟨_, X79, N79⟩
  obtain ⟨_, _, ⟨T81, L81, k81, n81⟩, -, X81, ⟨Lc81, hQ81, l81, y81, z81⟩, st81⟩ := Jvm.LawKit.callS X79 hx (y := (⟨"com/example/coarsen/coarsen/xml/XmlNamesIsNameStartCharPinLaw", "ge", "(II)I"⟩ : MethodName)) hown (mvT hZ (hw _ (List.mem_of_getElem? (i := 9) rfl))) (mvT hZ (hw _ (List.mem_of_getElem? (i := 10) rfl))) (mvT hZ (hw _ (List.mem_of_getElem? (i := 11) rfl))) (mvT hZ (hw _ (List.mem_of_getElem? (i := 12) rfl))) (by decide) (backOf (W := 1) (rm1 l Z a0 hw [] cc (12289 : Int32) h35 n0 (Nat.le_trans Z0 K35.1)) hZ (hw _ (List.mem_of_getElem? (i := 12) rfl)) (hw _ (List.mem_of_getElem? (i := 11) rfl)) (by decide) (by decide)) (g := (mkF m 486 #[.val (.int p1), .val (.int p2), .val (.int p3), .val (.int p4), .val (.ref b5), .val (.int (p4 &&& (3 : Int32))), .val (.int cc), .unset, .unset] [(.int (12289 : Int32)), (.int cc), (.int ((((((((((((((((((((((own_ge cc (65 : Int32)) + (own_ge cc (91 : Int32))) + (own_ge cc (95 : Int32))) + (own_ge cc (96 : Int32))) + (own_ge cc (97 : Int32))) + (own_ge cc (123 : Int32))) + (own_ge cc (192 : Int32))) + (own_ge cc (215 : Int32))) + (own_ge cc (216 : Int32))) + (own_ge cc (247 : Int32))) + (own_ge cc (248 : Int32))) + (own_ge cc (768 : Int32))) + (own_ge cc (880 : Int32))) + (own_ge cc (894 : Int32))) + (own_ge cc (895 : Int32))) + (own_ge cc (8192 : Int32))) + (own_ge cc (8204 : Int32))) + (own_ge cc (8206 : Int32))) + (own_ge cc (8304 : Int32))) + (own_ge cc (8592 : Int32))) + (own_ge cc (11264 : Int32))) + (own_ge cc (12272 : Int32))))])) rfl (by rw [hml]; rfl) (argsL := [(.int cc), (.int (12289 : Int32))]) (rest := [(.int ((((((((((((((((((((((own_ge cc (65 : Int32)) + (own_ge cc (91 : Int32))) + (own_ge cc (95 : Int32))) + (own_ge cc (96 : Int32))) + (own_ge cc (97 : Int32))) + (own_ge cc (123 : Int32))) + (own_ge cc (192 : Int32))) + (own_ge cc (215 : Int32))) + (own_ge cc (216 : Int32))) + (own_ge cc (247 : Int32))) + (own_ge cc (248 : Int32))) + (own_ge cc (768 : Int32))) + (own_ge cc (880 : Int32))) + (own_ge cc (894 : Int32))) + (own_ge cc (895 : Int32))) + (own_ge cc (8192 : Int32))) + (own_ge cc (8204 : Int32))) + (own_ge cc (8206 : Int32))) + (own_ge cc (8304 : Int32))) + (own_ge cc (8592 : Int32))) + (own_ge cc (11264 : Int32))) + (own_ge cc (12272 : Int32))))]) (lenOf pd_0_0 rfl) rfl (by show 2 * 0 + _ ≤ _; exact Nat.le_of_eq rfl) (hb hby at_486) (fun _ _ => ⟨rfl, e79q, (by decide : 1 + 0 ≤ _), (by decide : 30 + 0 ≤ _)⟩)
  dsimp only [Pt.U, Pt.locs, Pt.cells, Pt.slots] at X81 l81 y81 z81 st81 hQ81
  subst l81 y81 z81
  obtain ⟨rfl, N81q, e81q⟩ := hQ81
  have N81 := Fr.app N79 N81q
  obtain ⟨LL81, X81, N81⟩ : ∃ LL, Stand p l e room_1 s m #[(.int p1), (.int p2), (.int p3), (.int p4)] below meth c T81 LL 1 30 ∧ Fr n0 LL := ⟨_, X81, N81⟩
  obtain ⟨_, _, ⟨T83, L83, k83, n83⟩, -, X83, ⟨Lc83, hQ83, l83, y83, z83⟩, st83⟩ := Jvm.LawKit.callS X81 hx (y := (⟨"com/example/coarsen/coarsen/xml/XmlNamesIsNameStartCharPinLaw", "ge", "(II)I"⟩ : MethodName)) hown (mvT hZ (hw _ (List.mem_of_getElem? (i := 9) rfl))) (mvT hZ (hw _ (List.mem_of_getElem? (i := 10) rfl))) (mvT hZ (hw _ (List.mem_of_getElem? (i := 11) rfl))) (mvT hZ (hw _ (List.mem_of_getElem? (i := 12) rfl))) (by decide) (backOf (W := 1) (rm1 l Z a0 hw [] cc (55296 : Int32) h35 n0 (Nat.le_trans Z0 K35.1)) hZ (hw _ (List.mem_of_getElem? (i := 12) rfl)) (hw _ (List.mem_of_getElem? (i := 11) rfl)) (by decide) (by decide)) (g := (mkF m 497 #[.val (.int p1), .val (.int p2), .val (.int p3), .val (.int p4), .val (.ref b5), .val (.int (p4 &&& (3 : Int32))), .val (.int cc), .unset, .unset] [(.int (55296 : Int32)), (.int cc), (.int (((((((((((((((((((((((own_ge cc (65 : Int32)) + (own_ge cc (91 : Int32))) + (own_ge cc (95 : Int32))) + (own_ge cc (96 : Int32))) + (own_ge cc (97 : Int32))) + (own_ge cc (123 : Int32))) + (own_ge cc (192 : Int32))) + (own_ge cc (215 : Int32))) + (own_ge cc (216 : Int32))) + (own_ge cc (247 : Int32))) + (own_ge cc (248 : Int32))) + (own_ge cc (768 : Int32))) + (own_ge cc (880 : Int32))) + (own_ge cc (894 : Int32))) + (own_ge cc (895 : Int32))) + (own_ge cc (8192 : Int32))) + (own_ge cc (8204 : Int32))) + (own_ge cc (8206 : Int32))) + (own_ge cc (8304 : Int32))) + (own_ge cc (8592 : Int32))) + (own_ge cc (11264 : Int32))) + (own_ge cc (12272 : Int32))) + (own_ge cc (12289 : Int32))))])) rfl (by rw [hml]; rfl) (argsL := [(.int cc), (.int (55296 : Int32))]) (rest := [(.int (((((((((((((((((((((((own_ge cc (65 : Int32)) + (own_ge cc (91 : Int32))) + (own_ge cc (95 : Int32))) + (own_ge cc (96 : Int32))) + (own_ge cc (97 : Int32))) + (own_ge cc (123 : Int32))) + (own_ge cc (192 : Int32))) + (own_ge cc (215 : Int32))) + (own_ge cc (216 : Int32))) + (own_ge cc (247 : Int32))) + (own_ge cc (248 : Int32))) + (own_ge cc (768 : Int32))) + (own_ge cc (880 : Int32))) + (own_ge cc (894 : Int32))) + (own_ge cc (895 : Int32))) + (own_ge cc (8192 : Int32))) + (own_ge cc (8204 : Int32))) + (own_ge cc (8206 : Int32))) + (own_ge cc (8304 : Int32))) + (own_ge cc (8592 : Int32))) + (own_ge cc (11264 : Int32))) + (own_ge cc (12272 : Int32))) + (own_ge cc (12289 : Int32))))]) (lenOf pd_0_0 rfl) rfl (by show 2 * 0 + _ ≤ _; exact Nat.le_of_eq rfl) (hb hby at_497) (fun _ _ => ⟨rfl, e81q, (by decide : 1 + 0 ≤ _), (by decide : 30 + 0 ≤ _)⟩)
  dsimp only [Pt.U, Pt.locs, Pt.cells, Pt.slots] at X83 l83 y83 z83 st83 hQ83
  subst l83 y83 z83
  obtain ⟨rfl, N83q, e83q⟩ := hQ83
  have N83 := Fr.app N81 N83q
  obtain ⟨LL83, X83, N83⟩ : ∃ LL, Stand p l e room_1 s m #[(.int p1), (.int p2), (.int p3), (.int p4)] below meth c T83 LL 1 30 ∧ Fr n0 LL := ⟨_, X83, N83⟩
  obtain ⟨_, _, ⟨T85, L85, k85, n85⟩, -, X85, ⟨Lc85, hQ85, l85, y85, z85⟩, st85⟩ := Jvm.LawKit.callS X83 hx (y := (⟨"com/example/coarsen/coarsen/xml/XmlNamesIsNameStartCharPinLaw", "ge", "(II)I"⟩ : MethodName)) hown (mvT hZ (hw _ (List.mem_of_getElem? (i := 9) rfl))) (mvT hZ (hw _ (List.mem_of_getElem? (i := 10) rfl))) (mvT hZ (hw _ (List.mem_of_getElem? (i := 11) rfl))) (mvT hZ (hw _ (List.mem_of_getElem? (i := 12) rfl))) (by decide) (backOf (W := 1) (rm1 l Z a0 hw [] cc (63744 : Int32) h35 n0 (Nat.le_trans Z0 K35.1)) hZ (hw _ (List.mem_of_getElem? (i := 12) rfl)) (hw _ (List.mem_of_getElem? (i := 11) rfl)) (by decide) (by decide)) (g := (mkF m 508 #[.val (.int p1), .val (.int p2), .val (.int p3), .val (.int p4), .val (.ref b5), .val (.int (p4 &&& (3 : Int32))), .val (.int cc), .unset, .unset] [(.int (63744 : Int32)), (.int cc), (.int ((((((((((((((((((((((((own_ge cc (65 : Int32)) + (own_ge cc (91 : Int32))) + (own_ge cc (95 : Int32))) + (own_ge cc (96 : Int32))) + (own_ge cc (97 : Int32))) + (own_ge cc (123 : Int32))) + (own_ge cc (192 : Int32))) + (own_ge cc (215 : Int32))) + (own_ge cc (216 : Int32))) + (own_ge cc (247 : Int32))) + (own_ge cc (248 : Int32))) + (own_ge cc (768 : Int32))) + (own_ge cc (880 : Int32))) + (own_ge cc (894 : Int32))) + (own_ge cc (895 : Int32))) + (own_ge cc (8192 : Int32))) + (own_ge cc (8204 : Int32))) + (own_ge cc (8206 : Int32))) + (own_ge cc (8304 : Int32))) + (own_ge cc (8592 : Int32))) + (own_ge cc (11264 : Int32))) + (own_ge cc (12272 : Int32))) + (own_ge cc (12289 : Int32))) + (own_ge cc (55296 : Int32))))])) rfl (by rw [hml]; rfl) (argsL := [(.int cc), (.int (63744 : Int32))]) (rest := [(.int ((((((((((((((((((((((((own_ge cc (65 : Int32)) + (own_ge cc (91 : Int32))) + (own_ge cc (95 : Int32))) + (own_ge cc (96 : Int32))) + (own_ge cc (97 : Int32))) + (own_ge cc (123 : Int32))) + (own_ge cc (192 : Int32))) + (own_ge cc (215 : Int32))) + (own_ge cc (216 : Int32))) + (own_ge cc (247 : Int32))) + (own_ge cc (248 : Int32))) + (own_ge cc (768 : Int32))) + (own_ge cc (880 : Int32))) + (own_ge cc (894 : Int32))) + (own_ge cc (895 : Int32))) + (own_ge cc (8192 : Int32))) + (own_ge cc (8204 : Int32))) + (own_ge cc (8206 : Int32))) + (own_ge cc (8304 : Int32))) + (own_ge cc (8592 : Int32))) + (own_ge cc (11264 : Int32))) + (own_ge cc (12272 : Int32))) + (own_ge cc (12289 : Int32))) + (own_ge cc (55296 : Int32))))]) (lenOf pd_0_0 rfl) rfl (by show 2 * 0 + _ ≤ _; exact Nat.le_of_eq rfl) (hb hby at_508) (fun _ _ => ⟨rfl, e83q, (by decide : 1 + 0 ≤ _), (by decide : 30 + 0 ≤ _)⟩)
  dsimp only [Pt.U, Pt.locs, Pt.cells, Pt.slots] at X85 l85 y85 z85 st85 hQ85
  subst l85 y85 z85
  obtain ⟨rfl, N85q, e85q⟩ := hQ85
  have N85 := Fr.app N83 N85q
  obtain ⟨LL85, X85, N85⟩ : ∃ LL, Stand p l e room_1 s m #[(.int p1), (.int p2), (.int p3), (.int p4)] below meth c T85 LL 1 30 ∧ Fr n0 LL := ⟨_, X85, N85⟩
  obtain ⟨_, _, ⟨T87, L87, k87, n87⟩, -, X87, ⟨Lc87, hQ87, l87, y87, z87⟩, st87⟩ := Jvm.LawKit.callS X85 hx (y := (⟨"com/example/coarsen/coarsen/xml/XmlNamesIsNameStartCharPinLaw", "ge", "(II)I"⟩ : MethodName)) hown (mvT hZ (hw _ (List.mem_of_getElem? (i := 9) rfl))) (mvT hZ (hw _ (List.mem_of_getElem? (i := 10) rfl))) (mvT hZ (hw _ (List.mem_of_getElem? (i := 11) rfl))) (mvT hZ (hw _ (List.mem_of_getElem? (i := 12) rfl))) (by decide) (backOf (W := 1) (rm1 l Z a0 hw [] cc (64976 : Int32) h35 n0 (Nat.le_trans Z0 K35.1)) hZ (hw _ (List.mem_of_getElem? (i := 12) rfl)) (hw _ (List.mem_of_getElem? (i := 11) rfl)) (by decide) (by decide)) (g := (mkF m 519 #[.val (.int p1), .val (.int p2), .val (.int p3), .val (.int p4), .val (.ref b5), .val (.int (p4 &&& (3 : Int32))), .val (.int cc), .unset, .unset] [(.int (64976 : Int32)), (.int cc), (.int (((((((((((((((((((((((((own_ge cc (65 : Int32)) + (own_ge cc (91 : Int32))) + (own_ge cc (95 : Int32))) + (own_ge cc (96 : Int32))) + (own_ge cc (97 : Int32))) + (own_ge cc (123 : Int32))) + (own_ge cc (192 : Int32))) + (own_ge cc (215 : Int32))) + (own_ge cc (216 : Int32))) + (own_ge cc (247 : Int32))) + (own_ge cc (248 : Int32))) + (own_ge cc (768 : Int32))) + (own_ge cc (880 : Int32))) + (own_ge cc (894 : Int32))) + (own_ge cc (895 : Int32))) + (own_ge cc (8192 : Int32))) + (own_ge cc (8204 : Int32))) + (own_ge cc (8206 : Int32))) + (own_ge cc (8304 : Int32))) + (own_ge cc (8592 : Int32))) + (own_ge cc (11264 : Int32))) + (own_ge cc (12272 : Int32))) + (own_ge cc (12289 : Int32))) + (own_ge cc (55296 : Int32))) + (own_ge cc (63744 : Int32))))])) rfl (by rw [hml]; rfl) (argsL := [(.int cc), (.int (64976 : Int32))]) (rest := [(.int (((((((((((((((((((((((((own_ge cc (65 : Int32)) + (own_ge cc (91 : Int32))) + (own_ge cc (95 : Int32))) + (own_ge cc (96 : Int32))) + (own_ge cc (97 : Int32))) + (own_ge cc (123 : Int32))) + (own_ge cc (192 : Int32))) + (own_ge cc (215 : Int32))) + (own_ge cc (216 : Int32))) + (own_ge cc (247 : Int32))) + (own_ge cc (248 : Int32))) + (own_ge cc (768 : Int32))) + (own_ge cc (880 : Int32))) + (own_ge cc (894 : Int32))) + (own_ge cc (895 : Int32))) + (own_ge cc (8192 : Int32))) + (own_ge cc (8204 : Int32))) + (own_ge cc (8206 : Int32))) + (own_ge cc (8304 : Int32))) + (own_ge cc (8592 : Int32))) + (own_ge cc (11264 : Int32))) + (own_ge cc (12272 : Int32))) + (own_ge cc (12289 : Int32))) + (own_ge cc (55296 : Int32))) + (own_ge cc (63744 : Int32))))]) (lenOf pd_0_0 rfl) rfl (by show 2 * 0 + _ ≤ _; exact Nat.le_of_eq rfl) (hb hby at_519) (fun _ _ => ⟨rfl, e85q, (by decide : 1 + 0 ≤ _), (by decide : 30 + 0 ≤ _)⟩)
  dsimp only [Pt.U, Pt.locs, Pt.cells, Pt.slots] at X87 l87 y87 z87 st87 hQ87
  subst l87 y87 z87
  obtain ⟨rfl, N87q, e87q⟩ := hQ87
  have N87 := Fr.app N85 N87q
  obtain ⟨LL87, X87, N87⟩ : ∃ LL, Stand p l e room_1 s m #[(.int p1), (.int p2), (.int p3), (.int p4)] below meth c T87 LL 1 30 ∧ Fr n0 LL := ⟨_, X87, N87⟩
  obtain ⟨_, _, ⟨T89, L89, k89, n89⟩, -, X89, ⟨Lc89, hQ89, l89, y89, z89⟩, st89⟩ := Jvm.LawKit.callS X87 hx (y := (⟨"com/example/coarsen/coarsen/xml/XmlNamesIsNameStartCharPinLaw", "ge", "(II)I"⟩ : MethodName)) hown (mvT hZ (hw _ (List.mem_of_getElem? (i := 9) rfl))) (mvT hZ (hw _ (List.mem_of_getElem? (i := 10) rfl))) (mvT hZ (hw _ (List.mem_of_getElem? (i := 11) rfl))) (mvT hZ (hw _ (List.mem_of_getElem? (i := 12) rfl))) (by decide) (backOf (W := 1) (rm1 l Z a0 hw [] cc (65008 : Int32) h35 n0 (Nat.le_trans Z0 K35.1)) hZ (hw _ (List.mem_of_getElem? (i := 12) rfl)) (hw _ (List.mem_of_getElem? (i := 11) rfl)) (by decide) (by decide)) (g := (mkF m 530 #[.val (.int p1), .val (.int p2), .val (.int p3), .val (.int p4), .val (.ref b5), .val (.int (p4 &&& (3 : Int32))), .val (.int cc), .unset, .unset] [(.int (65008 : Int32)), (.int cc), (.int ((((((((((((((((((((((((((own_ge cc (65 : Int32)) + (own_ge cc (91 : Int32))) + (own_ge cc (95 : Int32))) + (own_ge cc (96 : Int32))) + (own_ge cc (97 : Int32))) + (own_ge cc (123 : Int32))) + (own_ge cc (192 : Int32))) + (own_ge cc (215 : Int32))) + (own_ge cc (216 : Int32))) + (own_ge cc (247 : Int32))) + (own_ge cc (248 : Int32))) + (own_ge cc (768 : Int32))) + (own_ge cc (880 : Int32))) + (own_ge cc (894 : Int32))) + (own_ge cc (895 : Int32))) + (own_ge cc (8192 : Int32))) + (own_ge cc (8204 : Int32))) + (own_ge cc (8206 : Int32))) + (own_ge cc (8304 : Int32))) + (own_ge cc (8592 : Int32))) + (own_ge cc (11264 : Int32))) + (own_ge cc (12272 : Int32))) + (own_ge cc (12289 : Int32))) + (own_ge cc (55296 : Int32))) + (own_ge cc (63744 : Int32))) + (own_ge cc (64976 : Int32))))])) rfl (by rw [hml]; rfl) (argsL := [(.int cc), (.int (65008 : Int32))]) (rest := [(.int ((((((((((((((((((((((((((own_ge cc (65 : Int32)) + (own_ge cc (91 : Int32))) + (own_ge cc (95 : Int32))) + (own_ge cc (96 : Int32))) + (own_ge cc (97 : Int32))) + (own_ge cc (123 : Int32))) + (own_ge cc (192 : Int32))) + (own_ge cc (215 : Int32))) + (own_ge cc (216 : Int32))) + (own_ge cc (247 : Int32))) + (own_ge cc (248 : Int32))) + (own_ge cc (768 : Int32))) + (own_ge cc (880 : Int32))) + (own_ge cc (894 : Int32))) + (own_ge cc (895 : Int32))) + (own_ge cc (8192 : Int32))) + (own_ge cc (8204 : Int32))) + (own_ge cc (8206 : Int32))) + (own_ge cc (8304 : Int32))) + (own_ge cc (8592 : Int32))) + (own_ge cc (11264 : Int32))) + (own_ge cc (12272 : Int32))) + (own_ge cc (12289 : Int32))) + (own_ge cc (55296 : Int32))) + (own_ge cc (63744 : Int32))) + (own_ge cc (64976 : Int32))))]) (lenOf pd_0_0 rfl) rfl (by show 2 * 0 + _ ≤ _; exact Nat.le_of_eq rfl) (hb hby at_530) (fun _ _ => ⟨rfl, e87q, (by decide : 1 + 0 ≤ _), (by decide : 30 + 0 ≤ _)⟩)
  dsimp only [Pt.U, Pt.locs, Pt.cells, Pt.slots] at X89 l89 y89 z89 st89 hQ89
  subst l89 y89 z89
  obtain ⟨rfl, N89q, e89q⟩ := hQ89
  have N89 := Fr.app N87 N89q
  obtain ⟨LL89, X89, N89⟩ : ∃ LL, Stand p l e room_1 s m #[(.int p1), (.int p2), (.int p3), (.int p4)] below meth c T89 LL 1 30 ∧ Fr n0 LL := ⟨_, X89, N89⟩
  obtain ⟨_, _, ⟨T91, L91, k91, n91⟩, -, X91, ⟨Lc91, hQ91, l91, y91, z91⟩, st91⟩ := Jvm.LawKit.callS X89 hx (y := (⟨"com/example/coarsen/coarsen/xml/XmlNamesIsNameStartCharPinLaw", "ge", "(II)I"⟩ : MethodName)) hown (mvT hZ (hw _ (List.mem_of_getElem? (i := 9) rfl))) (mvT hZ (hw _ (List.mem_of_getElem? (i := 10) rfl))) (mvT hZ (hw _ (List.mem_of_getElem? (i := 11) rfl))) (mvT hZ (hw _ (List.mem_of_getElem? (i := 12) rfl))) (by decide) (backOf (W := 1) (rm1 l Z a0 hw [] cc (65534 : Int32) h35 n0 (Nat.le_trans Z0 K35.1)) hZ (hw _ (List.mem_of_getElem? (i := 12) rfl)) (hw _ (List.mem_of_getElem? (i := 11) rfl)) (by decide) (by decide)) (g := (mkF m 541 #[.val (.int p1), .val (.int p2), .val (.int p3), .val (.int p4), .val (.ref b5), .val (.int (p4 &&& (3 : Int32))), .val (.int cc), .unset, .unset] [(.int (65534 : Int32)), (.int cc), (.int (((((((((((((((((((((((((((own_ge cc (65 : Int32)) + (own_ge cc (91 : Int32))) + (own_ge cc (95 : Int32))) + (own_ge cc (96 : Int32))) + (own_ge cc (97 : Int32))) + (own_ge cc (123 : Int32))) + (own_ge cc (192 : Int32))) + (own_ge cc (215 : Int32))) + (own_ge cc (216 : Int32))) + (own_ge cc (247 : Int32))) + (own_ge cc (248 : Int32))) + (own_ge cc (768 : Int32))) + (own_ge cc (880 : Int32))) + (own_ge cc (894 : Int32))) + (own_ge cc (895 : Int32))) + (own_ge cc (8192 : Int32))) + (own_ge cc (8204 : Int32))) + (own_ge cc (8206 : Int32))) + (own_ge cc (8304 : Int32))) + (own_ge cc (8592 : Int32))) + (own_ge cc (11264 : Int32))) + (own_ge cc (12272 : Int32))) + (own_ge cc (12289 : Int32))) + (own_ge cc (55296 : Int32))) + (own_ge cc (63744 : Int32))) + (own_ge cc (64976 : Int32))) + (own_ge cc (65008 : Int32))))])) rfl (by rw [hml]; rfl) (argsL := [(.int cc), (.int (65534 : Int32))]) (rest := [(.int (((((((((((((((((((((((((((own_ge cc (65 : Int32)) + (own_ge cc (91 : Int32))) + (own_ge cc (95 : Int32))) + (own_ge cc (96 : Int32))) + (own_ge cc (97 : Int32))) + (own_ge cc (123 : Int32))) + (own_ge cc (192 : Int32))) + (own_ge cc (215 : Int32))) + (own_ge cc (216 : Int32))) + (own_ge cc (247 : Int32))) + (own_ge cc (248 : Int32))) + (own_ge cc (768 : Int32))) + (own_ge cc (880 : Int32))) + (own_ge cc (894 : Int32))) + (own_ge cc (895 : Int32))) + (own_ge cc (8192 : Int32))) + (own_ge cc (8204 : Int32))) + (own_ge cc (8206 : Int32))) + (own_ge cc (8304 : Int32))) + (own_ge cc (8592 : Int32))) + (own_ge cc (11264 : Int32))) + (own_ge cc (12272 : Int32))) + (own_ge cc (12289 : Int32))) + (own_ge cc (55296 : Int32))) + (own_ge cc (63744 : Int32))) + (own_ge cc (64976 : Int32))) + (own_ge cc (65008 : Int32))))]) (lenOf pd_0_0 rfl) rfl (by show 2 * 0 + _ ≤ _; exact Nat.le_of_eq rfl) (hb hby at_541) (fun _ _ => ⟨rfl, e89q, (by decide : 1 + 0 ≤ _), (by decide : 30 + 0 ≤ _)⟩)
  dsimp only [Pt.U, Pt.locs, Pt.cells, Pt.slots] at X91 l91 y91 z91 st91 hQ91
  subst l91 y91 z91
  obtain ⟨rfl, N91q, e91q⟩ := hQ91
  have N91 := Fr.app N89 N91q
  obtain ⟨LL91, X91, N91⟩ : ∃ LL, Stand p l e room_1 s m #[(.int p1), (.int p2), (.int p3), (.int p4)] below meth c T91 LL 1 30 ∧ Fr n0 LL := ⟨_, X91, N91⟩
  obtain ⟨_, _, ⟨T93, L93, k93, n93⟩, -, X93, ⟨Lc93, hQ93, l93, y93, z93⟩, st93⟩ := Jvm.LawKit.callS X91 hx (y := (⟨"com/example/coarsen/coarsen/xml/XmlNamesIsNameStartCharPinLaw", "ge", "(II)I"⟩ : MethodName)) hown (mvT hZ (hw _ (List.mem_of_getElem? (i := 9) rfl))) (mvT hZ (hw _ (List.mem_of_getElem? (i := 10) rfl))) (mvT hZ (hw _ (List.mem_of_getElem? (i := 11) rfl))) (mvT hZ (hw _ (List.mem_of_getElem? (i := 12) rfl))) (by decide) (backOf (W := 1) (rm1 l Z a0 hw [] cc (65536 : Int32) h35 n0 (Nat.le_trans Z0 K35.1)) hZ (hw _ (List.mem_of_getElem? (i := 12) rfl)) (hw _ (List.mem_of_getElem? (i := 11) rfl)) (by decide) (by decide)) (g := (mkF m 552 #[.val (.int p1), .val (.int p2), .val (.int p3), .val (.int p4), .val (.ref b5), .val (.int (p4 &&& (3 : Int32))), .val (.int cc), .unset, .unset] [(.int (65536 : Int32)), (.int cc), (.int ((((((((((((((((((((((((((((own_ge cc (65 : Int32)) + (own_ge cc (91 : Int32))) + (own_ge cc (95 : Int32))) + (own_ge cc (96 : Int32))) + (own_ge cc (97 : Int32))) + (own_ge cc (123 : Int32))) + (own_ge cc (192 : Int32))) + (own_ge cc (215 : Int32))) + (own_ge cc (216 : Int32))) + (own_ge cc (247 : Int32))) + (own_ge cc (248 : Int32))) + (own_ge cc (768 : Int32))) + (own_ge cc (880 : Int32))) + (own_ge cc (894 : Int32))) + (own_ge cc (895 : Int32))) + (own_ge cc (8192 : Int32))) + (own_ge cc (8204 : Int32))) + (own_ge cc (8206 : Int32))) + (own_ge cc (8304 : Int32))) + (own_ge cc (8592 : Int32))) + (own_ge cc (11264 : Int32))) + (own_ge cc (12272 : Int32))) + (own_ge cc (12289 : Int32))) + (own_ge cc (55296 : Int32))) + (own_ge cc (63744 : Int32))) + (own_ge cc (64976 : Int32))) + (own_ge cc (65008 : Int32))) + (own_ge cc (65534 : Int32))))])) rfl (by rw [hml]; rfl) (argsL := [(.int cc), (.int (65536 : Int32))]) (rest := [(.int ((((((((((((((((((((((((((((own_ge cc (65 : Int32)) + (own_ge cc (91 : Int32))) + (own_ge cc (95 : Int32))) + (own_ge cc (96 : Int32))) + (own_ge cc (97 : Int32))) + (own_ge cc (123 : Int32))) + (own_ge cc (192 : Int32))) + (own_ge cc (215 : Int32))) + (own_ge cc (216 : Int32))) + (own_ge cc (247 : Int32))) + (own_ge cc (248 : Int32))) + (own_ge cc (768 : Int32))) + (own_ge cc (880 : Int32))) + (own_ge cc (894 : Int32))) + (own_ge cc (895 : Int32))) + (own_ge cc (8192 : Int32))) + (own_ge cc (8204 : Int32))) + (own_ge cc (8206 : Int32))) + (own_ge cc (8304 : Int32))) + (own_ge cc (8592 : Int32))) + (own_ge cc (11264 : Int32))) + (own_ge cc (12272 : Int32))) + (own_ge cc (12289 : Int32))) + (own_ge cc (55296 : Int32))) + (own_ge cc (63744 : Int32))) + (own_ge cc (64976 : Int32))) + (own_ge cc (65008 : Int32))) + (own_ge cc (65534 : Int32))))]) (lenOf pd_0_0 rfl) rfl (by show 2 * 0 + _ ≤ _; exact Nat.le_of_eq rfl) (hb hby at_552) (fun _ _ => ⟨rfl, e91q, (by decide : 1 + 0 ≤ _), (by decide : 30 + 0 ≤ _)⟩)
  dsimp only [Pt.U, Pt.locs, Pt.cells, Pt.slots] at X93 l93 y93 z93 st93 hQ93
  subst l93 y93 z93
  obtain ⟨rfl, N93q, e93q⟩ := hQ93
  have N93 := Fr.app N91 N93q
  obtain ⟨LL93, X93, N93⟩ : ∃ LL, Stand p l e room_1 s m #[(.int p1), (.int p2), (.int p3), (.int p4)] below meth c T93 LL 1 30 ∧ Fr n0 LL := ⟨_, X93, N93⟩
  obtain ⟨_, _, ⟨T95, L95, k95, n95⟩, -, X95, ⟨Lc95, hQ95, l95, y95, z95⟩, st95⟩ := Jvm.LawKit.callS X93 hx (y := (⟨"com/example/coarsen/coarsen/xml/XmlNamesIsNameStartCharPinLaw", "ge", "(II)I"⟩ : MethodName)) hown (mvT hZ (hw _ (List.mem_of_getElem? (i := 9) rfl))) (mvT hZ (hw _ (List.mem_of_getElem? (i := 10) rfl))) (mvT hZ (hw _ (List.mem_of_getElem? (i := 11) rfl))) (mvT hZ (hw _ (List.mem_of_getElem? (i := 12) rfl))) (by decide) (backOf (W := 1) (rm1 l Z a0 hw [] cc (983040 : Int32) h35 n0 (Nat.le_trans Z0 K35.1)) hZ (hw _ (List.mem_of_getElem? (i := 12) rfl)) (hw _ (List.mem_of_getElem? (i := 11) rfl)) (by decide) (by decide)) (g := (mkF m 563 #[.val (.int p1), .val (.int p2), .val (.int p3), .val (.int p4), .val (.ref b5), .val (.int (p4 &&& (3 : Int32))), .val (.int cc), .unset, .unset] [(.int (983040 : Int32)), (.int cc), (.int (((((((((((((((((((((((((((((own_ge cc (65 : Int32)) + (own_ge cc (91 : Int32))) + (own_ge cc (95 : Int32))) + (own_ge cc (96 : Int32))) + (own_ge cc (97 : Int32))) + (own_ge cc (123 : Int32))) + (own_ge cc (192 : Int32))) + (own_ge cc (215 : Int32))) + (own_ge cc (216 : Int32))) + (own_ge cc (247 : Int32))) + (own_ge cc (248 : Int32))) + (own_ge cc (768 : Int32))) + (own_ge cc (880 : Int32))) + (own_ge cc (894 : Int32))) + (own_ge cc (895 : Int32))) + (own_ge cc (8192 : Int32))) + (own_ge cc (8204 : Int32))) + (own_ge cc (8206 : Int32))) + (own_ge cc (8304 : Int32))) + (own_ge cc (8592 : Int32))) + (own_ge cc (11264 : Int32))) + (own_ge cc (12272 : Int32))) + (own_ge cc (12289 : Int32))) + (own_ge cc (55296 : Int32))) + (own_ge cc (63744 : Int32))) + (own_ge cc (64976 : Int32))) + (own_ge cc (65008 : Int32))) + (own_ge cc (65534 : Int32))) + (own_ge cc (65536 : Int32))))])) rfl (by rw [hml]; rfl) (argsL := [(.int cc), (.int (983040 : Int32))]) (rest := [(.int (((((((((((((((((((((((((((((own_ge cc (65 : Int32)) + (own_ge cc (91 : Int32))) + (own_ge cc (95 : Int32))) + (own_ge cc (96 : Int32))) + (own_ge cc (97 : Int32))) + (own_ge cc (123 : Int32))) + (own_ge cc (192 : Int32))) + (own_ge cc (215 : Int32))) + (own_ge cc (216 : Int32))) + (own_ge cc (247 : Int32))) + (own_ge cc (248 : Int32))) + (own_ge cc (768 : Int32))) + (own_ge cc (880 : Int32))) + (own_ge cc (894 : Int32))) + (own_ge cc (895 : Int32))) + (own_ge cc (8192 : Int32))) + (own_ge cc (8204 : Int32))) + (own_ge cc (8206 : Int32))) + (own_ge cc (8304 : Int32))) + (own_ge cc (8592 : Int32))) + (own_ge cc (11264 : Int32))) + (own_ge cc (12272 : Int32))) + (own_ge cc (12289 : Int32))) + (own_ge cc (55296 : Int32))) + (own_ge cc (63744 : Int32))) + (own_ge cc (64976 : Int32))) + (own_ge cc (65008 : Int32))) + (own_ge cc (65534 : Int32))) + (own_ge cc (65536 : Int32))))]) (lenOf pd_0_0 rfl) rfl (by show 2 * 0 + _ ≤ _; exact Nat.le_of_eq rfl) (hb hby at_563) (fun _ _ => ⟨rfl, e93q, (by decide : 1 + 0 ≤ _), (by decide : 30 + 0 ≤ _)⟩)
  dsimp only [Pt.U, Pt.locs, Pt.cells, Pt.slots] at X95 l95 y95 z95 st95 hQ95
  subst l95 y95 z95
  obtain ⟨rfl, N95q, e95q⟩ := hQ95
  have N95 := Fr.app N93 N95q
  obtain ⟨LL95, X95, N95⟩ : ∃ LL, Stand p l e room_1 s m #[(.int p1), (.int p2), (.int p3), (.int p4)] below meth c T95 LL 1 30 ∧ Fr n0 LL := ⟨_, X95, N95⟩
  obtain ⟨_, _, ⟨T96, L96, k96, n96⟩, -, X96, ⟨Lc96, hQ96, l96, y96, z96⟩, st96⟩ := Jvm.LawKit.callS X95 hx (y := (⟨"com/example/coarsen/coarsen/xml/XmlNames", "isNameStartChar", "(I)Z"⟩ : MethodName)) hown (mvT hZ (hw _ (List.mem_of_getElem? (i := 13) rfl))) (mvT hZ (hw _ (List.mem_of_getElem? (i := 14) rfl))) (mvT hZ (hw _ (List.mem_of_getElem? (i := 15) rfl))) (mvT hZ (hw _ (List.mem_of_getElem? (i := 16) rfl))) (by decide) (backOf (W := 0) (rm2 l Z a0 hw [] cc h35 n0 (Nat.le_trans Z0 K35.1)) hZ (hw _ (List.mem_of_getElem? (i := 16) rfl)) (hw _ (List.mem_of_getElem? (i := 15) rfl)) (by decide) (by decide)) (g := (mkF m 586 #[.val (.int p1), .val (.int p2), .val (.int p3), .val (.int p4), .val (.ref b5), .val (.int (p4 &&& (3 : Int32))), .val (.int cc), .val (.int ((((((((((((((((((((((((((((((own_ge cc (65 : Int32)) + (own_ge cc (91 : Int32))) + (own_ge cc (95 : Int32))) + (own_ge cc (96 : Int32))) + (own_ge cc (97 : Int32))) + (own_ge cc (123 : Int32))) + (own_ge cc (192 : Int32))) + (own_ge cc (215 : Int32))) + (own_ge cc (216 : Int32))) + (own_ge cc (247 : Int32))) + (own_ge cc (248 : Int32))) + (own_ge cc (768 : Int32))) + (own_ge cc (880 : Int32))) + (own_ge cc (894 : Int32))) + (own_ge cc (895 : Int32))) + (own_ge cc (8192 : Int32))) + (own_ge cc (8204 : Int32))) + (own_ge cc (8206 : Int32))) + (own_ge cc (8304 : Int32))) + (own_ge cc (8592 : Int32))) + (own_ge cc (11264 : Int32))) + (own_ge cc (12272 : Int32))) + (own_ge cc (12289 : Int32))) + (own_ge cc (55296 : Int32))) + (own_ge cc (63744 : Int32))) + (own_ge cc (64976 : Int32))) + (own_ge cc (65008 : Int32))) + (own_ge cc (65534 : Int32))) + (own_ge cc (65536 : Int32))) + (own_ge cc (983040 : Int32)))), .val (.int ee)] [(.int cc)])) rfl (by rw [hml]; rfl) (argsL := [(.int cc)]) (rest := []) (lenOf pd_0_1 rfl) rfl (by show 2 * 0 + _ ≤ _; exact Nat.le_of_eq rfl) (hb hby at_586) (fun _ _ => ⟨rfl, e95q, (by decide : 1 + 0 ≤ _), (by decide : 30 + 0 ≤ _)⟩)
  dsimp only [Pt.U, Pt.locs, Pt.cells, Pt.slots] at X96 l96 y96 z96 st96 hQ96
  subst l96 y96 z96
  obtain ⟨rfl, N96q, e96q⟩ := hQ96
  have N96 := Fr.app N95 N96q
  obtain ⟨LL96, X96, N96⟩ : ∃ LL, Stand p l e room_1 s m #[(.int p1), (.int p2), (.int p3), (.int p4)] below meth c T96 LL 1 30 ∧ Fr n0 LL := ⟨_, X96, N96⟩
  obtain ⟨fs, hr, hrun, hended, hW, hsame⟩ := X96.leave (v := some (.int (1 : Int32))) (fun h => by rw [Bd.returns] at h; cases h)
  refine ⟨_, _, pre0 _ ?_, hrun, hended, _, _, rfl, ?_, ⟨_, rfl⟩, hW, hsame.mono (by decide) (by decide)⟩
  · have mid : ∀ t, Steps p.tables e below (T35.setTop (mkF m 244 #[.val (.int p1), .val (.int p2), .val (.int p3), .val (.int p4), .val (.ref b5), .val (.int (p4 &&& (3 : Int32))), .val (.int cc), .unset, .unset] [])) t → Steps p.tables e below (T35.setTop (mkF m 197 #[.val (.int p1), .val (.int p2), .val (.int p3), .val (.int p4), .val (.ref b5), .unset, .unset, .unset, .unset] [])) t := by
      intro t kt
      show Steps p.tables e below (T35.setTop (mkF m 197 #[.val (.int p1), .val (.int p2), .val (.int p3), .val (.int p4), .val (.ref b5), .unset, .unset, .unset, .unset] [])) _
      refine XS.iloadN X35.here hx rfl (hb hby at_197) rfl ?_
      show Steps p.tables e below (T35.setTop (mkF m 198 #[.val (.int p1), .val (.int p2), .val (.int p3), .val (.int p4), .val (.ref b5), .unset, .unset, .unset, .unset] [(.int p4)])) _
      refine XS.iconst X35.here hx rfl (hb hby at_198) ?_
      show Steps p.tables e below (T35.setTop (mkF m 199 #[.val (.int p1), .val (.int p2), .val (.int p3), .val (.int p4), .val (.ref b5), .unset, .unset, .unset, .unset] [(.int (3 : Int32)), (.int p4)])) _
      refine XS.iand X35.here hx rfl (hb hby at_199) rfl ?_
      show Steps p.tables e below (T35.setTop (mkF m 200 #[.val (.int p1), .val (.int p2), .val (.int p3), .val (.int p4), .val (.ref b5), .unset, .unset, .unset, .unset] [(.int (p4 &&& (3 : Int32)))])) _
      refine XS.istore X35.here hx rfl (hb hby at_200) rfl (l' := #[.val (.int p1), .val (.int p2), .val (.int p3), .val (.int p4), .val (.ref b5), .val (.int (p4 &&& (3 : Int32))), .unset, .unset, .unset]) rfl ?_
      show Steps p.tables e below (T35.setTop (mkF m 202 #[.val (.int p1), .val (.int p2), .val (.int p3), .val (.int p4), .val (.ref b5), .val (.int (p4 &&& (3 : Int32))), .unset, .unset, .unset] [])) _
      refine XS.iload X35.here hx rfl (hb hby at_202) rfl ?_
      show Steps p.tables e below (T35.setTop (mkF m 204 #[.val (.int p1), .val (.int p2), .val (.int p3), .val (.int p4), .val (.ref b5), .val (.int (p4 &&& (3 : Int32))), .unset, .unset, .unset] [(.int (p4 &&& (3 : Int32)))])) _
      by_cases hc204 : (p4 &&& (3 : Int32)) = (0 : Int32)
      · have ec : cc = p1 := by rw [hcc]; exact if_pos hc204
        rw [ec] at kt
        refine XS.ifNo X35.here hx rfl (hb hby at_204) rfl ((if0 _ _).trans (teq hc204).2) ?_
        show Steps p.tables e below (T35.setTop (mkF m 207 #[.val (.int p1), .val (.int p2), .val (.int p3), .val (.int p4), .val (.ref b5), .val (.int (p4 &&& (3 : Int32))), .unset, .unset, .unset] [])) _
        refine XS.iloadN X35.here hx rfl (hb hby at_207) rfl ?_
        show Steps p.tables e below (T35.setTop (mkF m 208 #[.val (.int p1), .val (.int p2), .val (.int p3), .val (.int p4), .val (.ref b5), .val (.int (p4 &&& (3 : Int32))), .unset, .unset, .unset] [(.int p1)])) _
        refine XS.istore X35.here hx rfl (hb hby at_208) rfl (l' := #[.val (.int p1), .val (.int p2), .val (.int p3), .val (.int p4), .val (.ref b5), .val (.int (p4 &&& (3 : Int32))), .val (.int p1), .unset, .unset]) rfl ?_
        show Steps p.tables e below (T35.setTop (mkF m 210 #[.val (.int p1), .val (.int p2), .val (.int p3), .val (.int p4), .val (.ref b5), .val (.int (p4 &&& (3 : Int32))), .val (.int p1), .unset, .unset] [])) _
        refine XS.goto X35.here hx rfl (pc0 := 210) (pc' := 244) rfl (hb hby at_210) (by decide) (by decide) ?_
        exact kt
      · refine XS.ifYes X35.here hx rfl (pc0 := 204) (pc' := 213) rfl (hb hby at_204) rfl ((if0 _ _).trans (feq hc204).2) (by decide) (by decide) ?_
        show Steps p.tables e below (T35.setTop (mkF m 213 #[.val (.int p1), .val (.int p2), .val (.int p3), .val (.int p4), .val (.ref b5), .val (.int (p4 &&& (3 : Int32))), .unset, .unset, .unset] [])) _
        refine XS.iload X35.here hx rfl (hb hby at_213) rfl ?_
        show Steps p.tables e below (T35.setTop (mkF m 215 #[.val (.int p1), .val (.int p2), .val (.int p3), .val (.int p4), .val (.ref b5), .val (.int (p4 &&& (3 : Int32))), .unset, .unset, .unset] [(.int (p4 &&& (3 : Int32)))])) _
        refine XS.iconst X35.here hx rfl (hb hby at_215) ?_
        show Steps p.tables e below (T35.setTop (mkF m 216 #[.val (.int p1), .val (.int p2), .val (.int p3), .val (.int p4), .val (.ref b5), .val (.int (p4 &&& (3 : Int32))), .unset, .unset, .unset] [(.int (1 : Int32)), (.int (p4 &&& (3 : Int32)))])) _
        by_cases hc216 : (p4 &&& (3 : Int32)) = (1 : Int32)
        · have ec : cc = (p1 &&& (1048575 : Int32)) := by rw [hcc]; exact (if_neg hc204).trans (if_pos hc216)
          rw [ec] at kt
          refine XS.icmpNo X35.here hx rfl (hb hby at_216) rfl (teq hc216).2 ?_
          show Steps p.tables e below (T35.setTop (mkF m 219 #[.val (.int p1), .val (.int p2), .val (.int p3), .val (.int p4), .val (.ref b5), .val (.int (p4 &&& (3 : Int32))), .unset, .unset, .unset] [])) _
          refine XS.iloadN X35.here hx rfl (hb hby at_219) rfl ?_
          show Steps p.tables e below (T35.setTop (mkF m 220 #[.val (.int p1), .val (.int p2), .val (.int p3), .val (.int p4), .val (.ref b5), .val (.int (p4 &&& (3 : Int32))), .unset, .unset, .unset] [(.int p1)])) _
          refine X35.ldcInt hx hown (mvT hZ (hw _ (List.mem_of_getElem? (i := 8) rfl))) (g := (mkF m 220 #[.val (.int p1), .val (.int p2), .val (.int p3), .val (.int p4), .val (.ref b5), .val (.int (p4 &&& (3 : Int32))), .unset, .unset, .unset] [(.int p1)])) rfl (hb hby at_220) _ ?_
          show Steps p.tables e below (T35.setTop (mkF m 222 #[.val (.int p1), .val (.int p2), .val (.int p3), .val (.int p4), .val (.ref b5), .val (.int (p4 &&& (3 : Int32))), .unset, .unset, .unset] [(.int (1048575 : Int32)), (.int p1)])) _
          refine XS.iand X35.here hx rfl (hb hby at_222) rfl ?_
          show Steps p.tables e below (T35.setTop (mkF m 223 #[.val (.int p1), .val (.int p2), .val (.int p3), .val (.int p4), .val (.ref b5), .val (.int (p4 &&& (3 : Int32))), .unset, .unset, .unset] [(.int (p1 &&& (1048575 : Int32)))])) _
          refine XS.istore X35.here hx rfl (hb hby at_223) rfl (l' := #[.val (.int p1), .val (.int p2), .val (.int p3), .val (.int p4), .val (.ref b5), .val (.int (p4 &&& (3 : Int32))), .val (.int (p1 &&& (1048575 : Int32))), .unset, .unset]) rfl ?_
          show Steps p.tables e below (T35.setTop (mkF m 225 #[.val (.int p1), .val (.int p2), .val (.int p3), .val (.int p4), .val (.ref b5), .val (.int (p4 &&& (3 : Int32))), .val (.int (p1 &&& (1048575 : Int32))), .unset, .unset] [])) _
          refine XS.goto X35.here hx rfl (pc0 := 225) (pc' := 244) rfl (hb hby at_225) (by decide) (by decide) ?_
          exact kt
        · have ec : cc = (own_pv (own_rem (p2 &&& (2147483647 : Int32)) (30 : Int32)).toNatClampNeg + (own_rem p3 (3 : Int32))) := by rw [hcc]; exact (if_neg hc204).trans (if_neg hc216)
          rw [ec] at kt
          refine XS.icmpYes X35.here hx rfl (pc0 := 216) (pc' := 228) rfl (hb hby at_216) rfl (feq hc216).2 (by decide) (by decide) ?_
          show Steps p.tables e below (T35.setTop (mkF m 228 #[.val (.int p1), .val (.int p2), .val (.int p3), .val (.int p4), .val (.ref b5), .val (.int (p4 &&& (3 : Int32))), .unset, .unset, .unset] [])) _
          refine XS.aload X35.here hx rfl (hb hby at_228) rfl rfl ?_
          show Steps p.tables e below (T35.setTop (mkF m 230 #[.val (.int p1), .val (.int p2), .val (.int p3), .val (.int p4), .val (.ref b5), .val (.int (p4 &&& (3 : Int32))), .unset, .unset, .unset] [(.ref b5)])) _
          refine XS.iloadN X35.here hx rfl (hb hby at_230) rfl ?_
          show Steps p.tables e below (T35.setTop (mkF m 231 #[.val (.int p1), .val (.int p2), .val (.int p3), .val (.int p4), .val (.ref b5), .val (.int (p4 &&& (3 : Int32))), .unset, .unset, .unset] [(.int p2), (.ref b5)])) _
          refine X35.ldcInt hx hown (mvT hZ (hw _ (List.mem_of_getElem? (i := 20) rfl))) (g := (mkF m 231 #[.val (.int p1), .val (.int p2), .val (.int p3), .val (.int p4), .val (.ref b5), .val (.int (p4 &&& (3 : Int32))), .unset, .unset, .unset] [(.int p2), (.ref b5)])) rfl (hb hby at_231) _ ?_
          show Steps p.tables e below (T35.setTop (mkF m 233 #[.val (.int p1), .val (.int p2), .val (.int p3), .val (.int p4), .val (.ref b5), .val (.int (p4 &&& (3 : Int32))), .unset, .unset, .unset] [(.int (2147483647 : Int32)), (.int p2), (.ref b5)])) _
          refine XS.iand X35.here hx rfl (hb hby at_233) rfl ?_
          show Steps p.tables e below (T35.setTop (mkF m 234 #[.val (.int p1), .val (.int p2), .val (.int p3), .val (.int p4), .val (.ref b5), .val (.int (p4 &&& (3 : Int32))), .unset, .unset, .unset] [(.int (p2 &&& (2147483647 : Int32))), (.ref b5)])) _
          refine XS.bipush X35.here hx rfl (hb hby at_234) ?_
          show Steps p.tables e below (T35.setTop (mkF m 236 #[.val (.int p1), .val (.int p2), .val (.int p3), .val (.int p4), .val (.ref b5), .val (.int (p4 &&& (3 : Int32))), .unset, .unset, .unset] [(.int (30 : Int32)), (.int (p2 &&& (2147483647 : Int32))), (.ref b5)])) _
          refine XS.irem X35.here hx rfl (hb hby at_236) rfl (by decide) ?_
          show Steps p.tables e below (T35.setTop (mkF m 237 #[.val (.int p1), .val (.int p2), .val (.int p3), .val (.int p4), .val (.ref b5), .val (.int (p4 &&& (3 : Int32))), .unset, .unset, .unset] [(.int (own_rem (p2 &&& (2147483647 : Int32)) (30 : Int32))), (.ref b5)])) _
          refine X35.iaload hx (j := (own_rem (p2 &&& (2147483647 : Int32)) (30 : Int32))) (v := (.int (own_pv (own_rem (p2 &&& (2147483647 : Int32)) (30 : Int32)).toNatClampNeg))) (by rw [e35]; exact Ar_b5.1) (State.isArrayOf_alike hZ.alike Ar_b5.2.1) Ar_b5.2.2 hin237 hat237 (g := (mkF m 237 #[.val (.int p1), .val (.int p2), .val (.int p3), .val (.int p4), .val (.ref b5), .val (.int (p4 &&& (3 : Int32))), .unset, .unset, .unset] [(.int (own_rem (p2 &&& (2147483647 : Int32)) (30 : Int32))), (.ref b5)])) rfl rfl (hb hby at_237) _ ?_
          show Steps p.tables e below (T35.setTop (mkF m 238 #[.val (.int p1), .val (.int p2), .val (.int p3), .val (.int p4), .val (.ref b5), .val (.int (p4 &&& (3 : Int32))), .unset, .unset, .unset] [(.int (own_pv (own_rem (p2 &&& (2147483647 : Int32)) (30 : Int32)).toNatClampNeg))])) _
          refine XS.iloadN X35.here hx rfl (hb hby at_238) rfl ?_
          show Steps p.tables e below (T35.setTop (mkF m 239 #[.val (.int p1), .val (.int p2), .val (.int p3), .val (.int p4), .val (.ref b5), .val (.int (p4 &&& (3 : Int32))), .unset, .unset, .unset] [(.int p3), (.int (own_pv (own_rem (p2 &&& (2147483647 : Int32)) (30 : Int32)).toNatClampNeg))])) _
          refine XS.iconst X35.here hx rfl (hb hby at_239) ?_
          show Steps p.tables e below (T35.setTop (mkF m 240 #[.val (.int p1), .val (.int p2), .val (.int p3), .val (.int p4), .val (.ref b5), .val (.int (p4 &&& (3 : Int32))), .unset, .unset, .unset] [(.int (3 : Int32)), (.int p3), (.int (own_pv (own_rem (p2 &&& (2147483647 : Int32)) (30 : Int32)).toNatClampNeg))])) _
          refine XS.irem X35.here hx rfl (hb hby at_240) rfl (by decide) ?_
          show Steps p.tables e below (T35.setTop (mkF m 241 #[.val (.int p1), .val (.int p2), .val (.int p3), .val (.int p4), .val (.ref b5), .val (.int (p4 &&& (3 : Int32))), .unset, .unset, .unset] [(.int (own_rem p3 (3 : Int32))), (.int (own_pv (own_rem (p2 &&& (2147483647 : Int32)) (30 : Int32)).toNatClampNeg))])) _
          refine XS.iadd X35.here hx rfl (hb hby at_241) rfl ?_
          show Steps p.tables e below (T35.setTop (mkF m 242 #[.val (.int p1), .val (.int p2), .val (.int p3), .val (.int p4), .val (.ref b5), .val (.int (p4 &&& (3 : Int32))), .unset, .unset, .unset] [(.int ((own_pv (own_rem (p2 &&& (2147483647 : Int32)) (30 : Int32)).toNatClampNeg) + (own_rem p3 (3 : Int32))))])) _
          refine XS.istore X35.here hx rfl (hb hby at_242) rfl (l' := #[.val (.int p1), .val (.int p2), .val (.int p3), .val (.int p4), .val (.ref b5), .val (.int (p4 &&& (3 : Int32))), .val (.int ((own_pv (own_rem (p2 &&& (2147483647 : Int32)) (30 : Int32)).toNatClampNeg) + (own_rem p3 (3 : Int32)))), .unset, .unset]) rfl ?_
          exact kt
    have tail : Steps p.tables e below (T95.setTop (mkF m 584 #[.val (.int p1), .val (.int p2), .val (.int p3), .val (.int p4), .val (.ref b5), .val (.int (p4 &&& (3 : Int32))), .val (.int cc), .val (.int ((((((((((((((((((((((((((((((own_ge cc (65 : Int32)) + (own_ge cc (91 : Int32))) + (own_ge cc (95 : Int32))) + (own_ge cc (96 : Int32))) + (own_ge cc (97 : Int32))) + (own_ge cc (123 : Int32))) + (own_ge cc (192 : Int32))) + (own_ge cc (215 : Int32))) + (own_ge cc (216 : Int32))) + (own_ge cc (247 : Int32))) + (own_ge cc (248 : Int32))) + (own_ge cc (768 : Int32))) + (own_ge cc (880 : Int32))) + (own_ge cc (894 : Int32))) + (own_ge cc (895 : Int32))) + (own_ge cc (8192 : Int32))) + (own_ge cc (8204 : Int32))) + (own_ge cc (8206 : Int32))) + (own_ge cc (8304 : Int32))) + (own_ge cc (8592 : Int32))) + (own_ge cc (11264 : Int32))) + (own_ge cc (12272 : Int32))) + (own_ge cc (12289 : Int32))) + (own_ge cc (55296 : Int32))) + (own_ge cc (63744 : Int32))) + (own_ge cc (64976 : Int32))) + (own_ge cc (65008 : Int32))) + (own_ge cc (65534 : Int32))) + (own_ge cc (65536 : Int32))) + (own_ge cc (983040 : Int32)))), .val (.int ee)] [])) (T96.setFrames fs) := by
      show Steps p.tables e below (T95.setTop (mkF m 584 #[.val (.int p1), .val (.int p2), .val (.int p3), .val (.int p4), .val (.ref b5), .val (.int (p4 &&& (3 : Int32))), .val (.int cc), .val (.int ((((((((((((((((((((((((((((((own_ge cc (65 : Int32)) + (own_ge cc (91 : Int32))) + (own_ge cc (95 : Int32))) + (own_ge cc (96 : Int32))) + (own_ge cc (97 : Int32))) + (own_ge cc (123 : Int32))) + (own_ge cc (192 : Int32))) + (own_ge cc (215 : Int32))) + (own_ge cc (216 : Int32))) + (own_ge cc (247 : Int32))) + (own_ge cc (248 : Int32))) + (own_ge cc (768 : Int32))) + (own_ge cc (880 : Int32))) + (own_ge cc (894 : Int32))) + (own_ge cc (895 : Int32))) + (own_ge cc (8192 : Int32))) + (own_ge cc (8204 : Int32))) + (own_ge cc (8206 : Int32))) + (own_ge cc (8304 : Int32))) + (own_ge cc (8592 : Int32))) + (own_ge cc (11264 : Int32))) + (own_ge cc (12272 : Int32))) + (own_ge cc (12289 : Int32))) + (own_ge cc (55296 : Int32))) + (own_ge cc (63744 : Int32))) + (own_ge cc (64976 : Int32))) + (own_ge cc (65008 : Int32))) + (own_ge cc (65534 : Int32))) + (own_ge cc (65536 : Int32))) + (own_ge cc (983040 : Int32)))), .val (.int ee)] [])) _
      refine XS.iload X95.here hx rfl (hb hby at_584) rfl ?_
      show Steps p.tables e below (T95.setTop (mkF m 586 #[.val (.int p1), .val (.int p2), .val (.int p3), .val (.int p4), .val (.ref b5), .val (.int (p4 &&& (3 : Int32))), .val (.int cc), .val (.int ((((((((((((((((((((((((((((((own_ge cc (65 : Int32)) + (own_ge cc (91 : Int32))) + (own_ge cc (95 : Int32))) + (own_ge cc (96 : Int32))) + (own_ge cc (97 : Int32))) + (own_ge cc (123 : Int32))) + (own_ge cc (192 : Int32))) + (own_ge cc (215 : Int32))) + (own_ge cc (216 : Int32))) + (own_ge cc (247 : Int32))) + (own_ge cc (248 : Int32))) + (own_ge cc (768 : Int32))) + (own_ge cc (880 : Int32))) + (own_ge cc (894 : Int32))) + (own_ge cc (895 : Int32))) + (own_ge cc (8192 : Int32))) + (own_ge cc (8204 : Int32))) + (own_ge cc (8206 : Int32))) + (own_ge cc (8304 : Int32))) + (own_ge cc (8592 : Int32))) + (own_ge cc (11264 : Int32))) + (own_ge cc (12272 : Int32))) + (own_ge cc (12289 : Int32))) + (own_ge cc (55296 : Int32))) + (own_ge cc (63744 : Int32))) + (own_ge cc (64976 : Int32))) + (own_ge cc (65008 : Int32))) + (own_ge cc (65534 : Int32))) + (own_ge cc (65536 : Int32))) + (own_ge cc (983040 : Int32)))), .val (.int ee)] [(.int cc)])) _
      refine st96 _ ?_
      show Steps p.tables e below (T96.setTop (mkF m 589 #[.val (.int p1), .val (.int p2), .val (.int p3), .val (.int p4), .val (.ref b5), .val (.int (p4 &&& (3 : Int32))), .val (.int cc), .val (.int ((((((((((((((((((((((((((((((own_ge cc (65 : Int32)) + (own_ge cc (91 : Int32))) + (own_ge cc (95 : Int32))) + (own_ge cc (96 : Int32))) + (own_ge cc (97 : Int32))) + (own_ge cc (123 : Int32))) + (own_ge cc (192 : Int32))) + (own_ge cc (215 : Int32))) + (own_ge cc (216 : Int32))) + (own_ge cc (247 : Int32))) + (own_ge cc (248 : Int32))) + (own_ge cc (768 : Int32))) + (own_ge cc (880 : Int32))) + (own_ge cc (894 : Int32))) + (own_ge cc (895 : Int32))) + (own_ge cc (8192 : Int32))) + (own_ge cc (8204 : Int32))) + (own_ge cc (8206 : Int32))) + (own_ge cc (8304 : Int32))) + (own_ge cc (8592 : Int32))) + (own_ge cc (11264 : Int32))) + (own_ge cc (12272 : Int32))) + (own_ge cc (12289 : Int32))) + (own_ge cc (55296 : Int32))) + (own_ge cc (63744 : Int32))) + (own_ge cc (64976 : Int32))) + (own_ge cc (65008 : Int32))) + (own_ge cc (65534 : Int32))) + (own_ge cc (65536 : Int32))) + (own_ge cc (983040 : Int32)))), .val (.int ee)] [(.int (own_f0 cc))])) _
      refine XS.iload X96.here hx rfl (hb hby at_589) rfl ?_
      show Steps p.tables e below (T96.setTop (mkF m 591 #[.val (.int p1), .val (.int p2), .val (.int p3), .val (.int p4), .val (.ref b5), .val (.int (p4 &&& (3 : Int32))), .val (.int cc), .val (.int ((((((((((((((((((((((((((((((own_ge cc (65 : Int32)) + (own_ge cc (91 : Int32))) + (own_ge cc (95 : Int32))) + (own_ge cc (96 : Int32))) + (own_ge cc (97 : Int32))) + (own_ge cc (123 : Int32))) + (own_ge cc (192 : Int32))) + (own_ge cc (215 : Int32))) + (own_ge cc (216 : Int32))) + (own_ge cc (247 : Int32))) + (own_ge cc (248 : Int32))) + (own_ge cc (768 : Int32))) + (own_ge cc (880 : Int32))) + (own_ge cc (894 : Int32))) + (own_ge cc (895 : Int32))) + (own_ge cc (8192 : Int32))) + (own_ge cc (8204 : Int32))) + (own_ge cc (8206 : Int32))) + (own_ge cc (8304 : Int32))) + (own_ge cc (8592 : Int32))) + (own_ge cc (11264 : Int32))) + (own_ge cc (12272 : Int32))) + (own_ge cc (12289 : Int32))) + (own_ge cc (55296 : Int32))) + (own_ge cc (63744 : Int32))) + (own_ge cc (64976 : Int32))) + (own_ge cc (65008 : Int32))) + (own_ge cc (65534 : Int32))) + (own_ge cc (65536 : Int32))) + (own_ge cc (983040 : Int32)))), .val (.int ee)] [(.int ee), (.int (own_f0 cc))])) _
      refine XS.icmpNo X96.here hx rfl (hb hby at_591) rfl (teq (hee ▸ own_all cc : (own_f0 cc) = ee)).2 ?_
      show Steps p.tables e below (T96.setTop (mkF m 594 #[.val (.int p1), .val (.int p2), .val (.int p3), .val (.int p4), .val (.ref b5), .val (.int (p4 &&& (3 : Int32))), .val (.int cc), .val (.int ((((((((((((((((((((((((((((((own_ge cc (65 : Int32)) + (own_ge cc (91 : Int32))) + (own_ge cc (95 : Int32))) + (own_ge cc (96 : Int32))) + (own_ge cc (97 : Int32))) + (own_ge cc (123 : Int32))) + (own_ge cc (192 : Int32))) + (own_ge cc (215 : Int32))) + (own_ge cc (216 : Int32))) + (own_ge cc (247 : Int32))) + (own_ge cc (248 : Int32))) + (own_ge cc (768 : Int32))) + (own_ge cc (880 : Int32))) + (own_ge cc (894 : Int32))) + (own_ge cc (895 : Int32))) + (own_ge cc (8192 : Int32))) + (own_ge cc (8204 : Int32))) + (own_ge cc (8206 : Int32))) + (own_ge cc (8304 : Int32))) + (own_ge cc (8592 : Int32))) + (own_ge cc (11264 : Int32))) + (own_ge cc (12272 : Int32))) + (own_ge cc (12289 : Int32))) + (own_ge cc (55296 : Int32))) + (own_ge cc (63744 : Int32))) + (own_ge cc (64976 : Int32))) + (own_ge cc (65008 : Int32))) + (own_ge cc (65534 : Int32))) + (own_ge cc (65536 : Int32))) + (own_ge cc (983040 : Int32)))), .val (.int ee)] [])) _
      refine XS.iconst X96.here hx rfl (hb hby at_594) ?_
      show Steps p.tables e below (T96.setTop (mkF m 595 #[.val (.int p1), .val (.int p2), .val (.int p3), .val (.int p4), .val (.ref b5), .val (.int (p4 &&& (3 : Int32))), .val (.int cc), .val (.int ((((((((((((((((((((((((((((((own_ge cc (65 : Int32)) + (own_ge cc (91 : Int32))) + (own_ge cc (95 : Int32))) + (own_ge cc (96 : Int32))) + (own_ge cc (97 : Int32))) + (own_ge cc (123 : Int32))) + (own_ge cc (192 : Int32))) + (own_ge cc (215 : Int32))) + (own_ge cc (216 : Int32))) + (own_ge cc (247 : Int32))) + (own_ge cc (248 : Int32))) + (own_ge cc (768 : Int32))) + (own_ge cc (880 : Int32))) + (own_ge cc (894 : Int32))) + (own_ge cc (895 : Int32))) + (own_ge cc (8192 : Int32))) + (own_ge cc (8204 : Int32))) + (own_ge cc (8206 : Int32))) + (own_ge cc (8304 : Int32))) + (own_ge cc (8592 : Int32))) + (own_ge cc (11264 : Int32))) + (own_ge cc (12272 : Int32))) + (own_ge cc (12289 : Int32))) + (own_ge cc (55296 : Int32))) + (own_ge cc (63744 : Int32))) + (own_ge cc (64976 : Int32))) + (own_ge cc (65008 : Int32))) + (own_ge cc (65534 : Int32))) + (own_ge cc (65536 : Int32))) + (own_ge cc (983040 : Int32)))), .val (.int ee)] [(.int (1 : Int32))])) _
      refine XS.goto X96.here hx rfl (pc0 := 595) (pc' := 599) rfl (hb hby at_595) (by decide) (by decide) ?_
      show Steps p.tables e below (T96.setTop (mkF m 599 #[.val (.int p1), .val (.int p2), .val (.int p3), .val (.int p4), .val (.ref b5), .val (.int (p4 &&& (3 : Int32))), .val (.int cc), .val (.int ((((((((((((((((((((((((((((((own_ge cc (65 : Int32)) + (own_ge cc (91 : Int32))) + (own_ge cc (95 : Int32))) + (own_ge cc (96 : Int32))) + (own_ge cc (97 : Int32))) + (own_ge cc (123 : Int32))) + (own_ge cc (192 : Int32))) + (own_ge cc (215 : Int32))) + (own_ge cc (216 : Int32))) + (own_ge cc (247 : Int32))) + (own_ge cc (248 : Int32))) + (own_ge cc (768 : Int32))) + (own_ge cc (880 : Int32))) + (own_ge cc (894 : Int32))) + (own_ge cc (895 : Int32))) + (own_ge cc (8192 : Int32))) + (own_ge cc (8204 : Int32))) + (own_ge cc (8206 : Int32))) + (own_ge cc (8304 : Int32))) + (own_ge cc (8592 : Int32))) + (own_ge cc (11264 : Int32))) + (own_ge cc (12272 : Int32))) + (own_ge cc (12289 : Int32))) + (own_ge cc (55296 : Int32))) + (own_ge cc (63744 : Int32))) + (own_ge cc (64976 : Int32))) + (own_ge cc (65008 : Int32))) + (own_ge cc (65534 : Int32))) + (own_ge cc (65536 : Int32))) + (own_ge cc (983040 : Int32)))), .val (.int ee)] [(.int (1 : Int32))])) _
      exact retN X96 hx (t := .boolean) Bd.returns (by simp) (hb hby at_599) hr
    show Steps p.tables e below (s₁.setTop (mkF m 0 #[.val (.int p1), .val (.int p2), .val (.int p3), .val (.int p4), .unset, .unset, .unset, .unset, .unset] [])) _
    refine XS.bipush X0.here hx rfl (hb hby at_0) ?_
    show Steps p.tables e below (s₁.setTop (mkF m 2 #[.val (.int p1), .val (.int p2), .val (.int p3), .val (.int p4), .unset, .unset, .unset, .unset, .unset] [(.int (30 : Int32))])) _
    refine st5 _ ?_
    show Steps p.tables e below (T5.setTop (mkF m 4 #[.val (.int p1), .val (.int p2), .val (.int p3), .val (.int p4), .unset, .unset, .unset, .unset, .unset] [(.ref b5)])) _
    refine XS.dup X5.here hx rfl (hb hby at_4) rfl rfl ?_
    show Steps p.tables e below (T5.setTop (mkF m 5 #[.val (.int p1), .val (.int p2), .val (.int p3), .val (.int p4), .unset, .unset, .unset, .unset, .unset] [(.ref b5), (.ref b5)])) _
    refine XS.iconst X5.here hx rfl (hb hby at_5) ?_
    show Steps p.tables e below (T5.setTop (mkF m 6 #[.val (.int p1), .val (.int p2), .val (.int p3), .val (.int p4), .unset, .unset, .unset, .unset, .unset] [(.int (0 : Int32)), (.ref b5), (.ref b5)])) _
    refine XS.bipush X5.here hx rfl (hb hby at_6) ?_
    show Steps p.tables e below (T5.setTop (mkF m 8 #[.val (.int p1), .val (.int p2), .val (.int p3), .val (.int p4), .unset, .unset, .unset, .unset, .unset] [(.int (65 : Int32)), (.int (0 : Int32)), (.ref b5), (.ref b5)])) _
    refine st6 _ ?_
    show Steps p.tables e below (T6.setTop (mkF m 9 #[.val (.int p1), .val (.int p2), .val (.int p3), .val (.int p4), .unset, .unset, .unset, .unset, .unset] [(.ref b5)])) _
    refine XS.dup X6.here hx rfl (hb hby at_9) rfl rfl ?_
    show Steps p.tables e below (T6.setTop (mkF m 10 #[.val (.int p1), .val (.int p2), .val (.int p3), .val (.int p4), .unset, .unset, .unset, .unset, .unset] [(.ref b5), (.ref b5)])) _
    refine XS.iconst X6.here hx rfl (hb hby at_10) ?_
    show Steps p.tables e below (T6.setTop (mkF m 11 #[.val (.int p1), .val (.int p2), .val (.int p3), .val (.int p4), .unset, .unset, .unset, .unset, .unset] [(.int (1 : Int32)), (.ref b5), (.ref b5)])) _
    refine XS.bipush X6.here hx rfl (hb hby at_11) ?_
    show Steps p.tables e below (T6.setTop (mkF m 13 #[.val (.int p1), .val (.int p2), .val (.int p3), .val (.int p4), .unset, .unset, .unset, .unset, .unset] [(.int (91 : Int32)), (.int (1 : Int32)), (.ref b5), (.ref b5)])) _
    refine st7 _ ?_
    show Steps p.tables e below (T7.setTop (mkF m 14 #[.val (.int p1), .val (.int p2), .val (.int p3), .val (.int p4), .unset, .unset, .unset, .unset, .unset] [(.ref b5)])) _
    refine XS.dup X7.here hx rfl (hb hby at_14) rfl rfl ?_
    show Steps p.tables e below (T7.setTop (mkF m 15 #[.val (.int p1), .val (.int p2), .val (.int p3), .val (.int p4), .unset, .unset, .unset, .unset, .unset] [(.ref b5), (.ref b5)])) _
    refine XS.iconst X7.here hx rfl (hb hby at_15) ?_
    show Steps p.tables e below (T7.setTop (mkF m 16 #[.val (.int p1), .val (.int p2), .val (.int p3), .val (.int p4), .unset, .unset, .unset, .unset, .unset] [(.int (2 : Int32)), (.ref b5), (.ref b5)])) _
    refine XS.bipush X7.here hx rfl (hb hby at_16) ?_
    show Steps p.tables e below (T7.setTop (mkF m 18 #[.val (.int p1), .val (.int p2), .val (.int p3), .val (.int p4), .unset, .unset, .unset, .unset, .unset] [(.int (95 : Int32)), (.int (2 : Int32)), (.ref b5), (.ref b5)])) _
    refine st8 _ ?_
    show Steps p.tables e below (T8.setTop (mkF m 19 #[.val (.int p1), .val (.int p2), .val (.int p3), .val (.int p4), .unset, .unset, .unset, .unset, .unset] [(.ref b5)])) _
    refine XS.dup X8.here hx rfl (hb hby at_19) rfl rfl ?_
    show Steps p.tables e below (T8.setTop (mkF m 20 #[.val (.int p1), .val (.int p2), .val (.int p3), .val (.int p4), .unset, .unset, .unset, .unset, .unset] [(.ref b5), (.ref b5)])) _
    refine XS.iconst X8.here hx rfl (hb hby at_20) ?_
    show Steps p.tables e below (T8.setTop (mkF m 21 #[.val (.int p1), .val (.int p2), .val (.int p3), .val (.int p4), .unset, .unset, .unset, .unset, .unset] [(.int (3 : Int32)), (.ref b5), (.ref b5)])) _
    refine XS.bipush X8.here hx rfl (hb hby at_21) ?_
    show Steps p.tables e below (T8.setTop (mkF m 23 #[.val (.int p1), .val (.int p2), .val (.int p3), .val (.int p4), .unset, .unset, .unset, .unset, .unset] [(.int (96 : Int32)), (.int (3 : Int32)), (.ref b5), (.ref b5)])) _
    refine st9 _ ?_
    show Steps p.tables e below (T9.setTop (mkF m 24 #[.val (.int p1), .val (.int p2), .val (.int p3), .val (.int p4), .unset, .unset, .unset, .unset, .unset] [(.ref b5)])) _
    refine XS.dup X9.here hx rfl (hb hby at_24) rfl rfl ?_
    show Steps p.tables e below (T9.setTop (mkF m 25 #[.val (.int p1), .val (.int p2), .val (.int p3), .val (.int p4), .unset, .unset, .unset, .unset, .unset] [(.ref b5), (.ref b5)])) _
    refine XS.iconst X9.here hx rfl (hb hby at_25) ?_
    show Steps p.tables e below (T9.setTop (mkF m 26 #[.val (.int p1), .val (.int p2), .val (.int p3), .val (.int p4), .unset, .unset, .unset, .unset, .unset] [(.int (4 : Int32)), (.ref b5), (.ref b5)])) _
    refine XS.bipush X9.here hx rfl (hb hby at_26) ?_
    show Steps p.tables e below (T9.setTop (mkF m 28 #[.val (.int p1), .val (.int p2), .val (.int p3), .val (.int p4), .unset, .unset, .unset, .unset, .unset] [(.int (97 : Int32)), (.int (4 : Int32)), (.ref b5), (.ref b5)])) _
    refine st10 _ ?_
    show Steps p.tables e below (T10.setTop (mkF m 29 #[.val (.int p1), .val (.int p2), .val (.int p3), .val (.int p4), .unset, .unset, .unset, .unset, .unset] [(.ref b5)])) _
    refine XS.dup X10.here hx rfl (hb hby at_29) rfl rfl ?_
    show Steps p.tables e below (T10.setTop (mkF m 30 #[.val (.int p1), .val (.int p2), .val (.int p3), .val (.int p4), .unset, .unset, .unset, .unset, .unset] [(.ref b5), (.ref b5)])) _
    refine XS.iconst X10.here hx rfl (hb hby at_30) ?_
    show Steps p.tables e below (T10.setTop (mkF m 31 #[.val (.int p1), .val (.int p2), .val (.int p3), .val (.int p4), .unset, .unset, .unset, .unset, .unset] [(.int (5 : Int32)), (.ref b5), (.ref b5)])) _
    refine XS.bipush X10.here hx rfl (hb hby at_31) ?_
    show Steps p.tables e below (T10.setTop (mkF m 33 #[.val (.int p1), .val (.int p2), .val (.int p3), .val (.int p4), .unset, .unset, .unset, .unset, .unset] [(.int (123 : Int32)), (.int (5 : Int32)), (.ref b5), (.ref b5)])) _
    refine st11 _ ?_
    show Steps p.tables e below (T11.setTop (mkF m 34 #[.val (.int p1), .val (.int p2), .val (.int p3), .val (.int p4), .unset, .unset, .unset, .unset, .unset] [(.ref b5)])) _
    refine XS.dup X11.here hx rfl (hb hby at_34) rfl rfl ?_
    show Steps p.tables e below (T11.setTop (mkF m 35 #[.val (.int p1), .val (.int p2), .val (.int p3), .val (.int p4), .unset, .unset, .unset, .unset, .unset] [(.ref b5), (.ref b5)])) _
    refine XS.bipush X11.here hx rfl (hb hby at_35) ?_
    show Steps p.tables e below (T11.setTop (mkF m 37 #[.val (.int p1), .val (.int p2), .val (.int p3), .val (.int p4), .unset, .unset, .unset, .unset, .unset] [(.int (6 : Int32)), (.ref b5), (.ref b5)])) _
    refine XS.sipush X11.here hx rfl (hb hby at_37) ?_
    show Steps p.tables e below (T11.setTop (mkF m 40 #[.val (.int p1), .val (.int p2), .val (.int p3), .val (.int p4), .unset, .unset, .unset, .unset, .unset] [(.int (192 : Int32)), (.int (6 : Int32)), (.ref b5), (.ref b5)])) _
    refine st12 _ ?_
    show Steps p.tables e below (T12.setTop (mkF m 41 #[.val (.int p1), .val (.int p2), .val (.int p3), .val (.int p4), .unset, .unset, .unset, .unset, .unset] [(.ref b5)])) _
    refine XS.dup X12.here hx rfl (hb hby at_41) rfl rfl ?_
    show Steps p.tables e below (T12.setTop (mkF m 42 #[.val (.int p1), .val (.int p2), .val (.int p3), .val (.int p4), .unset, .unset, .unset, .unset, .unset] [(.ref b5), (.ref b5)])) _
    refine XS.bipush X12.here hx rfl (hb hby at_42) ?_
    show Steps p.tables e below (T12.setTop (mkF m 44 #[.val (.int p1), .val (.int p2), .val (.int p3), .val (.int p4), .unset, .unset, .unset, .unset, .unset] [(.int (7 : Int32)), (.ref b5), (.ref b5)])) _
    refine XS.sipush X12.here hx rfl (hb hby at_44) ?_
    show Steps p.tables e below (T12.setTop (mkF m 47 #[.val (.int p1), .val (.int p2), .val (.int p3), .val (.int p4), .unset, .unset, .unset, .unset, .unset] [(.int (215 : Int32)), (.int (7 : Int32)), (.ref b5), (.ref b5)])) _
    refine st13 _ ?_
    show Steps p.tables e below (T13.setTop (mkF m 48 #[.val (.int p1), .val (.int p2), .val (.int p3), .val (.int p4), .unset, .unset, .unset, .unset, .unset] [(.ref b5)])) _
    refine XS.dup X13.here hx rfl (hb hby at_48) rfl rfl ?_
    show Steps p.tables e below (T13.setTop (mkF m 49 #[.val (.int p1), .val (.int p2), .val (.int p3), .val (.int p4), .unset, .unset, .unset, .unset, .unset] [(.ref b5), (.ref b5)])) _
    refine XS.bipush X13.here hx rfl (hb hby at_49) ?_
    show Steps p.tables e below (T13.setTop (mkF m 51 #[.val (.int p1), .val (.int p2), .val (.int p3), .val (.int p4), .unset, .unset, .unset, .unset, .unset] [(.int (8 : Int32)), (.ref b5), (.ref b5)])) _
    refine XS.sipush X13.here hx rfl (hb hby at_51) ?_
    show Steps p.tables e below (T13.setTop (mkF m 54 #[.val (.int p1), .val (.int p2), .val (.int p3), .val (.int p4), .unset, .unset, .unset, .unset, .unset] [(.int (216 : Int32)), (.int (8 : Int32)), (.ref b5), (.ref b5)])) _
    refine st14 _ ?_
    show Steps p.tables e below (T14.setTop (mkF m 55 #[.val (.int p1), .val (.int p2), .val (.int p3), .val (.int p4), .unset, .unset, .unset, .unset, .unset] [(.ref b5)])) _
    refine XS.dup X14.here hx rfl (hb hby at_55) rfl rfl ?_
    show Steps p.tables e below (T14.setTop (mkF m 56 #[.val (.int p1), .val (.int p2), .val (.int p3), .val (.int p4), .unset, .unset, .unset, .unset, .unset] [(.ref b5), (.ref b5)])) _
    refine XS.bipush X14.here hx rfl (hb hby at_56) ?_
    show Steps p.tables e below (T14.setTop (mkF m 58 #[.val (.int p1), .val (.int p2), .val (.int p3), .val (.int p4), .unset, .unset, .unset, .unset, .unset] [(.int (9 : Int32)), (.ref b5), (.ref b5)])) _
    refine XS.sipush X14.here hx rfl (hb hby at_58) ?_
    show Steps p.tables e below (T14.setTop (mkF m 61 #[.val (.int p1), .val (.int p2), .val (.int p3), .val (.int p4), .unset, .unset, .unset, .unset, .unset] [(.int (247 : Int32)), (.int (9 : Int32)), (.ref b5), (.ref b5)])) _
    refine st15 _ ?_
    show Steps p.tables e below (T15.setTop (mkF m 62 #[.val (.int p1), .val (.int p2), .val (.int p3), .val (.int p4), .unset, .unset, .unset, .unset, .unset] [(.ref b5)])) _
    refine XS.dup X15.here hx rfl (hb hby at_62) rfl rfl ?_
    show Steps p.tables e below (T15.setTop (mkF m 63 #[.val (.int p1), .val (.int p2), .val (.int p3), .val (.int p4), .unset, .unset, .unset, .unset, .unset] [(.ref b5), (.ref b5)])) _
    refine XS.bipush X15.here hx rfl (hb hby at_63) ?_
    show Steps p.tables e below (T15.setTop (mkF m 65 #[.val (.int p1), .val (.int p2), .val (.int p3), .val (.int p4), .unset, .unset, .unset, .unset, .unset] [(.int (10 : Int32)), (.ref b5), (.ref b5)])) _
    refine XS.sipush X15.here hx rfl (hb hby at_65) ?_
    show Steps p.tables e below (T15.setTop (mkF m 68 #[.val (.int p1), .val (.int p2), .val (.int p3), .val (.int p4), .unset, .unset, .unset, .unset, .unset] [(.int (248 : Int32)), (.int (10 : Int32)), (.ref b5), (.ref b5)])) _
    refine st16 _ ?_
    show Steps p.tables e below (T16.setTop (mkF m 69 #[.val (.int p1), .val (.int p2), .val (.int p3), .val (.int p4), .unset, .unset, .unset, .unset, .unset] [(.ref b5)])) _
    refine XS.dup X16.here hx rfl (hb hby at_69) rfl rfl ?_
    show Steps p.tables e below (T16.setTop (mkF m 70 #[.val (.int p1), .val (.int p2), .val (.int p3), .val (.int p4), .unset, .unset, .unset, .unset, .unset] [(.ref b5), (.ref b5)])) _
    refine XS.bipush X16.here hx rfl (hb hby at_70) ?_
    show Steps p.tables e below (T16.setTop (mkF m 72 #[.val (.int p1), .val (.int p2), .val (.int p3), .val (.int p4), .unset, .unset, .unset, .unset, .unset] [(.int (11 : Int32)), (.ref b5), (.ref b5)])) _
    refine XS.sipush X16.here hx rfl (hb hby at_72) ?_
    show Steps p.tables e below (T16.setTop (mkF m 75 #[.val (.int p1), .val (.int p2), .val (.int p3), .val (.int p4), .unset, .unset, .unset, .unset, .unset] [(.int (768 : Int32)), (.int (11 : Int32)), (.ref b5), (.ref b5)])) _
    refine st17 _ ?_
    show Steps p.tables e below (T17.setTop (mkF m 76 #[.val (.int p1), .val (.int p2), .val (.int p3), .val (.int p4), .unset, .unset, .unset, .unset, .unset] [(.ref b5)])) _
    refine XS.dup X17.here hx rfl (hb hby at_76) rfl rfl ?_
    show Steps p.tables e below (T17.setTop (mkF m 77 #[.val (.int p1), .val (.int p2), .val (.int p3), .val (.int p4), .unset, .unset, .unset, .unset, .unset] [(.ref b5), (.ref b5)])) _
    refine XS.bipush X17.here hx rfl (hb hby at_77) ?_
    show Steps p.tables e below (T17.setTop (mkF m 79 #[.val (.int p1), .val (.int p2), .val (.int p3), .val (.int p4), .unset, .unset, .unset, .unset, .unset] [(.int (12 : Int32)), (.ref b5), (.ref b5)])) _
    refine XS.sipush X17.here hx rfl (hb hby at_79) ?_
    show Steps p.tables e below (T17.setTop (mkF m 82 #[.val (.int p1), .val (.int p2), .val (.int p3), .val (.int p4), .unset, .unset, .unset, .unset, .unset] [(.int (880 : Int32)), (.int (12 : Int32)), (.ref b5), (.ref b5)])) _
    refine st18 _ ?_
    show Steps p.tables e below (T18.setTop (mkF m 83 #[.val (.int p1), .val (.int p2), .val (.int p3), .val (.int p4), .unset, .unset, .unset, .unset, .unset] [(.ref b5)])) _
    refine XS.dup X18.here hx rfl (hb hby at_83) rfl rfl ?_
    show Steps p.tables e below (T18.setTop (mkF m 84 #[.val (.int p1), .val (.int p2), .val (.int p3), .val (.int p4), .unset, .unset, .unset, .unset, .unset] [(.ref b5), (.ref b5)])) _
    refine XS.bipush X18.here hx rfl (hb hby at_84) ?_
    show Steps p.tables e below (T18.setTop (mkF m 86 #[.val (.int p1), .val (.int p2), .val (.int p3), .val (.int p4), .unset, .unset, .unset, .unset, .unset] [(.int (13 : Int32)), (.ref b5), (.ref b5)])) _
    refine XS.sipush X18.here hx rfl (hb hby at_86) ?_
    show Steps p.tables e below (T18.setTop (mkF m 89 #[.val (.int p1), .val (.int p2), .val (.int p3), .val (.int p4), .unset, .unset, .unset, .unset, .unset] [(.int (894 : Int32)), (.int (13 : Int32)), (.ref b5), (.ref b5)])) _
    refine st19 _ ?_
    show Steps p.tables e below (T19.setTop (mkF m 90 #[.val (.int p1), .val (.int p2), .val (.int p3), .val (.int p4), .unset, .unset, .unset, .unset, .unset] [(.ref b5)])) _
    refine XS.dup X19.here hx rfl (hb hby at_90) rfl rfl ?_
    show Steps p.tables e below (T19.setTop (mkF m 91 #[.val (.int p1), .val (.int p2), .val (.int p3), .val (.int p4), .unset, .unset, .unset, .unset, .unset] [(.ref b5), (.ref b5)])) _
    refine XS.bipush X19.here hx rfl (hb hby at_91) ?_
    show Steps p.tables e below (T19.setTop (mkF m 93 #[.val (.int p1), .val (.int p2), .val (.int p3), .val (.int p4), .unset, .unset, .unset, .unset, .unset] [(.int (14 : Int32)), (.ref b5), (.ref b5)])) _
    refine XS.sipush X19.here hx rfl (hb hby at_93) ?_
    show Steps p.tables e below (T19.setTop (mkF m 96 #[.val (.int p1), .val (.int p2), .val (.int p3), .val (.int p4), .unset, .unset, .unset, .unset, .unset] [(.int (895 : Int32)), (.int (14 : Int32)), (.ref b5), (.ref b5)])) _
    refine st20 _ ?_
    show Steps p.tables e below (T20.setTop (mkF m 97 #[.val (.int p1), .val (.int p2), .val (.int p3), .val (.int p4), .unset, .unset, .unset, .unset, .unset] [(.ref b5)])) _
    refine XS.dup X20.here hx rfl (hb hby at_97) rfl rfl ?_
    show Steps p.tables e below (T20.setTop (mkF m 98 #[.val (.int p1), .val (.int p2), .val (.int p3), .val (.int p4), .unset, .unset, .unset, .unset, .unset] [(.ref b5), (.ref b5)])) _
    refine XS.bipush X20.here hx rfl (hb hby at_98) ?_
    show Steps p.tables e below (T20.setTop (mkF m 100 #[.val (.int p1), .val (.int p2), .val (.int p3), .val (.int p4), .unset, .unset, .unset, .unset, .unset] [(.int (15 : Int32)), (.ref b5), (.ref b5)])) _
    refine XS.sipush X20.here hx rfl (hb hby at_100) ?_
    show Steps p.tables e below (T20.setTop (mkF m 103 #[.val (.int p1), .val (.int p2), .val (.int p3), .val (.int p4), .unset, .unset, .unset, .unset, .unset] [(.int (8192 : Int32)), (.int (15 : Int32)), (.ref b5), (.ref b5)])) _
    refine st21 _ ?_
    show Steps p.tables e below (T21.setTop (mkF m 104 #[.val (.int p1), .val (.int p2), .val (.int p3), .val (.int p4), .unset, .unset, .unset, .unset, .unset] [(.ref b5)])) _
    refine XS.dup X21.here hx rfl (hb hby at_104) rfl rfl ?_
    show Steps p.tables e below (T21.setTop (mkF m 105 #[.val (.int p1), .val (.int p2), .val (.int p3), .val (.int p4), .unset, .unset, .unset, .unset, .unset] [(.ref b5), (.ref b5)])) _
    refine XS.bipush X21.here hx rfl (hb hby at_105) ?_
    show Steps p.tables e below (T21.setTop (mkF m 107 #[.val (.int p1), .val (.int p2), .val (.int p3), .val (.int p4), .unset, .unset, .unset, .unset, .unset] [(.int (16 : Int32)), (.ref b5), (.ref b5)])) _
    refine XS.sipush X21.here hx rfl (hb hby at_107) ?_
    show Steps p.tables e below (T21.setTop (mkF m 110 #[.val (.int p1), .val (.int p2), .val (.int p3), .val (.int p4), .unset, .unset, .unset, .unset, .unset] [(.int (8204 : Int32)), (.int (16 : Int32)), (.ref b5), (.ref b5)])) _
    refine st22 _ ?_
    show Steps p.tables e below (T22.setTop (mkF m 111 #[.val (.int p1), .val (.int p2), .val (.int p3), .val (.int p4), .unset, .unset, .unset, .unset, .unset] [(.ref b5)])) _
    refine XS.dup X22.here hx rfl (hb hby at_111) rfl rfl ?_
    show Steps p.tables e below (T22.setTop (mkF m 112 #[.val (.int p1), .val (.int p2), .val (.int p3), .val (.int p4), .unset, .unset, .unset, .unset, .unset] [(.ref b5), (.ref b5)])) _
    refine XS.bipush X22.here hx rfl (hb hby at_112) ?_
    show Steps p.tables e below (T22.setTop (mkF m 114 #[.val (.int p1), .val (.int p2), .val (.int p3), .val (.int p4), .unset, .unset, .unset, .unset, .unset] [(.int (17 : Int32)), (.ref b5), (.ref b5)])) _
    refine XS.sipush X22.here hx rfl (hb hby at_114) ?_
    show Steps p.tables e below (T22.setTop (mkF m 117 #[.val (.int p1), .val (.int p2), .val (.int p3), .val (.int p4), .unset, .unset, .unset, .unset, .unset] [(.int (8206 : Int32)), (.int (17 : Int32)), (.ref b5), (.ref b5)])) _
    refine st23 _ ?_
    show Steps p.tables e below (T23.setTop (mkF m 118 #[.val (.int p1), .val (.int p2), .val (.int p3), .val (.int p4), .unset, .unset, .unset, .unset, .unset] [(.ref b5)])) _
    refine XS.dup X23.here hx rfl (hb hby at_118) rfl rfl ?_
    show Steps p.tables e below (T23.setTop (mkF m 119 #[.val (.int p1), .val (.int p2), .val (.int p3), .val (.int p4), .unset, .unset, .unset, .unset, .unset] [(.ref b5), (.ref b5)])) _
    refine XS.bipush X23.here hx rfl (hb hby at_119) ?_
    show Steps p.tables e below (T23.setTop (mkF m 121 #[.val (.int p1), .val (.int p2), .val (.int p3), .val (.int p4), .unset, .unset, .unset, .unset, .unset] [(.int (18 : Int32)), (.ref b5), (.ref b5)])) _
    refine XS.sipush X23.here hx rfl (hb hby at_121) ?_
    show Steps p.tables e below (T23.setTop (mkF m 124 #[.val (.int p1), .val (.int p2), .val (.int p3), .val (.int p4), .unset, .unset, .unset, .unset, .unset] [(.int (8304 : Int32)), (.int (18 : Int32)), (.ref b5), (.ref b5)])) _
    refine st24 _ ?_
    show Steps p.tables e below (T24.setTop (mkF m 125 #[.val (.int p1), .val (.int p2), .val (.int p3), .val (.int p4), .unset, .unset, .unset, .unset, .unset] [(.ref b5)])) _
    refine XS.dup X24.here hx rfl (hb hby at_125) rfl rfl ?_
    show Steps p.tables e below (T24.setTop (mkF m 126 #[.val (.int p1), .val (.int p2), .val (.int p3), .val (.int p4), .unset, .unset, .unset, .unset, .unset] [(.ref b5), (.ref b5)])) _
    refine XS.bipush X24.here hx rfl (hb hby at_126) ?_
    show Steps p.tables e below (T24.setTop (mkF m 128 #[.val (.int p1), .val (.int p2), .val (.int p3), .val (.int p4), .unset, .unset, .unset, .unset, .unset] [(.int (19 : Int32)), (.ref b5), (.ref b5)])) _
    refine XS.sipush X24.here hx rfl (hb hby at_128) ?_
    show Steps p.tables e below (T24.setTop (mkF m 131 #[.val (.int p1), .val (.int p2), .val (.int p3), .val (.int p4), .unset, .unset, .unset, .unset, .unset] [(.int (8592 : Int32)), (.int (19 : Int32)), (.ref b5), (.ref b5)])) _
    refine st25 _ ?_
    show Steps p.tables e below (T25.setTop (mkF m 132 #[.val (.int p1), .val (.int p2), .val (.int p3), .val (.int p4), .unset, .unset, .unset, .unset, .unset] [(.ref b5)])) _
    refine XS.dup X25.here hx rfl (hb hby at_132) rfl rfl ?_
    show Steps p.tables e below (T25.setTop (mkF m 133 #[.val (.int p1), .val (.int p2), .val (.int p3), .val (.int p4), .unset, .unset, .unset, .unset, .unset] [(.ref b5), (.ref b5)])) _
    refine XS.bipush X25.here hx rfl (hb hby at_133) ?_
    show Steps p.tables e below (T25.setTop (mkF m 135 #[.val (.int p1), .val (.int p2), .val (.int p3), .val (.int p4), .unset, .unset, .unset, .unset, .unset] [(.int (20 : Int32)), (.ref b5), (.ref b5)])) _
    refine XS.sipush X25.here hx rfl (hb hby at_135) ?_
    show Steps p.tables e below (T25.setTop (mkF m 138 #[.val (.int p1), .val (.int p2), .val (.int p3), .val (.int p4), .unset, .unset, .unset, .unset, .unset] [(.int (11264 : Int32)), (.int (20 : Int32)), (.ref b5), (.ref b5)])) _
    refine st26 _ ?_
    show Steps p.tables e below (T26.setTop (mkF m 139 #[.val (.int p1), .val (.int p2), .val (.int p3), .val (.int p4), .unset, .unset, .unset, .unset, .unset] [(.ref b5)])) _
    refine XS.dup X26.here hx rfl (hb hby at_139) rfl rfl ?_
    show Steps p.tables e below (T26.setTop (mkF m 140 #[.val (.int p1), .val (.int p2), .val (.int p3), .val (.int p4), .unset, .unset, .unset, .unset, .unset] [(.ref b5), (.ref b5)])) _
    refine XS.bipush X26.here hx rfl (hb hby at_140) ?_
    show Steps p.tables e below (T26.setTop (mkF m 142 #[.val (.int p1), .val (.int p2), .val (.int p3), .val (.int p4), .unset, .unset, .unset, .unset, .unset] [(.int (21 : Int32)), (.ref b5), (.ref b5)])) _
    refine XS.sipush X26.here hx rfl (hb hby at_142) ?_
    show Steps p.tables e below (T26.setTop (mkF m 145 #[.val (.int p1), .val (.int p2), .val (.int p3), .val (.int p4), .unset, .unset, .unset, .unset, .unset] [(.int (12272 : Int32)), (.int (21 : Int32)), (.ref b5), (.ref b5)])) _
    refine st27 _ ?_
    show Steps p.tables e below (T27.setTop (mkF m 146 #[.val (.int p1), .val (.int p2), .val (.int p3), .val (.int p4), .unset, .unset, .unset, .unset, .unset] [(.ref b5)])) _
    refine XS.dup X27.here hx rfl (hb hby at_146) rfl rfl ?_
    show Steps p.tables e below (T27.setTop (mkF m 147 #[.val (.int p1), .val (.int p2), .val (.int p3), .val (.int p4), .unset, .unset, .unset, .unset, .unset] [(.ref b5), (.ref b5)])) _
    refine XS.bipush X27.here hx rfl (hb hby at_147) ?_
    show Steps p.tables e below (T27.setTop (mkF m 149 #[.val (.int p1), .val (.int p2), .val (.int p3), .val (.int p4), .unset, .unset, .unset, .unset, .unset] [(.int (22 : Int32)), (.ref b5), (.ref b5)])) _
    refine XS.sipush X27.here hx rfl (hb hby at_149) ?_
    show Steps p.tables e below (T27.setTop (mkF m 152 #[.val (.int p1), .val (.int p2), .val (.int p3), .val (.int p4), .unset, .unset, .unset, .unset, .unset] [(.int (12289 : Int32)), (.int (22 : Int32)), (.ref b5), (.ref b5)])) _
    refine st28 _ ?_
    show Steps p.tables e below (T28.setTop (mkF m 153 #[.val (.int p1), .val (.int p2), .val (.int p3), .val (.int p4), .unset, .unset, .unset, .unset, .unset] [(.ref b5)])) _
    refine XS.dup X28.here hx rfl (hb hby at_153) rfl rfl ?_
    show Steps p.tables e below (T28.setTop (mkF m 154 #[.val (.int p1), .val (.int p2), .val (.int p3), .val (.int p4), .unset, .unset, .unset, .unset, .unset] [(.ref b5), (.ref b5)])) _
    refine XS.bipush X28.here hx rfl (hb hby at_154) ?_
    show Steps p.tables e below (T28.setTop (mkF m 156 #[.val (.int p1), .val (.int p2), .val (.int p3), .val (.int p4), .unset, .unset, .unset, .unset, .unset] [(.int (23 : Int32)), (.ref b5), (.ref b5)])) _
    refine X28.ldcInt hx hown (mvT hZ (hw _ (List.mem_of_getElem? (i := 1) rfl))) (g := (mkF m 156 #[.val (.int p1), .val (.int p2), .val (.int p3), .val (.int p4), .unset, .unset, .unset, .unset, .unset] [(.int (23 : Int32)), (.ref b5), (.ref b5)])) rfl (hb hby at_156) _ ?_
    show Steps p.tables e below (T28.setTop (mkF m 158 #[.val (.int p1), .val (.int p2), .val (.int p3), .val (.int p4), .unset, .unset, .unset, .unset, .unset] [(.int (55296 : Int32)), (.int (23 : Int32)), (.ref b5), (.ref b5)])) _
    refine st29 _ ?_
    show Steps p.tables e below (T29.setTop (mkF m 159 #[.val (.int p1), .val (.int p2), .val (.int p3), .val (.int p4), .unset, .unset, .unset, .unset, .unset] [(.ref b5)])) _
    refine XS.dup X29.here hx rfl (hb hby at_159) rfl rfl ?_
    show Steps p.tables e below (T29.setTop (mkF m 160 #[.val (.int p1), .val (.int p2), .val (.int p3), .val (.int p4), .unset, .unset, .unset, .unset, .unset] [(.ref b5), (.ref b5)])) _
    refine XS.bipush X29.here hx rfl (hb hby at_160) ?_
    show Steps p.tables e below (T29.setTop (mkF m 162 #[.val (.int p1), .val (.int p2), .val (.int p3), .val (.int p4), .unset, .unset, .unset, .unset, .unset] [(.int (24 : Int32)), (.ref b5), (.ref b5)])) _
    refine X29.ldcInt hx hown (mvT hZ (hw _ (List.mem_of_getElem? (i := 2) rfl))) (g := (mkF m 162 #[.val (.int p1), .val (.int p2), .val (.int p3), .val (.int p4), .unset, .unset, .unset, .unset, .unset] [(.int (24 : Int32)), (.ref b5), (.ref b5)])) rfl (hb hby at_162) _ ?_
    show Steps p.tables e below (T29.setTop (mkF m 164 #[.val (.int p1), .val (.int p2), .val (.int p3), .val (.int p4), .unset, .unset, .unset, .unset, .unset] [(.int (63744 : Int32)), (.int (24 : Int32)), (.ref b5), (.ref b5)])) _
    refine st30 _ ?_
    show Steps p.tables e below (T30.setTop (mkF m 165 #[.val (.int p1), .val (.int p2), .val (.int p3), .val (.int p4), .unset, .unset, .unset, .unset, .unset] [(.ref b5)])) _
    refine XS.dup X30.here hx rfl (hb hby at_165) rfl rfl ?_
    show Steps p.tables e below (T30.setTop (mkF m 166 #[.val (.int p1), .val (.int p2), .val (.int p3), .val (.int p4), .unset, .unset, .unset, .unset, .unset] [(.ref b5), (.ref b5)])) _
    refine XS.bipush X30.here hx rfl (hb hby at_166) ?_
    show Steps p.tables e below (T30.setTop (mkF m 168 #[.val (.int p1), .val (.int p2), .val (.int p3), .val (.int p4), .unset, .unset, .unset, .unset, .unset] [(.int (25 : Int32)), (.ref b5), (.ref b5)])) _
    refine X30.ldcInt hx hown (mvT hZ (hw _ (List.mem_of_getElem? (i := 3) rfl))) (g := (mkF m 168 #[.val (.int p1), .val (.int p2), .val (.int p3), .val (.int p4), .unset, .unset, .unset, .unset, .unset] [(.int (25 : Int32)), (.ref b5), (.ref b5)])) rfl (hb hby at_168) _ ?_
    show Steps p.tables e below (T30.setTop (mkF m 170 #[.val (.int p1), .val (.int p2), .val (.int p3), .val (.int p4), .unset, .unset, .unset, .unset, .unset] [(.int (64976 : Int32)), (.int (25 : Int32)), (.ref b5), (.ref b5)])) _
    refine st31 _ ?_
    show Steps p.tables e below (T31.setTop (mkF m 171 #[.val (.int p1), .val (.int p2), .val (.int p3), .val (.int p4), .unset, .unset, .unset, .unset, .unset] [(.ref b5)])) _
    refine XS.dup X31.here hx rfl (hb hby at_171) rfl rfl ?_
    show Steps p.tables e below (T31.setTop (mkF m 172 #[.val (.int p1), .val (.int p2), .val (.int p3), .val (.int p4), .unset, .unset, .unset, .unset, .unset] [(.ref b5), (.ref b5)])) _
    refine XS.bipush X31.here hx rfl (hb hby at_172) ?_
    show Steps p.tables e below (T31.setTop (mkF m 174 #[.val (.int p1), .val (.int p2), .val (.int p3), .val (.int p4), .unset, .unset, .unset, .unset, .unset] [(.int (26 : Int32)), (.ref b5), (.ref b5)])) _
    refine X31.ldcInt hx hown (mvT hZ (hw _ (List.mem_of_getElem? (i := 4) rfl))) (g := (mkF m 174 #[.val (.int p1), .val (.int p2), .val (.int p3), .val (.int p4), .unset, .unset, .unset, .unset, .unset] [(.int (26 : Int32)), (.ref b5), (.ref b5)])) rfl (hb hby at_174) _ ?_
    show Steps p.tables e below (T31.setTop (mkF m 176 #[.val (.int p1), .val (.int p2), .val (.int p3), .val (.int p4), .unset, .unset, .unset, .unset, .unset] [(.int (65008 : Int32)), (.int (26 : Int32)), (.ref b5), (.ref b5)])) _
    refine st32 _ ?_
    show Steps p.tables e below (T32.setTop (mkF m 177 #[.val (.int p1), .val (.int p2), .val (.int p3), .val (.int p4), .unset, .unset, .unset, .unset, .unset] [(.ref b5)])) _
    refine XS.dup X32.here hx rfl (hb hby at_177) rfl rfl ?_
    show Steps p.tables e below (T32.setTop (mkF m 178 #[.val (.int p1), .val (.int p2), .val (.int p3), .val (.int p4), .unset, .unset, .unset, .unset, .unset] [(.ref b5), (.ref b5)])) _
    refine XS.bipush X32.here hx rfl (hb hby at_178) ?_
    show Steps p.tables e below (T32.setTop (mkF m 180 #[.val (.int p1), .val (.int p2), .val (.int p3), .val (.int p4), .unset, .unset, .unset, .unset, .unset] [(.int (27 : Int32)), (.ref b5), (.ref b5)])) _
    refine X32.ldcInt hx hown (mvT hZ (hw _ (List.mem_of_getElem? (i := 5) rfl))) (g := (mkF m 180 #[.val (.int p1), .val (.int p2), .val (.int p3), .val (.int p4), .unset, .unset, .unset, .unset, .unset] [(.int (27 : Int32)), (.ref b5), (.ref b5)])) rfl (hb hby at_180) _ ?_
    show Steps p.tables e below (T32.setTop (mkF m 182 #[.val (.int p1), .val (.int p2), .val (.int p3), .val (.int p4), .unset, .unset, .unset, .unset, .unset] [(.int (65534 : Int32)), (.int (27 : Int32)), (.ref b5), (.ref b5)])) _
    refine st33 _ ?_
    show Steps p.tables e below (T33.setTop (mkF m 183 #[.val (.int p1), .val (.int p2), .val (.int p3), .val (.int p4), .unset, .unset, .unset, .unset, .unset] [(.ref b5)])) _
    refine XS.dup X33.here hx rfl (hb hby at_183) rfl rfl ?_
    show Steps p.tables e below (T33.setTop (mkF m 184 #[.val (.int p1), .val (.int p2), .val (.int p3), .val (.int p4), .unset, .unset, .unset, .unset, .unset] [(.ref b5), (.ref b5)])) _
    refine XS.bipush X33.here hx rfl (hb hby at_184) ?_
    show Steps p.tables e below (T33.setTop (mkF m 186 #[.val (.int p1), .val (.int p2), .val (.int p3), .val (.int p4), .unset, .unset, .unset, .unset, .unset] [(.int (28 : Int32)), (.ref b5), (.ref b5)])) _
    refine X33.ldcInt hx hown (mvT hZ (hw _ (List.mem_of_getElem? (i := 6) rfl))) (g := (mkF m 186 #[.val (.int p1), .val (.int p2), .val (.int p3), .val (.int p4), .unset, .unset, .unset, .unset, .unset] [(.int (28 : Int32)), (.ref b5), (.ref b5)])) rfl (hb hby at_186) _ ?_
    show Steps p.tables e below (T33.setTop (mkF m 188 #[.val (.int p1), .val (.int p2), .val (.int p3), .val (.int p4), .unset, .unset, .unset, .unset, .unset] [(.int (65536 : Int32)), (.int (28 : Int32)), (.ref b5), (.ref b5)])) _
    refine st34 _ ?_
    show Steps p.tables e below (T34.setTop (mkF m 189 #[.val (.int p1), .val (.int p2), .val (.int p3), .val (.int p4), .unset, .unset, .unset, .unset, .unset] [(.ref b5)])) _
    refine XS.dup X34.here hx rfl (hb hby at_189) rfl rfl ?_
    show Steps p.tables e below (T34.setTop (mkF m 190 #[.val (.int p1), .val (.int p2), .val (.int p3), .val (.int p4), .unset, .unset, .unset, .unset, .unset] [(.ref b5), (.ref b5)])) _
    refine XS.bipush X34.here hx rfl (hb hby at_190) ?_
    show Steps p.tables e below (T34.setTop (mkF m 192 #[.val (.int p1), .val (.int p2), .val (.int p3), .val (.int p4), .unset, .unset, .unset, .unset, .unset] [(.int (29 : Int32)), (.ref b5), (.ref b5)])) _
    refine X34.ldcInt hx hown (mvT hZ (hw _ (List.mem_of_getElem? (i := 7) rfl))) (g := (mkF m 192 #[.val (.int p1), .val (.int p2), .val (.int p3), .val (.int p4), .unset, .unset, .unset, .unset, .unset] [(.int (29 : Int32)), (.ref b5), (.ref b5)])) rfl (hb hby at_192) _ ?_
    show Steps p.tables e below (T34.setTop (mkF m 194 #[.val (.int p1), .val (.int p2), .val (.int p3), .val (.int p4), .unset, .unset, .unset, .unset, .unset] [(.int (983040 : Int32)), (.int (29 : Int32)), (.ref b5), (.ref b5)])) _
    refine st35 _ ?_
    show Steps p.tables e below (T35.setTop (mkF m 195 #[.val (.int p1), .val (.int p2), .val (.int p3), .val (.int p4), .unset, .unset, .unset, .unset, .unset] [(.ref b5)])) _
    refine XS.astore X35.here hx rfl (hb hby at_195) rfl rfl (l' := #[.val (.int p1), .val (.int p2), .val (.int p3), .val (.int p4), .val (.ref b5), .unset, .unset, .unset, .unset]) rfl ?_
    show Steps p.tables e below (T35.setTop (mkF m 197 #[.val (.int p1), .val (.int p2), .val (.int p3), .val (.int p4), .val (.ref b5), .unset, .unset, .unset, .unset] [])) _
    refine mid _ ?_
    show Steps p.tables e below (T35.setTop (mkF m 244 #[.val (.int p1), .val (.int p2), .val (.int p3), .val (.int p4), .val (.ref b5), .val (.int (p4 &&& (3 : Int32))), .val (.int cc), .unset, .unset] [])) _
    refine XS.iload X35.here hx rfl (hb hby at_244) rfl ?_
    show Steps p.tables e below (T35.setTop (mkF m 246 #[.val (.int p1), .val (.int p2), .val (.int p3), .val (.int p4), .val (.ref b5), .val (.int (p4 &&& (3 : Int32))), .val (.int cc), .unset, .unset] [(.int cc)])) _
    refine XS.aload X35.here hx rfl (hb hby at_246) rfl rfl ?_
    show Steps p.tables e below (T35.setTop (mkF m 248 #[.val (.int p1), .val (.int p2), .val (.int p3), .val (.int p4), .val (.ref b5), .val (.int (p4 &&& (3 : Int32))), .val (.int cc), .unset, .unset] [(.ref b5), (.int cc)])) _
    refine XS.iconst X35.here hx rfl (hb hby at_248) ?_
    show Steps p.tables e below (T35.setTop (mkF m 249 #[.val (.int p1), .val (.int p2), .val (.int p3), .val (.int p4), .val (.ref b5), .val (.int (p4 &&& (3 : Int32))), .val (.int cc), .unset, .unset] [(.int (0 : Int32)), (.ref b5), (.int cc)])) _
    refine X35.iaload hx (j := (0 : Int32)) (v := (.int (65 : Int32))) (by rw [e35]; exact Ar_b5.1) (State.isArrayOf_alike hZ.alike Ar_b5.2.1) Ar_b5.2.2 hin249 hat249 (g := (mkF m 249 #[.val (.int p1), .val (.int p2), .val (.int p3), .val (.int p4), .val (.ref b5), .val (.int (p4 &&& (3 : Int32))), .val (.int cc), .unset, .unset] [(.int (0 : Int32)), (.ref b5), (.int cc)])) rfl rfl (hb hby at_249) _ ?_
    show Steps p.tables e below (T35.setTop (mkF m 250 #[.val (.int p1), .val (.int p2), .val (.int p3), .val (.int p4), .val (.ref b5), .val (.int (p4 &&& (3 : Int32))), .val (.int cc), .unset, .unset] [(.int (65 : Int32)), (.int cc)])) _
    refine st37 _ ?_
    show Steps p.tables e below (T37.setTop (mkF m 253 #[.val (.int p1), .val (.int p2), .val (.int p3), .val (.int p4), .val (.ref b5), .val (.int (p4 &&& (3 : Int32))), .val (.int cc), .unset, .unset] [(.int (own_ge cc (65 : Int32)))])) _
    refine XS.iload X37.here hx rfl (hb hby at_253) rfl ?_
    show Steps p.tables e below (T37.setTop (mkF m 255 #[.val (.int p1), .val (.int p2), .val (.int p3), .val (.int p4), .val (.ref b5), .val (.int (p4 &&& (3 : Int32))), .val (.int cc), .unset, .unset] [(.int cc), (.int (own_ge cc (65 : Int32)))])) _
    refine XS.aload X37.here hx rfl (hb hby at_255) rfl rfl ?_
    show Steps p.tables e below (T37.setTop (mkF m 257 #[.val (.int p1), .val (.int p2), .val (.int p3), .val (.int p4), .val (.ref b5), .val (.int (p4 &&& (3 : Int32))), .val (.int cc), .unset, .unset] [(.ref b5), (.int cc), (.int (own_ge cc (65 : Int32)))])) _
    refine XS.iconst X37.here hx rfl (hb hby at_257) ?_
    show Steps p.tables e below (T37.setTop (mkF m 258 #[.val (.int p1), .val (.int p2), .val (.int p3), .val (.int p4), .val (.ref b5), .val (.int (p4 &&& (3 : Int32))), .val (.int cc), .unset, .unset] [(.int (1 : Int32)), (.ref b5), (.int cc), (.int (own_ge cc (65 : Int32)))])) _
    refine X37.iaload hx (j := (1 : Int32)) (v := (.int (91 : Int32))) (by rw [e37q]; exact Ar_b5.1) (State.isArrayOf_alike hZ.alike Ar_b5.2.1) Ar_b5.2.2 hin258 hat258 (g := (mkF m 258 #[.val (.int p1), .val (.int p2), .val (.int p3), .val (.int p4), .val (.ref b5), .val (.int (p4 &&& (3 : Int32))), .val (.int cc), .unset, .unset] [(.int (1 : Int32)), (.ref b5), (.int cc), (.int (own_ge cc (65 : Int32)))])) rfl rfl (hb hby at_258) _ ?_
    show Steps p.tables e below (T37.setTop (mkF m 259 #[.val (.int p1), .val (.int p2), .val (.int p3), .val (.int p4), .val (.ref b5), .val (.int (p4 &&& (3 : Int32))), .val (.int cc), .unset, .unset] [(.int (91 : Int32)), (.int cc), (.int (own_ge cc (65 : Int32)))])) _
    refine st39 _ ?_
    show Steps p.tables e below (T39.setTop (mkF m 262 #[.val (.int p1), .val (.int p2), .val (.int p3), .val (.int p4), .val (.ref b5), .val (.int (p4 &&& (3 : Int32))), .val (.int cc), .unset, .unset] [(.int (own_ge cc (91 : Int32))), (.int (own_ge cc (65 : Int32)))])) _
    refine XS.iadd X39.here hx rfl (hb hby at_262) rfl ?_
    show Steps p.tables e below (T39.setTop (mkF m 263 #[.val (.int p1), .val (.int p2), .val (.int p3), .val (.int p4), .val (.ref b5), .val (.int (p4 &&& (3 : Int32))), .val (.int cc), .unset, .unset] [(.int ((own_ge cc (65 : Int32)) + (own_ge cc (91 : Int32))))])) _
    refine XS.iload X39.here hx rfl (hb hby at_263) rfl ?_
    show Steps p.tables e below (T39.setTop (mkF m 265 #[.val (.int p1), .val (.int p2), .val (.int p3), .val (.int p4), .val (.ref b5), .val (.int (p4 &&& (3 : Int32))), .val (.int cc), .unset, .unset] [(.int cc), (.int ((own_ge cc (65 : Int32)) + (own_ge cc (91 : Int32))))])) _
    refine XS.aload X39.here hx rfl (hb hby at_265) rfl rfl ?_
    show Steps p.tables e below (T39.setTop (mkF m 267 #[.val (.int p1), .val (.int p2), .val (.int p3), .val (.int p4), .val (.ref b5), .val (.int (p4 &&& (3 : Int32))), .val (.int cc), .unset, .unset] [(.ref b5), (.int cc), (.int ((own_ge cc (65 : Int32)) + (own_ge cc (91 : Int32))))])) _
    refine XS.iconst X39.here hx rfl (hb hby at_267) ?_
    show Steps p.tables e below (T39.setTop (mkF m 268 #[.val (.int p1), .val (.int p2), .val (.int p3), .val (.int p4), .val (.ref b5), .val (.int (p4 &&& (3 : Int32))), .val (.int cc), .unset, .unset] [(.int (2 : Int32)), (.ref b5), (.int cc), (.int ((own_ge cc (65 : Int32)) + (own_ge cc (91 : Int32))))])) _
    refine X39.iaload hx (j := (2 : Int32)) (v := (.int (95 : Int32))) (by rw [e39q]; exact Ar_b5.1) (State.isArrayOf_alike hZ.alike Ar_b5.2.1) Ar_b5.2.2 hin268 hat268 (g := (mkF m 268 #[.val (.int p1), .val (.int p2), .val (.int p3), .val (.int p4), .val (.ref b5), .val (.int (p4 &&& (3 : Int32))), .val (.int cc), .unset, .unset] [(.int (2 : Int32)), (.ref b5), (.int cc), (.int ((own_ge cc (65 : Int32)) + (own_ge cc (91 : Int32))))])) rfl rfl (hb hby at_268) _ ?_
    show Steps p.tables e below (T39.setTop (mkF m 269 #[.val (.int p1), .val (.int p2), .val (.int p3), .val (.int p4), .val (.ref b5), .val (.int (p4 &&& (3 : Int32))), .val (.int cc), .unset, .unset] [(.int (95 : Int32)), (.int cc), (.int ((own_ge cc (65 : Int32)) + (own_ge cc (91 : Int32))))])) _
    refine st41 _ ?_
    show Steps p.tables e below (T41.setTop (mkF m 272 #[.val (.int p1), .val (.int p2), .val (.int p3), .val (.int p4), .val (.ref b5), .val (.int (p4 &&& (3 : Int32))), .val (.int cc), .unset, .unset] [(.int (own_ge cc (95 : Int32))), (.int ((own_ge cc (65 : Int32)) + (own_ge cc (91 : Int32))))])) _
    refine XS.iadd X41.here hx rfl (hb hby at_272) rfl ?_
    show Steps p.tables e below (T41.setTop (mkF m 273 #[.val (.int p1), .val (.int p2), .val (.int p3), .val (.int p4), .val (.ref b5), .val (.int (p4 &&& (3 : Int32))), .val (.int cc), .unset, .unset] [(.int (((own_ge cc (65 : Int32)) + (own_ge cc (91 : Int32))) + (own_ge cc (95 : Int32))))])) _
    refine XS.iload X41.here hx rfl (hb hby at_273) rfl ?_
    show Steps p.tables e below (T41.setTop (mkF m 275 #[.val (.int p1), .val (.int p2), .val (.int p3), .val (.int p4), .val (.ref b5), .val (.int (p4 &&& (3 : Int32))), .val (.int cc), .unset, .unset] [(.int cc), (.int (((own_ge cc (65 : Int32)) + (own_ge cc (91 : Int32))) + (own_ge cc (95 : Int32))))])) _
    refine XS.aload X41.here hx rfl (hb hby at_275) rfl rfl ?_
    show Steps p.tables e below (T41.setTop (mkF m 277 #[.val (.int p1), .val (.int p2), .val (.int p3), .val (.int p4), .val (.ref b5), .val (.int (p4 &&& (3 : Int32))), .val (.int cc), .unset, .unset] [(.ref b5), (.int cc), (.int (((own_ge cc (65 : Int32)) + (own_ge cc (91 : Int32))) + (own_ge cc (95 : Int32))))])) _
    refine XS.iconst X41.here hx rfl (hb hby at_277) ?_
    show Steps p.tables e below (T41.setTop (mkF m 278 #[.val (.int p1), .val (.int p2), .val (.int p3), .val (.int p4), .val (.ref b5), .val (.int (p4 &&& (3 : Int32))), .val (.int cc), .unset, .unset] [(.int (3 : Int32)), (.ref b5), (.int cc), (.int (((own_ge cc (65 : Int32)) + (own_ge cc (91 : Int32))) + (own_ge cc (95 : Int32))))])) _
    refine X41.iaload hx (j := (3 : Int32)) (v := (.int (96 : Int32))) (by rw [e41q]; exact Ar_b5.1) (State.isArrayOf_alike hZ.alike Ar_b5.2.1) Ar_b5.2.2 hin278 hat278 (g := (mkF m 278 #[.val (.int p1), .val (.int p2), .val (.int p3), .val (.int p4), .val (.ref b5), .val (.int (p4 &&& (3 : Int32))), .val (.int cc), .unset, .unset] [(.int (3 : Int32)), (.ref b5), (.int cc), (.int (((own_ge cc (65 : Int32)) + (own_ge cc (91 : Int32))) + (own_ge cc (95 : Int32))))])) rfl rfl (hb hby at_278) _ ?_
    show Steps p.tables e below (T41.setTop (mkF m 279 #[.val (.int p1), .val (.int p2), .val (.int p3), .val (.int p4), .val (.ref b5), .val (.int (p4 &&& (3 : Int32))), .val (.int cc), .unset, .unset] [(.int (96 : Int32)), (.int cc), (.int (((own_ge cc (65 : Int32)) + (own_ge cc (91 : Int32))) + (own_ge cc (95 : Int32))))])) _
    refine st43 _ ?_
    show Steps p.tables e below (T43.setTop (mkF m 282 #[.val (.int p1), .val (.int p2), .val (.int p3), .val (.int p4), .val (.ref b5), .val (.int (p4 &&& (3 : Int32))), .val (.int cc), .unset, .unset] [(.int (own_ge cc (96 : Int32))), (.int (((own_ge cc (65 : Int32)) + (own_ge cc (91 : Int32))) + (own_ge cc (95 : Int32))))])) _
    refine XS.iadd X43.here hx rfl (hb hby at_282) rfl ?_
    show Steps p.tables e below (T43.setTop (mkF m 283 #[.val (.int p1), .val (.int p2), .val (.int p3), .val (.int p4), .val (.ref b5), .val (.int (p4 &&& (3 : Int32))), .val (.int cc), .unset, .unset] [(.int ((((own_ge cc (65 : Int32)) + (own_ge cc (91 : Int32))) + (own_ge cc (95 : Int32))) + (own_ge cc (96 : Int32))))])) _
    refine XS.iload X43.here hx rfl (hb hby at_283) rfl ?_
    show Steps p.tables e below (T43.setTop (mkF m 285 #[.val (.int p1), .val (.int p2), .val (.int p3), .val (.int p4), .val (.ref b5), .val (.int (p4 &&& (3 : Int32))), .val (.int cc), .unset, .unset] [(.int cc), (.int ((((own_ge cc (65 : Int32)) + (own_ge cc (91 : Int32))) + (own_ge cc (95 : Int32))) + (own_ge cc (96 : Int32))))])) _
    refine XS.aload X43.here hx rfl (hb hby at_285) rfl rfl ?_
    show Steps p.tables e below (T43.setTop (mkF m 287 #[.val (.int p1), .val (.int p2), .val (.int p3), .val (.int p4), .val (.ref b5), .val (.int (p4 &&& (3 : Int32))), .val (.int cc), .unset, .unset] [(.ref b5), (.int cc), (.int ((((own_ge cc (65 : Int32)) + (own_ge cc (91 : Int32))) + (own_ge cc (95 : Int32))) + (own_ge cc (96 : Int32))))])) _
    refine XS.iconst X43.here hx rfl (hb hby at_287) ?_
    show Steps p.tables e below (T43.setTop (mkF m 288 #[.val (.int p1), .val (.int p2), .val (.int p3), .val (.int p4), .val (.ref b5), .val (.int (p4 &&& (3 : Int32))), .val (.int cc), .unset, .unset] [(.int (4 : Int32)), (.ref b5), (.int cc), (.int ((((own_ge cc (65 : Int32)) + (own_ge cc (91 : Int32))) + (own_ge cc (95 : Int32))) + (own_ge cc (96 : Int32))))])) _
    refine X43.iaload hx (j := (4 : Int32)) (v := (.int (97 : Int32))) (by rw [e43q]; exact Ar_b5.1) (State.isArrayOf_alike hZ.alike Ar_b5.2.1) Ar_b5.2.2 hin288 hat288 (g := (mkF m 288 #[.val (.int p1), .val (.int p2), .val (.int p3), .val (.int p4), .val (.ref b5), .val (.int (p4 &&& (3 : Int32))), .val (.int cc), .unset, .unset] [(.int (4 : Int32)), (.ref b5), (.int cc), (.int ((((own_ge cc (65 : Int32)) + (own_ge cc (91 : Int32))) + (own_ge cc (95 : Int32))) + (own_ge cc (96 : Int32))))])) rfl rfl (hb hby at_288) _ ?_
    show Steps p.tables e below (T43.setTop (mkF m 289 #[.val (.int p1), .val (.int p2), .val (.int p3), .val (.int p4), .val (.ref b5), .val (.int (p4 &&& (3 : Int32))), .val (.int cc), .unset, .unset] [(.int (97 : Int32)), (.int cc), (.int ((((own_ge cc (65 : Int32)) + (own_ge cc (91 : Int32))) + (own_ge cc (95 : Int32))) + (own_ge cc (96 : Int32))))])) _
    refine st45 _ ?_
    show Steps p.tables e below (T45.setTop (mkF m 292 #[.val (.int p1), .val (.int p2), .val (.int p3), .val (.int p4), .val (.ref b5), .val (.int (p4 &&& (3 : Int32))), .val (.int cc), .unset, .unset] [(.int (own_ge cc (97 : Int32))), (.int ((((own_ge cc (65 : Int32)) + (own_ge cc (91 : Int32))) + (own_ge cc (95 : Int32))) + (own_ge cc (96 : Int32))))])) _
    refine XS.iadd X45.here hx rfl (hb hby at_292) rfl ?_
    show Steps p.tables e below (T45.setTop (mkF m 293 #[.val (.int p1), .val (.int p2), .val (.int p3), .val (.int p4), .val (.ref b5), .val (.int (p4 &&& (3 : Int32))), .val (.int cc), .unset, .unset] [(.int (((((own_ge cc (65 : Int32)) + (own_ge cc (91 : Int32))) + (own_ge cc (95 : Int32))) + (own_ge cc (96 : Int32))) + (own_ge cc (97 : Int32))))])) _
    refine XS.iload X45.here hx rfl (hb hby at_293) rfl ?_
    show Steps p.tables e below (T45.setTop (mkF m 295 #[.val (.int p1), .val (.int p2), .val (.int p3), .val (.int p4), .val (.ref b5), .val (.int (p4 &&& (3 : Int32))), .val (.int cc), .unset, .unset] [(.int cc), (.int (((((own_ge cc (65 : Int32)) + (own_ge cc (91 : Int32))) + (own_ge cc (95 : Int32))) + (own_ge cc (96 : Int32))) + (own_ge cc (97 : Int32))))])) _
    refine XS.aload X45.here hx rfl (hb hby at_295) rfl rfl ?_
    show Steps p.tables e below (T45.setTop (mkF m 297 #[.val (.int p1), .val (.int p2), .val (.int p3), .val (.int p4), .val (.ref b5), .val (.int (p4 &&& (3 : Int32))), .val (.int cc), .unset, .unset] [(.ref b5), (.int cc), (.int (((((own_ge cc (65 : Int32)) + (own_ge cc (91 : Int32))) + (own_ge cc (95 : Int32))) + (own_ge cc (96 : Int32))) + (own_ge cc (97 : Int32))))])) _
    refine XS.iconst X45.here hx rfl (hb hby at_297) ?_
    show Steps p.tables e below (T45.setTop (mkF m 298 #[.val (.int p1), .val (.int p2), .val (.int p3), .val (.int p4), .val (.ref b5), .val (.int (p4 &&& (3 : Int32))), .val (.int cc), .unset, .unset] [(.int (5 : Int32)), (.ref b5), (.int cc), (.int (((((own_ge cc (65 : Int32)) + (own_ge cc (91 : Int32))) + (own_ge cc (95 : Int32))) + (own_ge cc (96 : Int32))) + (own_ge cc (97 : Int32))))])) _
    refine X45.iaload hx (j := (5 : Int32)) (v := (.int (123 : Int32))) (by rw [e45q]; exact Ar_b5.1) (State.isArrayOf_alike hZ.alike Ar_b5.2.1) Ar_b5.2.2 hin298 hat298 (g := (mkF m 298 #[.val (.int p1), .val (.int p2), .val (.int p3), .val (.int p4), .val (.ref b5), .val (.int (p4 &&& (3 : Int32))), .val (.int cc), .unset, .unset] [(.int (5 : Int32)), (.ref b5), (.int cc), (.int (((((own_ge cc (65 : Int32)) + (own_ge cc (91 : Int32))) + (own_ge cc (95 : Int32))) + (own_ge cc (96 : Int32))) + (own_ge cc (97 : Int32))))])) rfl rfl (hb hby at_298) _ ?_
    show Steps p.tables e below (T45.setTop (mkF m 299 #[.val (.int p1), .val (.int p2), .val (.int p3), .val (.int p4), .val (.ref b5), .val (.int (p4 &&& (3 : Int32))), .val (.int cc), .unset, .unset] [(.int (123 : Int32)), (.int cc), (.int (((((own_ge cc (65 : Int32)) + (own_ge cc (91 : Int32))) + (own_ge cc (95 : Int32))) + (own_ge cc (96 : Int32))) + (own_ge cc (97 : Int32))))])) _
    refine st47 _ ?_
    show Steps p.tables e below (T47.setTop (mkF m 302 #[.val (.int p1), .val (.int p2), .val (.int p3), .val (.int p4), .val (.ref b5), .val (.int (p4 &&& (3 : Int32))), .val (.int cc), .unset, .unset] [(.int (own_ge cc (123 : Int32))), (.int (((((own_ge cc (65 : Int32)) + (own_ge cc (91 : Int32))) + (own_ge cc (95 : Int32))) + (own_ge cc (96 : Int32))) + (own_ge cc (97 : Int32))))])) _
    refine XS.iadd X47.here hx rfl (hb hby at_302) rfl ?_
    show Steps p.tables e below (T47.setTop (mkF m 303 #[.val (.int p1), .val (.int p2), .val (.int p3), .val (.int p4), .val (.ref b5), .val (.int (p4 &&& (3 : Int32))), .val (.int cc), .unset, .unset] [(.int ((((((own_ge cc (65 : Int32)) + (own_ge cc (91 : Int32))) + (own_ge cc (95 : Int32))) + (own_ge cc (96 : Int32))) + (own_ge cc (97 : Int32))) + (own_ge cc (123 : Int32))))])) _
    refine XS.iload X47.here hx rfl (hb hby at_303) rfl ?_
    show Steps p.tables e below (T47.setTop (mkF m 305 #[.val (.int p1), .val (.int p2), .val (.int p3), .val (.int p4), .val (.ref b5), .val (.int (p4 &&& (3 : Int32))), .val (.int cc), .unset, .unset] [(.int cc), (.int ((((((own_ge cc (65 : Int32)) + (own_ge cc (91 : Int32))) + (own_ge cc (95 : Int32))) + (own_ge cc (96 : Int32))) + (own_ge cc (97 : Int32))) + (own_ge cc (123 : Int32))))])) _
    refine XS.aload X47.here hx rfl (hb hby at_305) rfl rfl ?_
    show Steps p.tables e below (T47.setTop (mkF m 307 #[.val (.int p1), .val (.int p2), .val (.int p3), .val (.int p4), .val (.ref b5), .val (.int (p4 &&& (3 : Int32))), .val (.int cc), .unset, .unset] [(.ref b5), (.int cc), (.int ((((((own_ge cc (65 : Int32)) + (own_ge cc (91 : Int32))) + (own_ge cc (95 : Int32))) + (own_ge cc (96 : Int32))) + (own_ge cc (97 : Int32))) + (own_ge cc (123 : Int32))))])) _
    refine XS.bipush X47.here hx rfl (hb hby at_307) ?_
    show Steps p.tables e below (T47.setTop (mkF m 309 #[.val (.int p1), .val (.int p2), .val (.int p3), .val (.int p4), .val (.ref b5), .val (.int (p4 &&& (3 : Int32))), .val (.int cc), .unset, .unset] [(.int (6 : Int32)), (.ref b5), (.int cc), (.int ((((((own_ge cc (65 : Int32)) + (own_ge cc (91 : Int32))) + (own_ge cc (95 : Int32))) + (own_ge cc (96 : Int32))) + (own_ge cc (97 : Int32))) + (own_ge cc (123 : Int32))))])) _
    refine X47.iaload hx (j := (6 : Int32)) (v := (.int (192 : Int32))) (by rw [e47q]; exact Ar_b5.1) (State.isArrayOf_alike hZ.alike Ar_b5.2.1) Ar_b5.2.2 hin309 hat309 (g := (mkF m 309 #[.val (.int p1), .val (.int p2), .val (.int p3), .val (.int p4), .val (.ref b5), .val (.int (p4 &&& (3 : Int32))), .val (.int cc), .unset, .unset] [(.int (6 : Int32)), (.ref b5), (.int cc), (.int ((((((own_ge cc (65 : Int32)) + (own_ge cc (91 : Int32))) + (own_ge cc (95 : Int32))) + (own_ge cc (96 : Int32))) + (own_ge cc (97 : Int32))) + (own_ge cc (123 : Int32))))])) rfl rfl (hb hby at_309) _ ?_
    show Steps p.tables e below (T47.setTop (mkF m 310 #[.val (.int p1), .val (.int p2), .val (.int p3), .val (.int p4), .val (.ref b5), .val (.int (p4 &&& (3 : Int32))), .val (.int cc), .unset, .unset] [(.int (192 : Int32)), (.int cc), (.int ((((((own_ge cc (65 : Int32)) + (own_ge cc (91 : Int32))) + (own_ge cc (95 : Int32))) + (own_ge cc (96 : Int32))) + (own_ge cc (97 : Int32))) + (own_ge cc (123 : Int32))))])) _
    refine st49 _ ?_
    show Steps p.tables e below (T49.setTop (mkF m 313 #[.val (.int p1), .val (.int p2), .val (.int p3), .val (.int p4), .val (.ref b5), .val (.int (p4 &&& (3 : Int32))), .val (.int cc), .unset, .unset] [(.int (own_ge cc (192 : Int32))), (.int ((((((own_ge cc (65 : Int32)) + (own_ge cc (91 : Int32))) + (own_ge cc (95 : Int32))) + (own_ge cc (96 : Int32))) + (own_ge cc (97 : Int32))) + (own_ge cc (123 : Int32))))])) _
    refine XS.iadd X49.here hx rfl (hb hby at_313) rfl ?_
    show Steps p.tables e below (T49.setTop (mkF m 314 #[.val (.int p1), .val (.int p2), .val (.int p3), .val (.int p4), .val (.ref b5), .val (.int (p4 &&& (3 : Int32))), .val (.int cc), .unset, .unset] [(.int (((((((own_ge cc (65 : Int32)) + (own_ge cc (91 : Int32))) + (own_ge cc (95 : Int32))) + (own_ge cc (96 : Int32))) + (own_ge cc (97 : Int32))) + (own_ge cc (123 : Int32))) + (own_ge cc (192 : Int32))))])) _
    refine XS.iload X49.here hx rfl (hb hby at_314) rfl ?_
    show Steps p.tables e below (T49.setTop (mkF m 316 #[.val (.int p1), .val (.int p2), .val (.int p3), .val (.int p4), .val (.ref b5), .val (.int (p4 &&& (3 : Int32))), .val (.int cc), .unset, .unset] [(.int cc), (.int (((((((own_ge cc (65 : Int32)) + (own_ge cc (91 : Int32))) + (own_ge cc (95 : Int32))) + (own_ge cc (96 : Int32))) + (own_ge cc (97 : Int32))) + (own_ge cc (123 : Int32))) + (own_ge cc (192 : Int32))))])) _
    refine XS.aload X49.here hx rfl (hb hby at_316) rfl rfl ?_
    show Steps p.tables e below (T49.setTop (mkF m 318 #[.val (.int p1), .val (.int p2), .val (.int p3), .val (.int p4), .val (.ref b5), .val (.int (p4 &&& (3 : Int32))), .val (.int cc), .unset, .unset] [(.ref b5), (.int cc), (.int (((((((own_ge cc (65 : Int32)) + (own_ge cc (91 : Int32))) + (own_ge cc (95 : Int32))) + (own_ge cc (96 : Int32))) + (own_ge cc (97 : Int32))) + (own_ge cc (123 : Int32))) + (own_ge cc (192 : Int32))))])) _
    refine XS.bipush X49.here hx rfl (hb hby at_318) ?_
    show Steps p.tables e below (T49.setTop (mkF m 320 #[.val (.int p1), .val (.int p2), .val (.int p3), .val (.int p4), .val (.ref b5), .val (.int (p4 &&& (3 : Int32))), .val (.int cc), .unset, .unset] [(.int (7 : Int32)), (.ref b5), (.int cc), (.int (((((((own_ge cc (65 : Int32)) + (own_ge cc (91 : Int32))) + (own_ge cc (95 : Int32))) + (own_ge cc (96 : Int32))) + (own_ge cc (97 : Int32))) + (own_ge cc (123 : Int32))) + (own_ge cc (192 : Int32))))])) _
    refine X49.iaload hx (j := (7 : Int32)) (v := (.int (215 : Int32))) (by rw [e49q]; exact Ar_b5.1) (State.isArrayOf_alike hZ.alike Ar_b5.2.1) Ar_b5.2.2 hin320 hat320 (g := (mkF m 320 #[.val (.int p1), .val (.int p2), .val (.int p3), .val (.int p4), .val (.ref b5), .val (.int (p4 &&& (3 : Int32))), .val (.int cc), .unset, .unset] [(.int (7 : Int32)), (.ref b5), (.int cc), (.int (((((((own_ge cc (65 : Int32)) + (own_ge cc (91 : Int32))) + (own_ge cc (95 : Int32))) + (own_ge cc (96 : Int32))) + (own_ge cc (97 : Int32))) + (own_ge cc (123 : Int32))) + (own_ge cc (192 : Int32))))])) rfl rfl (hb hby at_320) _ ?_
    show Steps p.tables e below (T49.setTop (mkF m 321 #[.val (.int p1), .val (.int p2), .val (.int p3), .val (.int p4), .val (.ref b5), .val (.int (p4 &&& (3 : Int32))), .val (.int cc), .unset, .unset] [(.int (215 : Int32)), (.int cc), (.int (((((((own_ge cc (65 : Int32)) + (own_ge cc (91 : Int32))) + (own_ge cc (95 : Int32))) + (own_ge cc (96 : Int32))) + (own_ge cc (97 : Int32))) + (own_ge cc (123 : Int32))) + (own_ge cc (192 : Int32))))])) _
    refine st51 _ ?_
    show Steps p.tables e below (T51.setTop (mkF m 324 #[.val (.int p1), .val (.int p2), .val (.int p3), .val (.int p4), .val (.ref b5), .val (.int (p4 &&& (3 : Int32))), .val (.int cc), .unset, .unset] [(.int (own_ge cc (215 : Int32))), (.int (((((((own_ge cc (65 : Int32)) + (own_ge cc (91 : Int32))) + (own_ge cc (95 : Int32))) + (own_ge cc (96 : Int32))) + (own_ge cc (97 : Int32))) + (own_ge cc (123 : Int32))) + (own_ge cc (192 : Int32))))])) _
    refine XS.iadd X51.here hx rfl (hb hby at_324) rfl ?_
    show Steps p.tables e below (T51.setTop (mkF m 325 #[.val (.int p1), .val (.int p2), .val (.int p3), .val (.int p4), .val (.ref b5), .val (.int (p4 &&& (3 : Int32))), .val (.int cc), .unset, .unset] [(.int ((((((((own_ge cc (65 : Int32)) + (own_ge cc (91 : Int32))) + (own_ge cc (95 : Int32))) + (own_ge cc (96 : Int32))) + (own_ge cc (97 : Int32))) + (own_ge cc (123 : Int32))) + (own_ge cc (192 : Int32))) + (own_ge cc (215 : Int32))))])) _
    refine XS.iload X51.here hx rfl (hb hby at_325) rfl ?_
    show Steps p.tables e below (T51.setTop (mkF m 327 #[.val (.int p1), .val (.int p2), .val (.int p3), .val (.int p4), .val (.ref b5), .val (.int (p4 &&& (3 : Int32))), .val (.int cc), .unset, .unset] [(.int cc), (.int ((((((((own_ge cc (65 : Int32)) + (own_ge cc (91 : Int32))) + (own_ge cc (95 : Int32))) + (own_ge cc (96 : Int32))) + (own_ge cc (97 : Int32))) + (own_ge cc (123 : Int32))) + (own_ge cc (192 : Int32))) + (own_ge cc (215 : Int32))))])) _
    refine XS.aload X51.here hx rfl (hb hby at_327) rfl rfl ?_
    show Steps p.tables e below (T51.setTop (mkF m 329 #[.val (.int p1), .val (.int p2), .val (.int p3), .val (.int p4), .val (.ref b5), .val (.int (p4 &&& (3 : Int32))), .val (.int cc), .unset, .unset] [(.ref b5), (.int cc), (.int ((((((((own_ge cc (65 : Int32)) + (own_ge cc (91 : Int32))) + (own_ge cc (95 : Int32))) + (own_ge cc (96 : Int32))) + (own_ge cc (97 : Int32))) + (own_ge cc (123 : Int32))) + (own_ge cc (192 : Int32))) + (own_ge cc (215 : Int32))))])) _
    refine XS.bipush X51.here hx rfl (hb hby at_329) ?_
    show Steps p.tables e below (T51.setTop (mkF m 331 #[.val (.int p1), .val (.int p2), .val (.int p3), .val (.int p4), .val (.ref b5), .val (.int (p4 &&& (3 : Int32))), .val (.int cc), .unset, .unset] [(.int (8 : Int32)), (.ref b5), (.int cc), (.int ((((((((own_ge cc (65 : Int32)) + (own_ge cc (91 : Int32))) + (own_ge cc (95 : Int32))) + (own_ge cc (96 : Int32))) + (own_ge cc (97 : Int32))) + (own_ge cc (123 : Int32))) + (own_ge cc (192 : Int32))) + (own_ge cc (215 : Int32))))])) _
    refine X51.iaload hx (j := (8 : Int32)) (v := (.int (216 : Int32))) (by rw [e51q]; exact Ar_b5.1) (State.isArrayOf_alike hZ.alike Ar_b5.2.1) Ar_b5.2.2 hin331 hat331 (g := (mkF m 331 #[.val (.int p1), .val (.int p2), .val (.int p3), .val (.int p4), .val (.ref b5), .val (.int (p4 &&& (3 : Int32))), .val (.int cc), .unset, .unset] [(.int (8 : Int32)), (.ref b5), (.int cc), (.int ((((((((own_ge cc (65 : Int32)) + (own_ge cc (91 : Int32))) + (own_ge cc (95 : Int32))) + (own_ge cc (96 : Int32))) + (own_ge cc (97 : Int32))) + (own_ge cc (123 : Int32))) + (own_ge cc (192 : Int32))) + (own_ge cc (215 : Int32))))])) rfl rfl (hb hby at_331) _ ?_
    show Steps p.tables e below (T51.setTop (mkF m 332 #[.val (.int p1), .val (.int p2), .val (.int p3), .val (.int p4), .val (.ref b5), .val (.int (p4 &&& (3 : Int32))), .val (.int cc), .unset, .unset] [(.int (216 : Int32)), (.int cc), (.int ((((((((own_ge cc (65 : Int32)) + (own_ge cc (91 : Int32))) + (own_ge cc (95 : Int32))) + (own_ge cc (96 : Int32))) + (own_ge cc (97 : Int32))) + (own_ge cc (123 : Int32))) + (own_ge cc (192 : Int32))) + (own_ge cc (215 : Int32))))])) _
    refine st53 _ ?_
    show Steps p.tables e below (T53.setTop (mkF m 335 #[.val (.int p1), .val (.int p2), .val (.int p3), .val (.int p4), .val (.ref b5), .val (.int (p4 &&& (3 : Int32))), .val (.int cc), .unset, .unset] [(.int (own_ge cc (216 : Int32))), (.int ((((((((own_ge cc (65 : Int32)) + (own_ge cc (91 : Int32))) + (own_ge cc (95 : Int32))) + (own_ge cc (96 : Int32))) + (own_ge cc (97 : Int32))) + (own_ge cc (123 : Int32))) + (own_ge cc (192 : Int32))) + (own_ge cc (215 : Int32))))])) _
    refine XS.iadd X53.here hx rfl (hb hby at_335) rfl ?_
    show Steps p.tables e below (T53.setTop (mkF m 336 #[.val (.int p1), .val (.int p2), .val (.int p3), .val (.int p4), .val (.ref b5), .val (.int (p4 &&& (3 : Int32))), .val (.int cc), .unset, .unset] [(.int (((((((((own_ge cc (65 : Int32)) + (own_ge cc (91 : Int32))) + (own_ge cc (95 : Int32))) + (own_ge cc (96 : Int32))) + (own_ge cc (97 : Int32))) + (own_ge cc (123 : Int32))) + (own_ge cc (192 : Int32))) + (own_ge cc (215 : Int32))) + (own_ge cc (216 : Int32))))])) _
    refine XS.iload X53.here hx rfl (hb hby at_336) rfl ?_
    show Steps p.tables e below (T53.setTop (mkF m 338 #[.val (.int p1), .val (.int p2), .val (.int p3), .val (.int p4), .val (.ref b5), .val (.int (p4 &&& (3 : Int32))), .val (.int cc), .unset, .unset] [(.int cc), (.int (((((((((own_ge cc (65 : Int32)) + (own_ge cc (91 : Int32))) + (own_ge cc (95 : Int32))) + (own_ge cc (96 : Int32))) + (own_ge cc (97 : Int32))) + (own_ge cc (123 : Int32))) + (own_ge cc (192 : Int32))) + (own_ge cc (215 : Int32))) + (own_ge cc (216 : Int32))))])) _
    refine XS.aload X53.here hx rfl (hb hby at_338) rfl rfl ?_
    show Steps p.tables e below (T53.setTop (mkF m 340 #[.val (.int p1), .val (.int p2), .val (.int p3), .val (.int p4), .val (.ref b5), .val (.int (p4 &&& (3 : Int32))), .val (.int cc), .unset, .unset] [(.ref b5), (.int cc), (.int (((((((((own_ge cc (65 : Int32)) + (own_ge cc (91 : Int32))) + (own_ge cc (95 : Int32))) + (own_ge cc (96 : Int32))) + (own_ge cc (97 : Int32))) + (own_ge cc (123 : Int32))) + (own_ge cc (192 : Int32))) + (own_ge cc (215 : Int32))) + (own_ge cc (216 : Int32))))])) _
    refine XS.bipush X53.here hx rfl (hb hby at_340) ?_
    show Steps p.tables e below (T53.setTop (mkF m 342 #[.val (.int p1), .val (.int p2), .val (.int p3), .val (.int p4), .val (.ref b5), .val (.int (p4 &&& (3 : Int32))), .val (.int cc), .unset, .unset] [(.int (9 : Int32)), (.ref b5), (.int cc), (.int (((((((((own_ge cc (65 : Int32)) + (own_ge cc (91 : Int32))) + (own_ge cc (95 : Int32))) + (own_ge cc (96 : Int32))) + (own_ge cc (97 : Int32))) + (own_ge cc (123 : Int32))) + (own_ge cc (192 : Int32))) + (own_ge cc (215 : Int32))) + (own_ge cc (216 : Int32))))])) _
    refine X53.iaload hx (j := (9 : Int32)) (v := (.int (247 : Int32))) (by rw [e53q]; exact Ar_b5.1) (State.isArrayOf_alike hZ.alike Ar_b5.2.1) Ar_b5.2.2 hin342 hat342 (g := (mkF m 342 #[.val (.int p1), .val (.int p2), .val (.int p3), .val (.int p4), .val (.ref b5), .val (.int (p4 &&& (3 : Int32))), .val (.int cc), .unset, .unset] [(.int (9 : Int32)), (.ref b5), (.int cc), (.int (((((((((own_ge cc (65 : Int32)) + (own_ge cc (91 : Int32))) + (own_ge cc (95 : Int32))) + (own_ge cc (96 : Int32))) + (own_ge cc (97 : Int32))) + (own_ge cc (123 : Int32))) + (own_ge cc (192 : Int32))) + (own_ge cc (215 : Int32))) + (own_ge cc (216 : Int32))))])) rfl rfl (hb hby at_342) _ ?_
    show Steps p.tables e below (T53.setTop (mkF m 343 #[.val (.int p1), .val (.int p2), .val (.int p3), .val (.int p4), .val (.ref b5), .val (.int (p4 &&& (3 : Int32))), .val (.int cc), .unset, .unset] [(.int (247 : Int32)), (.int cc), (.int (((((((((own_ge cc (65 : Int32)) + (own_ge cc (91 : Int32))) + (own_ge cc (95 : Int32))) + (own_ge cc (96 : Int32))) + (own_ge cc (97 : Int32))) + (own_ge cc (123 : Int32))) + (own_ge cc (192 : Int32))) + (own_ge cc (215 : Int32))) + (own_ge cc (216 : Int32))))])) _
    refine st55 _ ?_
    show Steps p.tables e below (T55.setTop (mkF m 346 #[.val (.int p1), .val (.int p2), .val (.int p3), .val (.int p4), .val (.ref b5), .val (.int (p4 &&& (3 : Int32))), .val (.int cc), .unset, .unset] [(.int (own_ge cc (247 : Int32))), (.int (((((((((own_ge cc (65 : Int32)) + (own_ge cc (91 : Int32))) + (own_ge cc (95 : Int32))) + (own_ge cc (96 : Int32))) + (own_ge cc (97 : Int32))) + (own_ge cc (123 : Int32))) + (own_ge cc (192 : Int32))) + (own_ge cc (215 : Int32))) + (own_ge cc (216 : Int32))))])) _
    refine XS.iadd X55.here hx rfl (hb hby at_346) rfl ?_
    show Steps p.tables e below (T55.setTop (mkF m 347 #[.val (.int p1), .val (.int p2), .val (.int p3), .val (.int p4), .val (.ref b5), .val (.int (p4 &&& (3 : Int32))), .val (.int cc), .unset, .unset] [(.int ((((((((((own_ge cc (65 : Int32)) + (own_ge cc (91 : Int32))) + (own_ge cc (95 : Int32))) + (own_ge cc (96 : Int32))) + (own_ge cc (97 : Int32))) + (own_ge cc (123 : Int32))) + (own_ge cc (192 : Int32))) + (own_ge cc (215 : Int32))) + (own_ge cc (216 : Int32))) + (own_ge cc (247 : Int32))))])) _
    refine XS.iload X55.here hx rfl (hb hby at_347) rfl ?_
    show Steps p.tables e below (T55.setTop (mkF m 349 #[.val (.int p1), .val (.int p2), .val (.int p3), .val (.int p4), .val (.ref b5), .val (.int (p4 &&& (3 : Int32))), .val (.int cc), .unset, .unset] [(.int cc), (.int ((((((((((own_ge cc (65 : Int32)) + (own_ge cc (91 : Int32))) + (own_ge cc (95 : Int32))) + (own_ge cc (96 : Int32))) + (own_ge cc (97 : Int32))) + (own_ge cc (123 : Int32))) + (own_ge cc (192 : Int32))) + (own_ge cc (215 : Int32))) + (own_ge cc (216 : Int32))) + (own_ge cc (247 : Int32))))])) _
    refine XS.aload X55.here hx rfl (hb hby at_349) rfl rfl ?_
    show Steps p.tables e below (T55.setTop (mkF m 351 #[.val (.int p1), .val (.int p2), .val (.int p3), .val (.int p4), .val (.ref b5), .val (.int (p4 &&& (3 : Int32))), .val (.int cc), .unset, .unset] [(.ref b5), (.int cc), (.int ((((((((((own_ge cc (65 : Int32)) + (own_ge cc (91 : Int32))) + (own_ge cc (95 : Int32))) + (own_ge cc (96 : Int32))) + (own_ge cc (97 : Int32))) + (own_ge cc (123 : Int32))) + (own_ge cc (192 : Int32))) + (own_ge cc (215 : Int32))) + (own_ge cc (216 : Int32))) + (own_ge cc (247 : Int32))))])) _
    refine XS.bipush X55.here hx rfl (hb hby at_351) ?_
    show Steps p.tables e below (T55.setTop (mkF m 353 #[.val (.int p1), .val (.int p2), .val (.int p3), .val (.int p4), .val (.ref b5), .val (.int (p4 &&& (3 : Int32))), .val (.int cc), .unset, .unset] [(.int (10 : Int32)), (.ref b5), (.int cc), (.int ((((((((((own_ge cc (65 : Int32)) + (own_ge cc (91 : Int32))) + (own_ge cc (95 : Int32))) + (own_ge cc (96 : Int32))) + (own_ge cc (97 : Int32))) + (own_ge cc (123 : Int32))) + (own_ge cc (192 : Int32))) + (own_ge cc (215 : Int32))) + (own_ge cc (216 : Int32))) + (own_ge cc (247 : Int32))))])) _
    refine X55.iaload hx (j := (10 : Int32)) (v := (.int (248 : Int32))) (by rw [e55q]; exact Ar_b5.1) (State.isArrayOf_alike hZ.alike Ar_b5.2.1) Ar_b5.2.2 hin353 hat353 (g := (mkF m 353 #[.val (.int p1), .val (.int p2), .val (.int p3), .val (.int p4), .val (.ref b5), .val (.int (p4 &&& (3 : Int32))), .val (.int cc), .unset, .unset] [(.int (10 : Int32)), (.ref b5), (.int cc), (.int ((((((((((own_ge cc (65 : Int32)) + (own_ge cc (91 : Int32))) + (own_ge cc (95 : Int32))) + (own_ge cc (96 : Int32))) + (own_ge cc (97 : Int32))) + (own_ge cc (123 : Int32))) + (own_ge cc (192 : Int32))) + (own_ge cc (215 : Int32))) + (own_ge cc (216 : Int32))) + (own_ge cc (247 : Int32))))])) rfl rfl (hb hby at_353) _ ?_
    show Steps p.tables e below (T55.setTop (mkF m 354 #[.val (.int p1), .val (.int p2), .val (.int p3), .val (.int p4), .val (.ref b5), .val (.int (p4 &&& (3 : Int32))), .val (.int cc), .unset, .unset] [(.int (248 : Int32)), (.int cc), (.int ((((((((((own_ge cc (65 : Int32)) + (own_ge cc (91 : Int32))) + (own_ge cc (95 : Int32))) + (own_ge cc (96 : Int32))) + (own_ge cc (97 : Int32))) + (own_ge cc (123 : Int32))) + (own_ge cc (192 : Int32))) + (own_ge cc (215 : Int32))) + (own_ge cc (216 : Int32))) + (own_ge cc (247 : Int32))))])) _
    refine st57 _ ?_
    show Steps p.tables e below (T57.setTop (mkF m 357 #[.val (.int p1), .val (.int p2), .val (.int p3), .val (.int p4), .val (.ref b5), .val (.int (p4 &&& (3 : Int32))), .val (.int cc), .unset, .unset] [(.int (own_ge cc (248 : Int32))), (.int ((((((((((own_ge cc (65 : Int32)) + (own_ge cc (91 : Int32))) + (own_ge cc (95 : Int32))) + (own_ge cc (96 : Int32))) + (own_ge cc (97 : Int32))) + (own_ge cc (123 : Int32))) + (own_ge cc (192 : Int32))) + (own_ge cc (215 : Int32))) + (own_ge cc (216 : Int32))) + (own_ge cc (247 : Int32))))])) _
    refine XS.iadd X57.here hx rfl (hb hby at_357) rfl ?_
    show Steps p.tables e below (T57.setTop (mkF m 358 #[.val (.int p1), .val (.int p2), .val (.int p3), .val (.int p4), .val (.ref b5), .val (.int (p4 &&& (3 : Int32))), .val (.int cc), .unset, .unset] [(.int (((((((((((own_ge cc (65 : Int32)) + (own_ge cc (91 : Int32))) + (own_ge cc (95 : Int32))) + (own_ge cc (96 : Int32))) + (own_ge cc (97 : Int32))) + (own_ge cc (123 : Int32))) + (own_ge cc (192 : Int32))) + (own_ge cc (215 : Int32))) + (own_ge cc (216 : Int32))) + (own_ge cc (247 : Int32))) + (own_ge cc (248 : Int32))))])) _
    refine XS.iload X57.here hx rfl (hb hby at_358) rfl ?_
    show Steps p.tables e below (T57.setTop (mkF m 360 #[.val (.int p1), .val (.int p2), .val (.int p3), .val (.int p4), .val (.ref b5), .val (.int (p4 &&& (3 : Int32))), .val (.int cc), .unset, .unset] [(.int cc), (.int (((((((((((own_ge cc (65 : Int32)) + (own_ge cc (91 : Int32))) + (own_ge cc (95 : Int32))) + (own_ge cc (96 : Int32))) + (own_ge cc (97 : Int32))) + (own_ge cc (123 : Int32))) + (own_ge cc (192 : Int32))) + (own_ge cc (215 : Int32))) + (own_ge cc (216 : Int32))) + (own_ge cc (247 : Int32))) + (own_ge cc (248 : Int32))))])) _
    refine XS.aload X57.here hx rfl (hb hby at_360) rfl rfl ?_
    show Steps p.tables e below (T57.setTop (mkF m 362 #[.val (.int p1), .val (.int p2), .val (.int p3), .val (.int p4), .val (.ref b5), .val (.int (p4 &&& (3 : Int32))), .val (.int cc), .unset, .unset] [(.ref b5), (.int cc), (.int (((((((((((own_ge cc (65 : Int32)) + (own_ge cc (91 : Int32))) + (own_ge cc (95 : Int32))) + (own_ge cc (96 : Int32))) + (own_ge cc (97 : Int32))) + (own_ge cc (123 : Int32))) + (own_ge cc (192 : Int32))) + (own_ge cc (215 : Int32))) + (own_ge cc (216 : Int32))) + (own_ge cc (247 : Int32))) + (own_ge cc (248 : Int32))))])) _
    refine XS.bipush X57.here hx rfl (hb hby at_362) ?_
    show Steps p.tables e below (T57.setTop (mkF m 364 #[.val (.int p1), .val (.int p2), .val (.int p3), .val (.int p4), .val (.ref b5), .val (.int (p4 &&& (3 : Int32))), .val (.int cc), .unset, .unset] [(.int (11 : Int32)), (.ref b5), (.int cc), (.int (((((((((((own_ge cc (65 : Int32)) + (own_ge cc (91 : Int32))) + (own_ge cc (95 : Int32))) + (own_ge cc (96 : Int32))) + (own_ge cc (97 : Int32))) + (own_ge cc (123 : Int32))) + (own_ge cc (192 : Int32))) + (own_ge cc (215 : Int32))) + (own_ge cc (216 : Int32))) + (own_ge cc (247 : Int32))) + (own_ge cc (248 : Int32))))])) _
    refine X57.iaload hx (j := (11 : Int32)) (v := (.int (768 : Int32))) (by rw [e57q]; exact Ar_b5.1) (State.isArrayOf_alike hZ.alike Ar_b5.2.1) Ar_b5.2.2 hin364 hat364 (g := (mkF m 364 #[.val (.int p1), .val (.int p2), .val (.int p3), .val (.int p4), .val (.ref b5), .val (.int (p4 &&& (3 : Int32))), .val (.int cc), .unset, .unset] [(.int (11 : Int32)), (.ref b5), (.int cc), (.int (((((((((((own_ge cc (65 : Int32)) + (own_ge cc (91 : Int32))) + (own_ge cc (95 : Int32))) + (own_ge cc (96 : Int32))) + (own_ge cc (97 : Int32))) + (own_ge cc (123 : Int32))) + (own_ge cc (192 : Int32))) + (own_ge cc (215 : Int32))) + (own_ge cc (216 : Int32))) + (own_ge cc (247 : Int32))) + (own_ge cc (248 : Int32))))])) rfl rfl (hb hby at_364) _ ?_
    show Steps p.tables e below (T57.setTop (mkF m 365 #[.val (.int p1), .val (.int p2), .val (.int p3), .val (.int p4), .val (.ref b5), .val (.int (p4 &&& (3 : Int32))), .val (.int cc), .unset, .unset] [(.int (768 : Int32)), (.int cc), (.int (((((((((((own_ge cc (65 : Int32)) + (own_ge cc (91 : Int32))) + (own_ge cc (95 : Int32))) + (own_ge cc (96 : Int32))) + (own_ge cc (97 : Int32))) + (own_ge cc (123 : Int32))) + (own_ge cc (192 : Int32))) + (own_ge cc (215 : Int32))) + (own_ge cc (216 : Int32))) + (own_ge cc (247 : Int32))) + (own_ge cc (248 : Int32))))])) _
    refine st59 _ ?_
    show Steps p.tables e below (T59.setTop (mkF m 368 #[.val (.int p1), .val (.int p2), .val (.int p3), .val (.int p4), .val (.ref b5), .val (.int (p4 &&& (3 : Int32))), .val (.int cc), .unset, .unset] [(.int (own_ge cc (768 : Int32))), (.int (((((((((((own_ge cc (65 : Int32)) + (own_ge cc (91 : Int32))) + (own_ge cc (95 : Int32))) + (own_ge cc (96 : Int32))) + (own_ge cc (97 : Int32))) + (own_ge cc (123 : Int32))) + (own_ge cc (192 : Int32))) + (own_ge cc (215 : Int32))) + (own_ge cc (216 : Int32))) + (own_ge cc (247 : Int32))) + (own_ge cc (248 : Int32))))])) _
    refine XS.iadd X59.here hx rfl (hb hby at_368) rfl ?_
    show Steps p.tables e below (T59.setTop (mkF m 369 #[.val (.int p1), .val (.int p2), .val (.int p3), .val (.int p4), .val (.ref b5), .val (.int (p4 &&& (3 : Int32))), .val (.int cc), .unset, .unset] [(.int ((((((((((((own_ge cc (65 : Int32)) + (own_ge cc (91 : Int32))) + (own_ge cc (95 : Int32))) + (own_ge cc (96 : Int32))) + (own_ge cc (97 : Int32))) + (own_ge cc (123 : Int32))) + (own_ge cc (192 : Int32))) + (own_ge cc (215 : Int32))) + (own_ge cc (216 : Int32))) + (own_ge cc (247 : Int32))) + (own_ge cc (248 : Int32))) + (own_ge cc (768 : Int32))))])) _
    refine XS.iload X59.here hx rfl (hb hby at_369) rfl ?_
    show Steps p.tables e below (T59.setTop (mkF m 371 #[.val (.int p1), .val (.int p2), .val (.int p3), .val (.int p4), .val (.ref b5), .val (.int (p4 &&& (3 : Int32))), .val (.int cc), .unset, .unset] [(.int cc), (.int ((((((((((((own_ge cc (65 : Int32)) + (own_ge cc (91 : Int32))) + (own_ge cc (95 : Int32))) + (own_ge cc (96 : Int32))) + (own_ge cc (97 : Int32))) + (own_ge cc (123 : Int32))) + (own_ge cc (192 : Int32))) + (own_ge cc (215 : Int32))) + (own_ge cc (216 : Int32))) + (own_ge cc (247 : Int32))) + (own_ge cc (248 : Int32))) + (own_ge cc (768 : Int32))))])) _
    refine XS.aload X59.here hx rfl (hb hby at_371) rfl rfl ?_
    show Steps p.tables e below (T59.setTop (mkF m 373 #[.val (.int p1), .val (.int p2), .val (.int p3), .val (.int p4), .val (.ref b5), .val (.int (p4 &&& (3 : Int32))), .val (.int cc), .unset, .unset] [(.ref b5), (.int cc), (.int ((((((((((((own_ge cc (65 : Int32)) + (own_ge cc (91 : Int32))) + (own_ge cc (95 : Int32))) + (own_ge cc (96 : Int32))) + (own_ge cc (97 : Int32))) + (own_ge cc (123 : Int32))) + (own_ge cc (192 : Int32))) + (own_ge cc (215 : Int32))) + (own_ge cc (216 : Int32))) + (own_ge cc (247 : Int32))) + (own_ge cc (248 : Int32))) + (own_ge cc (768 : Int32))))])) _
    refine XS.bipush X59.here hx rfl (hb hby at_373) ?_
    show Steps p.tables e below (T59.setTop (mkF m 375 #[.val (.int p1), .val (.int p2), .val (.int p3), .val (.int p4), .val (.ref b5), .val (.int (p4 &&& (3 : Int32))), .val (.int cc), .unset, .unset] [(.int (12 : Int32)), (.ref b5), (.int cc), (.int ((((((((((((own_ge cc (65 : Int32)) + (own_ge cc (91 : Int32))) + (own_ge cc (95 : Int32))) + (own_ge cc (96 : Int32))) + (own_ge cc (97 : Int32))) + (own_ge cc (123 : Int32))) + (own_ge cc (192 : Int32))) + (own_ge cc (215 : Int32))) + (own_ge cc (216 : Int32))) + (own_ge cc (247 : Int32))) + (own_ge cc (248 : Int32))) + (own_ge cc (768 : Int32))))])) _
    refine X59.iaload hx (j := (12 : Int32)) (v := (.int (880 : Int32))) (by rw [e59q]; exact Ar_b5.1) (State.isArrayOf_alike hZ.alike Ar_b5.2.1) Ar_b5.2.2 hin375 hat375 (g := (mkF m 375 #[.val (.int p1), .val (.int p2), .val (.int p3), .val (.int p4), .val (.ref b5), .val (.int (p4 &&& (3 : Int32))), .val (.int cc), .unset, .unset] [(.int (12 : Int32)), (.ref b5), (.int cc), (.int ((((((((((((own_ge cc (65 : Int32)) + (own_ge cc (91 : Int32))) + (own_ge cc (95 : Int32))) + (own_ge cc (96 : Int32))) + (own_ge cc (97 : Int32))) + (own_ge cc (123 : Int32))) + (own_ge cc (192 : Int32))) + (own_ge cc (215 : Int32))) + (own_ge cc (216 : Int32))) + (own_ge cc (247 : Int32))) + (own_ge cc (248 : Int32))) + (own_ge cc (768 : Int32))))])) rfl rfl (hb hby at_375) _ ?_
    show Steps p.tables e below (T59.setTop (mkF m 376 #[.val (.int p1), .val (.int p2), .val (.int p3), .val (.int p4), .val (.ref b5), .val (.int (p4 &&& (3 : Int32))), .val (.int cc), .unset, .unset] [(.int (880 : Int32)), (.int cc), (.int ((((((((((((own_ge cc (65 : Int32)) + (own_ge cc (91 : Int32))) + (own_ge cc (95 : Int32))) + (own_ge cc (96 : Int32))) + (own_ge cc (97 : Int32))) + (own_ge cc (123 : Int32))) + (own_ge cc (192 : Int32))) + (own_ge cc (215 : Int32))) + (own_ge cc (216 : Int32))) + (own_ge cc (247 : Int32))) + (own_ge cc (248 : Int32))) + (own_ge cc (768 : Int32))))])) _
    refine st61 _ ?_
    show Steps p.tables e below (T61.setTop (mkF m 379 #[.val (.int p1), .val (.int p2), .val (.int p3), .val (.int p4), .val (.ref b5), .val (.int (p4 &&& (3 : Int32))), .val (.int cc), .unset, .unset] [(.int (own_ge cc (880 : Int32))), (.int ((((((((((((own_ge cc (65 : Int32)) + (own_ge cc (91 : Int32))) + (own_ge cc (95 : Int32))) + (own_ge cc (96 : Int32))) + (own_ge cc (97 : Int32))) + (own_ge cc (123 : Int32))) + (own_ge cc (192 : Int32))) + (own_ge cc (215 : Int32))) + (own_ge cc (216 : Int32))) + (own_ge cc (247 : Int32))) + (own_ge cc (248 : Int32))) + (own_ge cc (768 : Int32))))])) _
    refine XS.iadd X61.here hx rfl (hb hby at_379) rfl ?_
    show Steps p.tables e below (T61.setTop (mkF m 380 #[.val (.int p1), .val (.int p2), .val (.int p3), .val (.int p4), .val (.ref b5), .val (.int (p4 &&& (3 : Int32))), .val (.int cc), .unset, .unset] [(.int (((((((((((((own_ge cc (65 : Int32)) + (own_ge cc (91 : Int32))) + (own_ge cc (95 : Int32))) + (own_ge cc (96 : Int32))) + (own_ge cc (97 : Int32))) + (own_ge cc (123 : Int32))) + (own_ge cc (192 : Int32))) + (own_ge cc (215 : Int32))) + (own_ge cc (216 : Int32))) + (own_ge cc (247 : Int32))) + (own_ge cc (248 : Int32))) + (own_ge cc (768 : Int32))) + (own_ge cc (880 : Int32))))])) _
    refine XS.iload X61.here hx rfl (hb hby at_380) rfl ?_
    show Steps p.tables e below (T61.setTop (mkF m 382 #[.val (.int p1), .val (.int p2), .val (.int p3), .val (.int p4), .val (.ref b5), .val (.int (p4 &&& (3 : Int32))), .val (.int cc), .unset, .unset] [(.int cc), (.int (((((((((((((own_ge cc (65 : Int32)) + (own_ge cc (91 : Int32))) + (own_ge cc (95 : Int32))) + (own_ge cc (96 : Int32))) + (own_ge cc (97 : Int32))) + (own_ge cc (123 : Int32))) + (own_ge cc (192 : Int32))) + (own_ge cc (215 : Int32))) + (own_ge cc (216 : Int32))) + (own_ge cc (247 : Int32))) + (own_ge cc (248 : Int32))) + (own_ge cc (768 : Int32))) + (own_ge cc (880 : Int32))))])) _
    refine XS.aload X61.here hx rfl (hb hby at_382) rfl rfl ?_
    show Steps p.tables e below (T61.setTop (mkF m 384 #[.val (.int p1), .val (.int p2), .val (.int p3), .val (.int p4), .val (.ref b5), .val (.int (p4 &&& (3 : Int32))), .val (.int cc), .unset, .unset] [(.ref b5), (.int cc), (.int (((((((((((((own_ge cc (65 : Int32)) + (own_ge cc (91 : Int32))) + (own_ge cc (95 : Int32))) + (own_ge cc (96 : Int32))) + (own_ge cc (97 : Int32))) + (own_ge cc (123 : Int32))) + (own_ge cc (192 : Int32))) + (own_ge cc (215 : Int32))) + (own_ge cc (216 : Int32))) + (own_ge cc (247 : Int32))) + (own_ge cc (248 : Int32))) + (own_ge cc (768 : Int32))) + (own_ge cc (880 : Int32))))])) _
    refine XS.bipush X61.here hx rfl (hb hby at_384) ?_
    show Steps p.tables e below (T61.setTop (mkF m 386 #[.val (.int p1), .val (.int p2), .val (.int p3), .val (.int p4), .val (.ref b5), .val (.int (p4 &&& (3 : Int32))), .val (.int cc), .unset, .unset] [(.int (13 : Int32)), (.ref b5), (.int cc), (.int (((((((((((((own_ge cc (65 : Int32)) + (own_ge cc (91 : Int32))) + (own_ge cc (95 : Int32))) + (own_ge cc (96 : Int32))) + (own_ge cc (97 : Int32))) + (own_ge cc (123 : Int32))) + (own_ge cc (192 : Int32))) + (own_ge cc (215 : Int32))) + (own_ge cc (216 : Int32))) + (own_ge cc (247 : Int32))) + (own_ge cc (248 : Int32))) + (own_ge cc (768 : Int32))) + (own_ge cc (880 : Int32))))])) _
    refine X61.iaload hx (j := (13 : Int32)) (v := (.int (894 : Int32))) (by rw [e61q]; exact Ar_b5.1) (State.isArrayOf_alike hZ.alike Ar_b5.2.1) Ar_b5.2.2 hin386 hat386 (g := (mkF m 386 #[.val (.int p1), .val (.int p2), .val (.int p3), .val (.int p4), .val (.ref b5), .val (.int (p4 &&& (3 : Int32))), .val (.int cc), .unset, .unset] [(.int (13 : Int32)), (.ref b5), (.int cc), (.int (((((((((((((own_ge cc (65 : Int32)) + (own_ge cc (91 : Int32))) + (own_ge cc (95 : Int32))) + (own_ge cc (96 : Int32))) + (own_ge cc (97 : Int32))) + (own_ge cc (123 : Int32))) + (own_ge cc (192 : Int32))) + (own_ge cc (215 : Int32))) + (own_ge cc (216 : Int32))) + (own_ge cc (247 : Int32))) + (own_ge cc (248 : Int32))) + (own_ge cc (768 : Int32))) + (own_ge cc (880 : Int32))))])) rfl rfl (hb hby at_386) _ ?_
    show Steps p.tables e below (T61.setTop (mkF m 387 #[.val (.int p1), .val (.int p2), .val (.int p3), .val (.int p4), .val (.ref b5), .val (.int (p4 &&& (3 : Int32))), .val (.int cc), .unset, .unset] [(.int (894 : Int32)), (.int cc), (.int (((((((((((((own_ge cc (65 : Int32)) + (own_ge cc (91 : Int32))) + (own_ge cc (95 : Int32))) + (own_ge cc (96 : Int32))) + (own_ge cc (97 : Int32))) + (own_ge cc (123 : Int32))) + (own_ge cc (192 : Int32))) + (own_ge cc (215 : Int32))) + (own_ge cc (216 : Int32))) + (own_ge cc (247 : Int32))) + (own_ge cc (248 : Int32))) + (own_ge cc (768 : Int32))) + (own_ge cc (880 : Int32))))])) _
    refine st63 _ ?_
    show Steps p.tables e below (T63.setTop (mkF m 390 #[.val (.int p1), .val (.int p2), .val (.int p3), .val (.int p4), .val (.ref b5), .val (.int (p4 &&& (3 : Int32))), .val (.int cc), .unset, .unset] [(.int (own_ge cc (894 : Int32))), (.int (((((((((((((own_ge cc (65 : Int32)) + (own_ge cc (91 : Int32))) + (own_ge cc (95 : Int32))) + (own_ge cc (96 : Int32))) + (own_ge cc (97 : Int32))) + (own_ge cc (123 : Int32))) + (own_ge cc (192 : Int32))) + (own_ge cc (215 : Int32))) + (own_ge cc (216 : Int32))) + (own_ge cc (247 : Int32))) + (own_ge cc (248 : Int32))) + (own_ge cc (768 : Int32))) + (own_ge cc (880 : Int32))))])) _
    refine XS.iadd X63.here hx rfl (hb hby at_390) rfl ?_
    show Steps p.tables e below (T63.setTop (mkF m 391 #[.val (.int p1), .val (.int p2), .val (.int p3), .val (.int p4), .val (.ref b5), .val (.int (p4 &&& (3 : Int32))), .val (.int cc), .unset, .unset] [(.int ((((((((((((((own_ge cc (65 : Int32)) + (own_ge cc (91 : Int32))) + (own_ge cc (95 : Int32))) + (own_ge cc (96 : Int32))) + (own_ge cc (97 : Int32))) + (own_ge cc (123 : Int32))) + (own_ge cc (192 : Int32))) + (own_ge cc (215 : Int32))) + (own_ge cc (216 : Int32))) + (own_ge cc (247 : Int32))) + (own_ge cc (248 : Int32))) + (own_ge cc (768 : Int32))) + (own_ge cc (880 : Int32))) + (own_ge cc (894 : Int32))))])) _
    refine XS.iload X63.here hx rfl (hb hby at_391) rfl ?_
    show Steps p.tables e below (T63.setTop (mkF m 393 #[.val (.int p1), .val (.int p2), .val (.int p3), .val (.int p4), .val (.ref b5), .val (.int (p4 &&& (3 : Int32))), .val (.int cc), .unset, .unset] [(.int cc), (.int ((((((((((((((own_ge cc (65 : Int32)) + (own_ge cc (91 : Int32))) + (own_ge cc (95 : Int32))) + (own_ge cc (96 : Int32))) + (own_ge cc (97 : Int32))) + (own_ge cc (123 : Int32))) + (own_ge cc (192 : Int32))) + (own_ge cc (215 : Int32))) + (own_ge cc (216 : Int32))) + (own_ge cc (247 : Int32))) + (own_ge cc (248 : Int32))) + (own_ge cc (768 : Int32))) + (own_ge cc (880 : Int32))) + (own_ge cc (894 : Int32))))])) _
    refine XS.aload X63.here hx rfl (hb hby at_393) rfl rfl ?_
    show Steps p.tables e below (T63.setTop (mkF m 395 #[.val (.int p1), .val (.int p2), .val (.int p3), .val (.int p4), .val (.ref b5), .val (.int (p4 &&& (3 : Int32))), .val (.int cc), .unset, .unset] [(.ref b5), (.int cc), (.int ((((((((((((((own_ge cc (65 : Int32)) + (own_ge cc (91 : Int32))) + (own_ge cc (95 : Int32))) + (own_ge cc (96 : Int32))) + (own_ge cc (97 : Int32))) + (own_ge cc (123 : Int32))) + (own_ge cc (192 : Int32))) + (own_ge cc (215 : Int32))) + (own_ge cc (216 : Int32))) + (own_ge cc (247 : Int32))) + (own_ge cc (248 : Int32))) + (own_ge cc (768 : Int32))) + (own_ge cc (880 : Int32))) + (own_ge cc (894 : Int32))))])) _
    refine XS.bipush X63.here hx rfl (hb hby at_395) ?_
    show Steps p.tables e below (T63.setTop (mkF m 397 #[.val (.int p1), .val (.int p2), .val (.int p3), .val (.int p4), .val (.ref b5), .val (.int (p4 &&& (3 : Int32))), .val (.int cc), .unset, .unset] [(.int (14 : Int32)), (.ref b5), (.int cc), (.int ((((((((((((((own_ge cc (65 : Int32)) + (own_ge cc (91 : Int32))) + (own_ge cc (95 : Int32))) + (own_ge cc (96 : Int32))) + (own_ge cc (97 : Int32))) + (own_ge cc (123 : Int32))) + (own_ge cc (192 : Int32))) + (own_ge cc (215 : Int32))) + (own_ge cc (216 : Int32))) + (own_ge cc (247 : Int32))) + (own_ge cc (248 : Int32))) + (own_ge cc (768 : Int32))) + (own_ge cc (880 : Int32))) + (own_ge cc (894 : Int32))))])) _
    refine X63.iaload hx (j := (14 : Int32)) (v := (.int (895 : Int32))) (by rw [e63q]; exact Ar_b5.1) (State.isArrayOf_alike hZ.alike Ar_b5.2.1) Ar_b5.2.2 hin397 hat397 (g := (mkF m 397 #[.val (.int p1), .val (.int p2), .val (.int p3), .val (.int p4), .val (.ref b5), .val (.int (p4 &&& (3 : Int32))), .val (.int cc), .unset, .unset] [(.int (14 : Int32)), (.ref b5), (.int cc), (.int ((((((((((((((own_ge cc (65 : Int32)) + (own_ge cc (91 : Int32))) + (own_ge cc (95 : Int32))) + (own_ge cc (96 : Int32))) + (own_ge cc (97 : Int32))) + (own_ge cc (123 : Int32))) + (own_ge cc (192 : Int32))) + (own_ge cc (215 : Int32))) + (own_ge cc (216 : Int32))) + (own_ge cc (247 : Int32))) + (own_ge cc (248 : Int32))) + (own_ge cc (768 : Int32))) + (own_ge cc (880 : Int32))) + (own_ge cc (894 : Int32))))])) rfl rfl (hb hby at_397) _ ?_
    show Steps p.tables e below (T63.setTop (mkF m 398 #[.val (.int p1), .val (.int p2), .val (.int p3), .val (.int p4), .val (.ref b5), .val (.int (p4 &&& (3 : Int32))), .val (.int cc), .unset, .unset] [(.int (895 : Int32)), (.int cc), (.int ((((((((((((((own_ge cc (65 : Int32)) + (own_ge cc (91 : Int32))) + (own_ge cc (95 : Int32))) + (own_ge cc (96 : Int32))) + (own_ge cc (97 : Int32))) + (own_ge cc (123 : Int32))) + (own_ge cc (192 : Int32))) + (own_ge cc (215 : Int32))) + (own_ge cc (216 : Int32))) + (own_ge cc (247 : Int32))) + (own_ge cc (248 : Int32))) + (own_ge cc (768 : Int32))) + (own_ge cc (880 : Int32))) + (own_ge cc (894 : Int32))))])) _
    refine st65 _ ?_
    show Steps p.tables e below (T65.setTop (mkF m 401 #[.val (.int p1), .val (.int p2), .val (.int p3), .val (.int p4), .val (.ref b5), .val (.int (p4 &&& (3 : Int32))), .val (.int cc), .unset, .unset] [(.int (own_ge cc (895 : Int32))), (.int ((((((((((((((own_ge cc (65 : Int32)) + (own_ge cc (91 : Int32))) + (own_ge cc (95 : Int32))) + (own_ge cc (96 : Int32))) + (own_ge cc (97 : Int32))) + (own_ge cc (123 : Int32))) + (own_ge cc (192 : Int32))) + (own_ge cc (215 : Int32))) + (own_ge cc (216 : Int32))) + (own_ge cc (247 : Int32))) + (own_ge cc (248 : Int32))) + (own_ge cc (768 : Int32))) + (own_ge cc (880 : Int32))) + (own_ge cc (894 : Int32))))])) _
    refine XS.iadd X65.here hx rfl (hb hby at_401) rfl ?_
    show Steps p.tables e below (T65.setTop (mkF m 402 #[.val (.int p1), .val (.int p2), .val (.int p3), .val (.int p4), .val (.ref b5), .val (.int (p4 &&& (3 : Int32))), .val (.int cc), .unset, .unset] [(.int (((((((((((((((own_ge cc (65 : Int32)) + (own_ge cc (91 : Int32))) + (own_ge cc (95 : Int32))) + (own_ge cc (96 : Int32))) + (own_ge cc (97 : Int32))) + (own_ge cc (123 : Int32))) + (own_ge cc (192 : Int32))) + (own_ge cc (215 : Int32))) + (own_ge cc (216 : Int32))) + (own_ge cc (247 : Int32))) + (own_ge cc (248 : Int32))) + (own_ge cc (768 : Int32))) + (own_ge cc (880 : Int32))) + (own_ge cc (894 : Int32))) + (own_ge cc (895 : Int32))))])) _
    refine XS.iload X65.here hx rfl (hb hby at_402) rfl ?_
    show Steps p.tables e below (T65.setTop (mkF m 404 #[.val (.int p1), .val (.int p2), .val (.int p3), .val (.int p4), .val (.ref b5), .val (.int (p4 &&& (3 : Int32))), .val (.int cc), .unset, .unset] [(.int cc), (.int (((((((((((((((own_ge cc (65 : Int32)) + (own_ge cc (91 : Int32))) + (own_ge cc (95 : Int32))) + (own_ge cc (96 : Int32))) + (own_ge cc (97 : Int32))) + (own_ge cc (123 : Int32))) + (own_ge cc (192 : Int32))) + (own_ge cc (215 : Int32))) + (own_ge cc (216 : Int32))) + (own_ge cc (247 : Int32))) + (own_ge cc (248 : Int32))) + (own_ge cc (768 : Int32))) + (own_ge cc (880 : Int32))) + (own_ge cc (894 : Int32))) + (own_ge cc (895 : Int32))))])) _
    refine XS.aload X65.here hx rfl (hb hby at_404) rfl rfl ?_
    show Steps p.tables e below (T65.setTop (mkF m 406 #[.val (.int p1), .val (.int p2), .val (.int p3), .val (.int p4), .val (.ref b5), .val (.int (p4 &&& (3 : Int32))), .val (.int cc), .unset, .unset] [(.ref b5), (.int cc), (.int (((((((((((((((own_ge cc (65 : Int32)) + (own_ge cc (91 : Int32))) + (own_ge cc (95 : Int32))) + (own_ge cc (96 : Int32))) + (own_ge cc (97 : Int32))) + (own_ge cc (123 : Int32))) + (own_ge cc (192 : Int32))) + (own_ge cc (215 : Int32))) + (own_ge cc (216 : Int32))) + (own_ge cc (247 : Int32))) + (own_ge cc (248 : Int32))) + (own_ge cc (768 : Int32))) + (own_ge cc (880 : Int32))) + (own_ge cc (894 : Int32))) + (own_ge cc (895 : Int32))))])) _
    refine XS.bipush X65.here hx rfl (hb hby at_406) ?_
    show Steps p.tables e below (T65.setTop (mkF m 408 #[.val (.int p1), .val (.int p2), .val (.int p3), .val (.int p4), .val (.ref b5), .val (.int (p4 &&& (3 : Int32))), .val (.int cc), .unset, .unset] [(.int (15 : Int32)), (.ref b5), (.int cc), (.int (((((((((((((((own_ge cc (65 : Int32)) + (own_ge cc (91 : Int32))) + (own_ge cc (95 : Int32))) + (own_ge cc (96 : Int32))) + (own_ge cc (97 : Int32))) + (own_ge cc (123 : Int32))) + (own_ge cc (192 : Int32))) + (own_ge cc (215 : Int32))) + (own_ge cc (216 : Int32))) + (own_ge cc (247 : Int32))) + (own_ge cc (248 : Int32))) + (own_ge cc (768 : Int32))) + (own_ge cc (880 : Int32))) + (own_ge cc (894 : Int32))) + (own_ge cc (895 : Int32))))])) _
    refine X65.iaload hx (j := (15 : Int32)) (v := (.int (8192 : Int32))) (by rw [e65q]; exact Ar_b5.1) (State.isArrayOf_alike hZ.alike Ar_b5.2.1) Ar_b5.2.2 hin408 hat408 (g := (mkF m 408 #[.val (.int p1), .val (.int p2), .val (.int p3), .val (.int p4), .val (.ref b5), .val (.int (p4 &&& (3 : Int32))), .val (.int cc), .unset, .unset] [(.int (15 : Int32)), (.ref b5), (.int cc), (.int (((((((((((((((own_ge cc (65 : Int32)) + (own_ge cc (91 : Int32))) + (own_ge cc (95 : Int32))) + (own_ge cc (96 : Int32))) + (own_ge cc (97 : Int32))) + (own_ge cc (123 : Int32))) + (own_ge cc (192 : Int32))) + (own_ge cc (215 : Int32))) + (own_ge cc (216 : Int32))) + (own_ge cc (247 : Int32))) + (own_ge cc (248 : Int32))) + (own_ge cc (768 : Int32))) + (own_ge cc (880 : Int32))) + (own_ge cc (894 : Int32))) + (own_ge cc (895 : Int32))))])) rfl rfl (hb hby at_408) _ ?_
    show Steps p.tables e below (T65.setTop (mkF m 409 #[.val (.int p1), .val (.int p2), .val (.int p3), .val (.int p4), .val (.ref b5), .val (.int (p4 &&& (3 : Int32))), .val (.int cc), .unset, .unset] [(.int (8192 : Int32)), (.int cc), (.int (((((((((((((((own_ge cc (65 : Int32)) + (own_ge cc (91 : Int32))) + (own_ge cc (95 : Int32))) + (own_ge cc (96 : Int32))) + (own_ge cc (97 : Int32))) + (own_ge cc (123 : Int32))) + (own_ge cc (192 : Int32))) + (own_ge cc (215 : Int32))) + (own_ge cc (216 : Int32))) + (own_ge cc (247 : Int32))) + (own_ge cc (248 : Int32))) + (own_ge cc (768 : Int32))) + (own_ge cc (880 : Int32))) + (own_ge cc (894 : Int32))) + (own_ge cc (895 : Int32))))])) _
    refine st67 _ ?_
    show Steps p.tables e below (T67.setTop (mkF m 412 #[.val (.int p1), .val (.int p2), .val (.int p3), .val (.int p4), .val (.ref b5), .val (.int (p4 &&& (3 : Int32))), .val (.int cc), .unset, .unset] [(.int (own_ge cc (8192 : Int32))), (.int (((((((((((((((own_ge cc (65 : Int32)) + (own_ge cc (91 : Int32))) + (own_ge cc (95 : Int32))) + (own_ge cc (96 : Int32))) + (own_ge cc (97 : Int32))) + (own_ge cc (123 : Int32))) + (own_ge cc (192 : Int32))) + (own_ge cc (215 : Int32))) + (own_ge cc (216 : Int32))) + (own_ge cc (247 : Int32))) + (own_ge cc (248 : Int32))) + (own_ge cc (768 : Int32))) + (own_ge cc (880 : Int32))) + (own_ge cc (894 : Int32))) + (own_ge cc (895 : Int32))))])) _
    refine XS.iadd X67.here hx rfl (hb hby at_412) rfl ?_
    show Steps p.tables e below (T67.setTop (mkF m 413 #[.val (.int p1), .val (.int p2), .val (.int p3), .val (.int p4), .val (.ref b5), .val (.int (p4 &&& (3 : Int32))), .val (.int cc), .unset, .unset] [(.int ((((((((((((((((own_ge cc (65 : Int32)) + (own_ge cc (91 : Int32))) + (own_ge cc (95 : Int32))) + (own_ge cc (96 : Int32))) + (own_ge cc (97 : Int32))) + (own_ge cc (123 : Int32))) + (own_ge cc (192 : Int32))) + (own_ge cc (215 : Int32))) + (own_ge cc (216 : Int32))) + (own_ge cc (247 : Int32))) + (own_ge cc (248 : Int32))) + (own_ge cc (768 : Int32))) + (own_ge cc (880 : Int32))) + (own_ge cc (894 : Int32))) + (own_ge cc (895 : Int32))) + (own_ge cc (8192 : Int32))))])) _
    refine XS.iload X67.here hx rfl (hb hby at_413) rfl ?_
    show Steps p.tables e below (T67.setTop (mkF m 415 #[.val (.int p1), .val (.int p2), .val (.int p3), .val (.int p4), .val (.ref b5), .val (.int (p4 &&& (3 : Int32))), .val (.int cc), .unset, .unset] [(.int cc), (.int ((((((((((((((((own_ge cc (65 : Int32)) + (own_ge cc (91 : Int32))) + (own_ge cc (95 : Int32))) + (own_ge cc (96 : Int32))) + (own_ge cc (97 : Int32))) + (own_ge cc (123 : Int32))) + (own_ge cc (192 : Int32))) + (own_ge cc (215 : Int32))) + (own_ge cc (216 : Int32))) + (own_ge cc (247 : Int32))) + (own_ge cc (248 : Int32))) + (own_ge cc (768 : Int32))) + (own_ge cc (880 : Int32))) + (own_ge cc (894 : Int32))) + (own_ge cc (895 : Int32))) + (own_ge cc (8192 : Int32))))])) _
    refine XS.aload X67.here hx rfl (hb hby at_415) rfl rfl ?_
    show Steps p.tables e below (T67.setTop (mkF m 417 #[.val (.int p1), .val (.int p2), .val (.int p3), .val (.int p4), .val (.ref b5), .val (.int (p4 &&& (3 : Int32))), .val (.int cc), .unset, .unset] [(.ref b5), (.int cc), (.int ((((((((((((((((own_ge cc (65 : Int32)) + (own_ge cc (91 : Int32))) + (own_ge cc (95 : Int32))) + (own_ge cc (96 : Int32))) + (own_ge cc (97 : Int32))) + (own_ge cc (123 : Int32))) + (own_ge cc (192 : Int32))) + (own_ge cc (215 : Int32))) + (own_ge cc (216 : Int32))) + (own_ge cc (247 : Int32))) + (own_ge cc (248 : Int32))) + (own_ge cc (768 : Int32))) + (own_ge cc (880 : Int32))) + (own_ge cc (894 : Int32))) + (own_ge cc (895 : Int32))) + (own_ge cc (8192 : Int32))))])) _
    refine XS.bipush X67.here hx rfl (hb hby at_417) ?_
    show Steps p.tables e below (T67.setTop (mkF m 419 #[.val (.int p1), .val (.int p2), .val (.int p3), .val (.int p4), .val (.ref b5), .val (.int (p4 &&& (3 : Int32))), .val (.int cc), .unset, .unset] [(.int (16 : Int32)), (.ref b5), (.int cc), (.int ((((((((((((((((own_ge cc (65 : Int32)) + (own_ge cc (91 : Int32))) + (own_ge cc (95 : Int32))) + (own_ge cc (96 : Int32))) + (own_ge cc (97 : Int32))) + (own_ge cc (123 : Int32))) + (own_ge cc (192 : Int32))) + (own_ge cc (215 : Int32))) + (own_ge cc (216 : Int32))) + (own_ge cc (247 : Int32))) + (own_ge cc (248 : Int32))) + (own_ge cc (768 : Int32))) + (own_ge cc (880 : Int32))) + (own_ge cc (894 : Int32))) + (own_ge cc (895 : Int32))) + (own_ge cc (8192 : Int32))))])) _
    refine X67.iaload hx (j := (16 : Int32)) (v := (.int (8204 : Int32))) (by rw [e67q]; exact Ar_b5.1) (State.isArrayOf_alike hZ.alike Ar_b5.2.1) Ar_b5.2.2 hin419 hat419 (g := (mkF m 419 #[.val (.int p1), .val (.int p2), .val (.int p3), .val (.int p4), .val (.ref b5), .val (.int (p4 &&& (3 : Int32))), .val (.int cc), .unset, .unset] [(.int (16 : Int32)), (.ref b5), (.int cc), (.int ((((((((((((((((own_ge cc (65 : Int32)) + (own_ge cc (91 : Int32))) + (own_ge cc (95 : Int32))) + (own_ge cc (96 : Int32))) + (own_ge cc (97 : Int32))) + (own_ge cc (123 : Int32))) + (own_ge cc (192 : Int32))) + (own_ge cc (215 : Int32))) + (own_ge cc (216 : Int32))) + (own_ge cc (247 : Int32))) + (own_ge cc (248 : Int32))) + (own_ge cc (768 : Int32))) + (own_ge cc (880 : Int32))) + (own_ge cc (894 : Int32))) + (own_ge cc (895 : Int32))) + (own_ge cc (8192 : Int32))))])) rfl rfl (hb hby at_419) _ ?_
    show Steps p.tables e below (T67.setTop (mkF m 420 #[.val (.int p1), .val (.int p2), .val (.int p3), .val (.int p4), .val (.ref b5), .val (.int (p4 &&& (3 : Int32))), .val (.int cc), .unset, .unset] [(.int (8204 : Int32)), (.int cc), (.int ((((((((((((((((own_ge cc (65 : Int32)) + (own_ge cc (91 : Int32))) + (own_ge cc (95 : Int32))) + (own_ge cc (96 : Int32))) + (own_ge cc (97 : Int32))) + (own_ge cc (123 : Int32))) + (own_ge cc (192 : Int32))) + (own_ge cc (215 : Int32))) + (own_ge cc (216 : Int32))) + (own_ge cc (247 : Int32))) + (own_ge cc (248 : Int32))) + (own_ge cc (768 : Int32))) + (own_ge cc (880 : Int32))) + (own_ge cc (894 : Int32))) + (own_ge cc (895 : Int32))) + (own_ge cc (8192 : Int32))))])) _
    refine st69 _ ?_
    show Steps p.tables e below (T69.setTop (mkF m 423 #[.val (.int p1), .val (.int p2), .val (.int p3), .val (.int p4), .val (.ref b5), .val (.int (p4 &&& (3 : Int32))), .val (.int cc), .unset, .unset] [(.int (own_ge cc (8204 : Int32))), (.int ((((((((((((((((own_ge cc (65 : Int32)) + (own_ge cc (91 : Int32))) + (own_ge cc (95 : Int32))) + (own_ge cc (96 : Int32))) + (own_ge cc (97 : Int32))) + (own_ge cc (123 : Int32))) + (own_ge cc (192 : Int32))) + (own_ge cc (215 : Int32))) + (own_ge cc (216 : Int32))) + (own_ge cc (247 : Int32))) + (own_ge cc (248 : Int32))) + (own_ge cc (768 : Int32))) + (own_ge cc (880 : Int32))) + (own_ge cc (894 : Int32))) + (own_ge cc (895 : Int32))) + (own_ge cc (8192 : Int32))))])) _
    refine XS.iadd X69.here hx rfl (hb hby at_423) rfl ?_
    show Steps p.tables e below (T69.setTop (mkF m 424 #[.val (.int p1), .val (.int p2), .val (.int p3), .val (.int p4), .val (.ref b5), .val (.int (p4 &&& (3 : Int32))), .val (.int cc), .unset, .unset] [(.int (((((((((((((((((own_ge cc (65 : Int32)) + (own_ge cc (91 : Int32))) + (own_ge cc (95 : Int32))) + (own_ge cc (96 : Int32))) + (own_ge cc (97 : Int32))) + (own_ge cc (123 : Int32))) + (own_ge cc (192 : Int32))) + (own_ge cc (215 : Int32))) + (own_ge cc (216 : Int32))) + (own_ge cc (247 : Int32))) + (own_ge cc (248 : Int32))) + (own_ge cc (768 : Int32))) + (own_ge cc (880 : Int32))) + (own_ge cc (894 : Int32))) + (own_ge cc (895 : Int32))) + (own_ge cc (8192 : Int32))) + (own_ge cc (8204 : Int32))))])) _
    refine XS.iload X69.here hx rfl (hb hby at_424) rfl ?_
    show Steps p.tables e below (T69.setTop (mkF m 426 #[.val (.int p1), .val (.int p2), .val (.int p3), .val (.int p4), .val (.ref b5), .val (.int (p4 &&& (3 : Int32))), .val (.int cc), .unset, .unset] [(.int cc), (.int (((((((((((((((((own_ge cc (65 : Int32)) + (own_ge cc (91 : Int32))) + (own_ge cc (95 : Int32))) + (own_ge cc (96 : Int32))) + (own_ge cc (97 : Int32))) + (own_ge cc (123 : Int32))) + (own_ge cc (192 : Int32))) + (own_ge cc (215 : Int32))) + (own_ge cc (216 : Int32))) + (own_ge cc (247 : Int32))) + (own_ge cc (248 : Int32))) + (own_ge cc (768 : Int32))) + (own_ge cc (880 : Int32))) + (own_ge cc (894 : Int32))) + (own_ge cc (895 : Int32))) + (own_ge cc (8192 : Int32))) + (own_ge cc (8204 : Int32))))])) _
    refine XS.aload X69.here hx rfl (hb hby at_426) rfl rfl ?_
    show Steps p.tables e below (T69.setTop (mkF m 428 #[.val (.int p1), .val (.int p2), .val (.int p3), .val (.int p4), .val (.ref b5), .val (.int (p4 &&& (3 : Int32))), .val (.int cc), .unset, .unset] [(.ref b5), (.int cc), (.int (((((((((((((((((own_ge cc (65 : Int32)) + (own_ge cc (91 : Int32))) + (own_ge cc (95 : Int32))) + (own_ge cc (96 : Int32))) + (own_ge cc (97 : Int32))) + (own_ge cc (123 : Int32))) + (own_ge cc (192 : Int32))) + (own_ge cc (215 : Int32))) + (own_ge cc (216 : Int32))) + (own_ge cc (247 : Int32))) + (own_ge cc (248 : Int32))) + (own_ge cc (768 : Int32))) + (own_ge cc (880 : Int32))) + (own_ge cc (894 : Int32))) + (own_ge cc (895 : Int32))) + (own_ge cc (8192 : Int32))) + (own_ge cc (8204 : Int32))))])) _
    refine XS.bipush X69.here hx rfl (hb hby at_428) ?_
    show Steps p.tables e below (T69.setTop (mkF m 430 #[.val (.int p1), .val (.int p2), .val (.int p3), .val (.int p4), .val (.ref b5), .val (.int (p4 &&& (3 : Int32))), .val (.int cc), .unset, .unset] [(.int (17 : Int32)), (.ref b5), (.int cc), (.int (((((((((((((((((own_ge cc (65 : Int32)) + (own_ge cc (91 : Int32))) + (own_ge cc (95 : Int32))) + (own_ge cc (96 : Int32))) + (own_ge cc (97 : Int32))) + (own_ge cc (123 : Int32))) + (own_ge cc (192 : Int32))) + (own_ge cc (215 : Int32))) + (own_ge cc (216 : Int32))) + (own_ge cc (247 : Int32))) + (own_ge cc (248 : Int32))) + (own_ge cc (768 : Int32))) + (own_ge cc (880 : Int32))) + (own_ge cc (894 : Int32))) + (own_ge cc (895 : Int32))) + (own_ge cc (8192 : Int32))) + (own_ge cc (8204 : Int32))))])) _
    refine X69.iaload hx (j := (17 : Int32)) (v := (.int (8206 : Int32))) (by rw [e69q]; exact Ar_b5.1) (State.isArrayOf_alike hZ.alike Ar_b5.2.1) Ar_b5.2.2 hin430 hat430 (g := (mkF m 430 #[.val (.int p1), .val (.int p2), .val (.int p3), .val (.int p4), .val (.ref b5), .val (.int (p4 &&& (3 : Int32))), .val (.int cc), .unset, .unset] [(.int (17 : Int32)), (.ref b5), (.int cc), (.int (((((((((((((((((own_ge cc (65 : Int32)) + (own_ge cc (91 : Int32))) + (own_ge cc (95 : Int32))) + (own_ge cc (96 : Int32))) + (own_ge cc (97 : Int32))) + (own_ge cc (123 : Int32))) + (own_ge cc (192 : Int32))) + (own_ge cc (215 : Int32))) + (own_ge cc (216 : Int32))) + (own_ge cc (247 : Int32))) + (own_ge cc (248 : Int32))) + (own_ge cc (768 : Int32))) + (own_ge cc (880 : Int32))) + (own_ge cc (894 : Int32))) + (own_ge cc (895 : Int32))) + (own_ge cc (8192 : Int32))) + (own_ge cc (8204 : Int32))))])) rfl rfl (hb hby at_430) _ ?_
    show Steps p.tables e below (T69.setTop (mkF m 431 #[.val (.int p1), .val (.int p2), .val (.int p3), .val (.int p4), .val (.ref b5), .val (.int (p4 &&& (3 : Int32))), .val (.int cc), .unset, .unset] [(.int (8206 : Int32)), (.int cc), (.int (((((((((((((((((own_ge cc (65 : Int32)) + (own_ge cc (91 : Int32))) + (own_ge cc (95 : Int32))) + (own_ge cc (96 : Int32))) + (own_ge cc (97 : Int32))) + (own_ge cc (123 : Int32))) + (own_ge cc (192 : Int32))) + (own_ge cc (215 : Int32))) + (own_ge cc (216 : Int32))) + (own_ge cc (247 : Int32))) + (own_ge cc (248 : Int32))) + (own_ge cc (768 : Int32))) + (own_ge cc (880 : Int32))) + (own_ge cc (894 : Int32))) + (own_ge cc (895 : Int32))) + (own_ge cc (8192 : Int32))) + (own_ge cc (8204 : Int32))))])) _
    refine st71 _ ?_
    show Steps p.tables e below (T71.setTop (mkF m 434 #[.val (.int p1), .val (.int p2), .val (.int p3), .val (.int p4), .val (.ref b5), .val (.int (p4 &&& (3 : Int32))), .val (.int cc), .unset, .unset] [(.int (own_ge cc (8206 : Int32))), (.int (((((((((((((((((own_ge cc (65 : Int32)) + (own_ge cc (91 : Int32))) + (own_ge cc (95 : Int32))) + (own_ge cc (96 : Int32))) + (own_ge cc (97 : Int32))) + (own_ge cc (123 : Int32))) + (own_ge cc (192 : Int32))) + (own_ge cc (215 : Int32))) + (own_ge cc (216 : Int32))) + (own_ge cc (247 : Int32))) + (own_ge cc (248 : Int32))) + (own_ge cc (768 : Int32))) + (own_ge cc (880 : Int32))) + (own_ge cc (894 : Int32))) + (own_ge cc (895 : Int32))) + (own_ge cc (8192 : Int32))) + (own_ge cc (8204 : Int32))))])) _
    refine XS.iadd X71.here hx rfl (hb hby at_434) rfl ?_
    show Steps p.tables e below (T71.setTop (mkF m 435 #[.val (.int p1), .val (.int p2), .val (.int p3), .val (.int p4), .val (.ref b5), .val (.int (p4 &&& (3 : Int32))), .val (.int cc), .unset, .unset] [(.int ((((((((((((((((((own_ge cc (65 : Int32)) + (own_ge cc (91 : Int32))) + (own_ge cc (95 : Int32))) + (own_ge cc (96 : Int32))) + (own_ge cc (97 : Int32))) + (own_ge cc (123 : Int32))) + (own_ge cc (192 : Int32))) + (own_ge cc (215 : Int32))) + (own_ge cc (216 : Int32))) + (own_ge cc (247 : Int32))) + (own_ge cc (248 : Int32))) + (own_ge cc (768 : Int32))) + (own_ge cc (880 : Int32))) + (own_ge cc (894 : Int32))) + (own_ge cc (895 : Int32))) + (own_ge cc (8192 : Int32))) + (own_ge cc (8204 : Int32))) + (own_ge cc (8206 : Int32))))])) _
    refine XS.iload X71.here hx rfl (hb hby at_435) rfl ?_
    show Steps p.tables e below (T71.setTop (mkF m 437 #[.val (.int p1), .val (.int p2), .val (.int p3), .val (.int p4), .val (.ref b5), .val (.int (p4 &&& (3 : Int32))), .val (.int cc), .unset, .unset] [(.int cc), (.int ((((((((((((((((((own_ge cc (65 : Int32)) + (own_ge cc (91 : Int32))) + (own_ge cc (95 : Int32))) + (own_ge cc (96 : Int32))) + (own_ge cc (97 : Int32))) + (own_ge cc (123 : Int32))) + (own_ge cc (192 : Int32))) + (own_ge cc (215 : Int32))) + (own_ge cc (216 : Int32))) + (own_ge cc (247 : Int32))) + (own_ge cc (248 : Int32))) + (own_ge cc (768 : Int32))) + (own_ge cc (880 : Int32))) + (own_ge cc (894 : Int32))) + (own_ge cc (895 : Int32))) + (own_ge cc (8192 : Int32))) + (own_ge cc (8204 : Int32))) + (own_ge cc (8206 : Int32))))])) _
    refine XS.aload X71.here hx rfl (hb hby at_437) rfl rfl ?_
    show Steps p.tables e below (T71.setTop (mkF m 439 #[.val (.int p1), .val (.int p2), .val (.int p3), .val (.int p4), .val (.ref b5), .val (.int (p4 &&& (3 : Int32))), .val (.int cc), .unset, .unset] [(.ref b5), (.int cc), (.int ((((((((((((((((((own_ge cc (65 : Int32)) + (own_ge cc (91 : Int32))) + (own_ge cc (95 : Int32))) + (own_ge cc (96 : Int32))) + (own_ge cc (97 : Int32))) + (own_ge cc (123 : Int32))) + (own_ge cc (192 : Int32))) + (own_ge cc (215 : Int32))) + (own_ge cc (216 : Int32))) + (own_ge cc (247 : Int32))) + (own_ge cc (248 : Int32))) + (own_ge cc (768 : Int32))) + (own_ge cc (880 : Int32))) + (own_ge cc (894 : Int32))) + (own_ge cc (895 : Int32))) + (own_ge cc (8192 : Int32))) + (own_ge cc (8204 : Int32))) + (own_ge cc (8206 : Int32))))])) _
    refine XS.bipush X71.here hx rfl (hb hby at_439) ?_
    show Steps p.tables e below (T71.setTop (mkF m 441 #[.val (.int p1), .val (.int p2), .val (.int p3), .val (.int p4), .val (.ref b5), .val (.int (p4 &&& (3 : Int32))), .val (.int cc), .unset, .unset] [(.int (18 : Int32)), (.ref b5), (.int cc), (.int ((((((((((((((((((own_ge cc (65 : Int32)) + (own_ge cc (91 : Int32))) + (own_ge cc (95 : Int32))) + (own_ge cc (96 : Int32))) + (own_ge cc (97 : Int32))) + (own_ge cc (123 : Int32))) + (own_ge cc (192 : Int32))) + (own_ge cc (215 : Int32))) + (own_ge cc (216 : Int32))) + (own_ge cc (247 : Int32))) + (own_ge cc (248 : Int32))) + (own_ge cc (768 : Int32))) + (own_ge cc (880 : Int32))) + (own_ge cc (894 : Int32))) + (own_ge cc (895 : Int32))) + (own_ge cc (8192 : Int32))) + (own_ge cc (8204 : Int32))) + (own_ge cc (8206 : Int32))))])) _
    refine X71.iaload hx (j := (18 : Int32)) (v := (.int (8304 : Int32))) (by rw [e71q]; exact Ar_b5.1) (State.isArrayOf_alike hZ.alike Ar_b5.2.1) Ar_b5.2.2 hin441 hat441 (g := (mkF m 441 #[.val (.int p1), .val (.int p2), .val (.int p3), .val (.int p4), .val (.ref b5), .val (.int (p4 &&& (3 : Int32))), .val (.int cc), .unset, .unset] [(.int (18 : Int32)), (.ref b5), (.int cc), (.int ((((((((((((((((((own_ge cc (65 : Int32)) + (own_ge cc (91 : Int32))) + (own_ge cc (95 : Int32))) + (own_ge cc (96 : Int32))) + (own_ge cc (97 : Int32))) + (own_ge cc (123 : Int32))) + (own_ge cc (192 : Int32))) + (own_ge cc (215 : Int32))) + (own_ge cc (216 : Int32))) + (own_ge cc (247 : Int32))) + (own_ge cc (248 : Int32))) + (own_ge cc (768 : Int32))) + (own_ge cc (880 : Int32))) + (own_ge cc (894 : Int32))) + (own_ge cc (895 : Int32))) + (own_ge cc (8192 : Int32))) + (own_ge cc (8204 : Int32))) + (own_ge cc (8206 : Int32))))])) rfl rfl (hb hby at_441) _ ?_
    show Steps p.tables e below (T71.setTop (mkF m 442 #[.val (.int p1), .val (.int p2), .val (.int p3), .val (.int p4), .val (.ref b5), .val (.int (p4 &&& (3 : Int32))), .val (.int cc), .unset, .unset] [(.int (8304 : Int32)), (.int cc), (.int ((((((((((((((((((own_ge cc (65 : Int32)) + (own_ge cc (91 : Int32))) + (own_ge cc (95 : Int32))) + (own_ge cc (96 : Int32))) + (own_ge cc (97 : Int32))) + (own_ge cc (123 : Int32))) + (own_ge cc (192 : Int32))) + (own_ge cc (215 : Int32))) + (own_ge cc (216 : Int32))) + (own_ge cc (247 : Int32))) + (own_ge cc (248 : Int32))) + (own_ge cc (768 : Int32))) + (own_ge cc (880 : Int32))) + (own_ge cc (894 : Int32))) + (own_ge cc (895 : Int32))) + (own_ge cc (8192 : Int32))) + (own_ge cc (8204 : Int32))) + (own_ge cc (8206 : Int32))))])) _
    refine st73 _ ?_
    show Steps p.tables e below (T73.setTop (mkF m 445 #[.val (.int p1), .val (.int p2), .val (.int p3), .val (.int p4), .val (.ref b5), .val (.int (p4 &&& (3 : Int32))), .val (.int cc), .unset, .unset] [(.int (own_ge cc (8304 : Int32))), (.int ((((((((((((((((((own_ge cc (65 : Int32)) + (own_ge cc (91 : Int32))) + (own_ge cc (95 : Int32))) + (own_ge cc (96 : Int32))) + (own_ge cc (97 : Int32))) + (own_ge cc (123 : Int32))) + (own_ge cc (192 : Int32))) + (own_ge cc (215 : Int32))) + (own_ge cc (216 : Int32))) + (own_ge cc (247 : Int32))) + (own_ge cc (248 : Int32))) + (own_ge cc (768 : Int32))) + (own_ge cc (880 : Int32))) + (own_ge cc (894 : Int32))) + (own_ge cc (895 : Int32))) + (own_ge cc (8192 : Int32))) + (own_ge cc (8204 : Int32))) + (own_ge cc (8206 : Int32))))])) _
    refine XS.iadd X73.here hx rfl (hb hby at_445) rfl ?_
    show Steps p.tables e below (T73.setTop (mkF m 446 #[.val (.int p1), .val (.int p2), .val (.int p3), .val (.int p4), .val (.ref b5), .val (.int (p4 &&& (3 : Int32))), .val (.int cc), .unset, .unset] [(.int (((((((((((((((((((own_ge cc (65 : Int32)) + (own_ge cc (91 : Int32))) + (own_ge cc (95 : Int32))) + (own_ge cc (96 : Int32))) + (own_ge cc (97 : Int32))) + (own_ge cc (123 : Int32))) + (own_ge cc (192 : Int32))) + (own_ge cc (215 : Int32))) + (own_ge cc (216 : Int32))) + (own_ge cc (247 : Int32))) + (own_ge cc (248 : Int32))) + (own_ge cc (768 : Int32))) + (own_ge cc (880 : Int32))) + (own_ge cc (894 : Int32))) + (own_ge cc (895 : Int32))) + (own_ge cc (8192 : Int32))) + (own_ge cc (8204 : Int32))) + (own_ge cc (8206 : Int32))) + (own_ge cc (8304 : Int32))))])) _
    refine XS.iload X73.here hx rfl (hb hby at_446) rfl ?_
    show Steps p.tables e below (T73.setTop (mkF m 448 #[.val (.int p1), .val (.int p2), .val (.int p3), .val (.int p4), .val (.ref b5), .val (.int (p4 &&& (3 : Int32))), .val (.int cc), .unset, .unset] [(.int cc), (.int (((((((((((((((((((own_ge cc (65 : Int32)) + (own_ge cc (91 : Int32))) + (own_ge cc (95 : Int32))) + (own_ge cc (96 : Int32))) + (own_ge cc (97 : Int32))) + (own_ge cc (123 : Int32))) + (own_ge cc (192 : Int32))) + (own_ge cc (215 : Int32))) + (own_ge cc (216 : Int32))) + (own_ge cc (247 : Int32))) + (own_ge cc (248 : Int32))) + (own_ge cc (768 : Int32))) + (own_ge cc (880 : Int32))) + (own_ge cc (894 : Int32))) + (own_ge cc (895 : Int32))) + (own_ge cc (8192 : Int32))) + (own_ge cc (8204 : Int32))) + (own_ge cc (8206 : Int32))) + (own_ge cc (8304 : Int32))))])) _
    refine XS.aload X73.here hx rfl (hb hby at_448) rfl rfl ?_
    show Steps p.tables e below (T73.setTop (mkF m 450 #[.val (.int p1), .val (.int p2), .val (.int p3), .val (.int p4), .val (.ref b5), .val (.int (p4 &&& (3 : Int32))), .val (.int cc), .unset, .unset] [(.ref b5), (.int cc), (.int (((((((((((((((((((own_ge cc (65 : Int32)) + (own_ge cc (91 : Int32))) + (own_ge cc (95 : Int32))) + (own_ge cc (96 : Int32))) + (own_ge cc (97 : Int32))) + (own_ge cc (123 : Int32))) + (own_ge cc (192 : Int32))) + (own_ge cc (215 : Int32))) + (own_ge cc (216 : Int32))) + (own_ge cc (247 : Int32))) + (own_ge cc (248 : Int32))) + (own_ge cc (768 : Int32))) + (own_ge cc (880 : Int32))) + (own_ge cc (894 : Int32))) + (own_ge cc (895 : Int32))) + (own_ge cc (8192 : Int32))) + (own_ge cc (8204 : Int32))) + (own_ge cc (8206 : Int32))) + (own_ge cc (8304 : Int32))))])) _
    refine XS.bipush X73.here hx rfl (hb hby at_450) ?_
    show Steps p.tables e below (T73.setTop (mkF m 452 #[.val (.int p1), .val (.int p2), .val (.int p3), .val (.int p4), .val (.ref b5), .val (.int (p4 &&& (3 : Int32))), .val (.int cc), .unset, .unset] [(.int (19 : Int32)), (.ref b5), (.int cc), (.int (((((((((((((((((((own_ge cc (65 : Int32)) + (own_ge cc (91 : Int32))) + (own_ge cc (95 : Int32))) + (own_ge cc (96 : Int32))) + (own_ge cc (97 : Int32))) + (own_ge cc (123 : Int32))) + (own_ge cc (192 : Int32))) + (own_ge cc (215 : Int32))) + (own_ge cc (216 : Int32))) + (own_ge cc (247 : Int32))) + (own_ge cc (248 : Int32))) + (own_ge cc (768 : Int32))) + (own_ge cc (880 : Int32))) + (own_ge cc (894 : Int32))) + (own_ge cc (895 : Int32))) + (own_ge cc (8192 : Int32))) + (own_ge cc (8204 : Int32))) + (own_ge cc (8206 : Int32))) + (own_ge cc (8304 : Int32))))])) _
    refine X73.iaload hx (j := (19 : Int32)) (v := (.int (8592 : Int32))) (by rw [e73q]; exact Ar_b5.1) (State.isArrayOf_alike hZ.alike Ar_b5.2.1) Ar_b5.2.2 hin452 hat452 (g := (mkF m 452 #[.val (.int p1), .val (.int p2), .val (.int p3), .val (.int p4), .val (.ref b5), .val (.int (p4 &&& (3 : Int32))), .val (.int cc), .unset, .unset] [(.int (19 : Int32)), (.ref b5), (.int cc), (.int (((((((((((((((((((own_ge cc (65 : Int32)) + (own_ge cc (91 : Int32))) + (own_ge cc (95 : Int32))) + (own_ge cc (96 : Int32))) + (own_ge cc (97 : Int32))) + (own_ge cc (123 : Int32))) + (own_ge cc (192 : Int32))) + (own_ge cc (215 : Int32))) + (own_ge cc (216 : Int32))) + (own_ge cc (247 : Int32))) + (own_ge cc (248 : Int32))) + (own_ge cc (768 : Int32))) + (own_ge cc (880 : Int32))) + (own_ge cc (894 : Int32))) + (own_ge cc (895 : Int32))) + (own_ge cc (8192 : Int32))) + (own_ge cc (8204 : Int32))) + (own_ge cc (8206 : Int32))) + (own_ge cc (8304 : Int32))))])) rfl rfl (hb hby at_452) _ ?_
    show Steps p.tables e below (T73.setTop (mkF m 453 #[.val (.int p1), .val (.int p2), .val (.int p3), .val (.int p4), .val (.ref b5), .val (.int (p4 &&& (3 : Int32))), .val (.int cc), .unset, .unset] [(.int (8592 : Int32)), (.int cc), (.int (((((((((((((((((((own_ge cc (65 : Int32)) + (own_ge cc (91 : Int32))) + (own_ge cc (95 : Int32))) + (own_ge cc (96 : Int32))) + (own_ge cc (97 : Int32))) + (own_ge cc (123 : Int32))) + (own_ge cc (192 : Int32))) + (own_ge cc (215 : Int32))) + (own_ge cc (216 : Int32))) + (own_ge cc (247 : Int32))) + (own_ge cc (248 : Int32))) + (own_ge cc (768 : Int32))) + (own_ge cc (880 : Int32))) + (own_ge cc (894 : Int32))) + (own_ge cc (895 : Int32))) + (own_ge cc (8192 : Int32))) + (own_ge cc (8204 : Int32))) + (own_ge cc (8206 : Int32))) + (own_ge cc (8304 : Int32))))])) _
    refine st75 _ ?_
    show Steps p.tables e below (T75.setTop (mkF m 456 #[.val (.int p1), .val (.int p2), .val (.int p3), .val (.int p4), .val (.ref b5), .val (.int (p4 &&& (3 : Int32))), .val (.int cc), .unset, .unset] [(.int (own_ge cc (8592 : Int32))), (.int (((((((((((((((((((own_ge cc (65 : Int32)) + (own_ge cc (91 : Int32))) + (own_ge cc (95 : Int32))) + (own_ge cc (96 : Int32))) + (own_ge cc (97 : Int32))) + (own_ge cc (123 : Int32))) + (own_ge cc (192 : Int32))) + (own_ge cc (215 : Int32))) + (own_ge cc (216 : Int32))) + (own_ge cc (247 : Int32))) + (own_ge cc (248 : Int32))) + (own_ge cc (768 : Int32))) + (own_ge cc (880 : Int32))) + (own_ge cc (894 : Int32))) + (own_ge cc (895 : Int32))) + (own_ge cc (8192 : Int32))) + (own_ge cc (8204 : Int32))) + (own_ge cc (8206 : Int32))) + (own_ge cc (8304 : Int32))))])) _
    refine XS.iadd X75.here hx rfl (hb hby at_456) rfl ?_
    show Steps p.tables e below (T75.setTop (mkF m 457 #[.val (.int p1), .val (.int p2), .val (.int p3), .val (.int p4), .val (.ref b5), .val (.int (p4 &&& (3 : Int32))), .val (.int cc), .unset, .unset] [(.int ((((((((((((((((((((own_ge cc (65 : Int32)) + (own_ge cc (91 : Int32))) + (own_ge cc (95 : Int32))) + (own_ge cc (96 : Int32))) + (own_ge cc (97 : Int32))) + (own_ge cc (123 : Int32))) + (own_ge cc (192 : Int32))) + (own_ge cc (215 : Int32))) + (own_ge cc (216 : Int32))) + (own_ge cc (247 : Int32))) + (own_ge cc (248 : Int32))) + (own_ge cc (768 : Int32))) + (own_ge cc (880 : Int32))) + (own_ge cc (894 : Int32))) + (own_ge cc (895 : Int32))) + (own_ge cc (8192 : Int32))) + (own_ge cc (8204 : Int32))) + (own_ge cc (8206 : Int32))) + (own_ge cc (8304 : Int32))) + (own_ge cc (8592 : Int32))))])) _
    refine XS.iload X75.here hx rfl (hb hby at_457) rfl ?_
    show Steps p.tables e below (T75.setTop (mkF m 459 #[.val (.int p1), .val (.int p2), .val (.int p3), .val (.int p4), .val (.ref b5), .val (.int (p4 &&& (3 : Int32))), .val (.int cc), .unset, .unset] [(.int cc), (.int ((((((((((((((((((((own_ge cc (65 : Int32)) + (own_ge cc (91 : Int32))) + (own_ge cc (95 : Int32))) + (own_ge cc (96 : Int32))) + (own_ge cc (97 : Int32))) + (own_ge cc (123 : Int32))) + (own_ge cc (192 : Int32))) + (own_ge cc (215 : Int32))) + (own_ge cc (216 : Int32))) + (own_ge cc (247 : Int32))) + (own_ge cc (248 : Int32))) + (own_ge cc (768 : Int32))) + (own_ge cc (880 : Int32))) + (own_ge cc (894 : Int32))) + (own_ge cc (895 : Int32))) + (own_ge cc (8192 : Int32))) + (own_ge cc (8204 : Int32))) + (own_ge cc (8206 : Int32))) + (own_ge cc (8304 : Int32))) + (own_ge cc (8592 : Int32))))])) _
    refine XS.aload X75.here hx rfl (hb hby at_459) rfl rfl ?_
    show Steps p.tables e below (T75.setTop (mkF m 461 #[.val (.int p1), .val (.int p2), .val (.int p3), .val (.int p4), .val (.ref b5), .val (.int (p4 &&& (3 : Int32))), .val (.int cc), .unset, .unset] [(.ref b5), (.int cc), (.int ((((((((((((((((((((own_ge cc (65 : Int32)) + (own_ge cc (91 : Int32))) + (own_ge cc (95 : Int32))) + (own_ge cc (96 : Int32))) + (own_ge cc (97 : Int32))) + (own_ge cc (123 : Int32))) + (own_ge cc (192 : Int32))) + (own_ge cc (215 : Int32))) + (own_ge cc (216 : Int32))) + (own_ge cc (247 : Int32))) + (own_ge cc (248 : Int32))) + (own_ge cc (768 : Int32))) + (own_ge cc (880 : Int32))) + (own_ge cc (894 : Int32))) + (own_ge cc (895 : Int32))) + (own_ge cc (8192 : Int32))) + (own_ge cc (8204 : Int32))) + (own_ge cc (8206 : Int32))) + (own_ge cc (8304 : Int32))) + (own_ge cc (8592 : Int32))))])) _
    refine XS.bipush X75.here hx rfl (hb hby at_461) ?_
    show Steps p.tables e below (T75.setTop (mkF m 463 #[.val (.int p1), .val (.int p2), .val (.int p3), .val (.int p4), .val (.ref b5), .val (.int (p4 &&& (3 : Int32))), .val (.int cc), .unset, .unset] [(.int (20 : Int32)), (.ref b5), (.int cc), (.int ((((((((((((((((((((own_ge cc (65 : Int32)) + (own_ge cc (91 : Int32))) + (own_ge cc (95 : Int32))) + (own_ge cc (96 : Int32))) + (own_ge cc (97 : Int32))) + (own_ge cc (123 : Int32))) + (own_ge cc (192 : Int32))) + (own_ge cc (215 : Int32))) + (own_ge cc (216 : Int32))) + (own_ge cc (247 : Int32))) + (own_ge cc (248 : Int32))) + (own_ge cc (768 : Int32))) + (own_ge cc (880 : Int32))) + (own_ge cc (894 : Int32))) + (own_ge cc (895 : Int32))) + (own_ge cc (8192 : Int32))) + (own_ge cc (8204 : Int32))) + (own_ge cc (8206 : Int32))) + (own_ge cc (8304 : Int32))) + (own_ge cc (8592 : Int32))))])) _
    refine X75.iaload hx (j := (20 : Int32)) (v := (.int (11264 : Int32))) (by rw [e75q]; exact Ar_b5.1) (State.isArrayOf_alike hZ.alike Ar_b5.2.1) Ar_b5.2.2 hin463 hat463 (g := (mkF m 463 #[.val (.int p1), .val (.int p2), .val (.int p3), .val (.int p4), .val (.ref b5), .val (.int (p4 &&& (3 : Int32))), .val (.int cc), .unset, .unset] [(.int (20 : Int32)), (.ref b5), (.int cc), (.int ((((((((((((((((((((own_ge cc (65 : Int32)) + (own_ge cc (91 : Int32))) + (own_ge cc (95 : Int32))) + (own_ge cc (96 : Int32))) + (own_ge cc (97 : Int32))) + (own_ge cc (123 : Int32))) + (own_ge cc (192 : Int32))) + (own_ge cc (215 : Int32))) + (own_ge cc (216 : Int32))) + (own_ge cc (247 : Int32))) + (own_ge cc (248 : Int32))) + (own_ge cc (768 : Int32))) + (own_ge cc (880 : Int32))) + (own_ge cc (894 : Int32))) + (own_ge cc (895 : Int32))) + (own_ge cc (8192 : Int32))) + (own_ge cc (8204 : Int32))) + (own_ge cc (8206 : Int32))) + (own_ge cc (8304 : Int32))) + (own_ge cc (8592 : Int32))))])) rfl rfl (hb hby at_463) _ ?_
    show Steps p.tables e below (T75.setTop (mkF m 464 #[.val (.int p1), .val (.int p2), .val (.int p3), .val (.int p4), .val (.ref b5), .val (.int (p4 &&& (3 : Int32))), .val (.int cc), .unset, .unset] [(.int (11264 : Int32)), (.int cc), (.int ((((((((((((((((((((own_ge cc (65 : Int32)) + (own_ge cc (91 : Int32))) + (own_ge cc (95 : Int32))) + (own_ge cc (96 : Int32))) + (own_ge cc (97 : Int32))) + (own_ge cc (123 : Int32))) + (own_ge cc (192 : Int32))) + (own_ge cc (215 : Int32))) + (own_ge cc (216 : Int32))) + (own_ge cc (247 : Int32))) + (own_ge cc (248 : Int32))) + (own_ge cc (768 : Int32))) + (own_ge cc (880 : Int32))) + (own_ge cc (894 : Int32))) + (own_ge cc (895 : Int32))) + (own_ge cc (8192 : Int32))) + (own_ge cc (8204 : Int32))) + (own_ge cc (8206 : Int32))) + (own_ge cc (8304 : Int32))) + (own_ge cc (8592 : Int32))))])) _
    refine st77 _ ?_
    show Steps p.tables e below (T77.setTop (mkF m 467 #[.val (.int p1), .val (.int p2), .val (.int p3), .val (.int p4), .val (.ref b5), .val (.int (p4 &&& (3 : Int32))), .val (.int cc), .unset, .unset] [(.int (own_ge cc (11264 : Int32))), (.int ((((((((((((((((((((own_ge cc (65 : Int32)) + (own_ge cc (91 : Int32))) + (own_ge cc (95 : Int32))) + (own_ge cc (96 : Int32))) + (own_ge cc (97 : Int32))) + (own_ge cc (123 : Int32))) + (own_ge cc (192 : Int32))) + (own_ge cc (215 : Int32))) + (own_ge cc (216 : Int32))) + (own_ge cc (247 : Int32))) + (own_ge cc (248 : Int32))) + (own_ge cc (768 : Int32))) + (own_ge cc (880 : Int32))) + (own_ge cc (894 : Int32))) + (own_ge cc (895 : Int32))) + (own_ge cc (8192 : Int32))) + (own_ge cc (8204 : Int32))) + (own_ge cc (8206 : Int32))) + (own_ge cc (8304 : Int32))) + (own_ge cc (8592 : Int32))))])) _
    refine XS.iadd X77.here hx rfl (hb hby at_467) rfl ?_
    show Steps p.tables e below (T77.setTop (mkF m 468 #[.val (.int p1), .val (.int p2), .val (.int p3), .val (.int p4), .val (.ref b5), .val (.int (p4 &&& (3 : Int32))), .val (.int cc), .unset, .unset] [(.int (((((((((((((((((((((own_ge cc (65 : Int32)) + (own_ge cc (91 : Int32))) + (own_ge cc (95 : Int32))) + (own_ge cc (96 : Int32))) + (own_ge cc (97 : Int32))) + (own_ge cc (123 : Int32))) + (own_ge cc (192 : Int32))) + (own_ge cc (215 : Int32))) + (own_ge cc (216 : Int32))) + (own_ge cc (247 : Int32))) + (own_ge cc (248 : Int32))) + (own_ge cc (768 : Int32))) + (own_ge cc (880 : Int32))) + (own_ge cc (894 : Int32))) + (own_ge cc (895 : Int32))) + (own_ge cc (8192 : Int32))) + (own_ge cc (8204 : Int32))) + (own_ge cc (8206 : Int32))) + (own_ge cc (8304 : Int32))) + (own_ge cc (8592 : Int32))) + (own_ge cc (11264 : Int32))))])) _
    refine XS.iload X77.here hx rfl (hb hby at_468) rfl ?_
    show Steps p.tables e below (T77.setTop (mkF m 470 #[.val (.int p1), .val (.int p2), .val (.int p3), .val (.int p4), .val (.ref b5), .val (.int (p4 &&& (3 : Int32))), .val (.int cc), .unset, .unset] [(.int cc), (.int (((((((((((((((((((((own_ge cc (65 : Int32)) + (own_ge cc (91 : Int32))) + (own_ge cc (95 : Int32))) + (own_ge cc (96 : Int32))) + (own_ge cc (97 : Int32))) + (own_ge cc (123 : Int32))) + (own_ge cc (192 : Int32))) + (own_ge cc (215 : Int32))) + (own_ge cc (216 : Int32))) + (own_ge cc (247 : Int32))) + (own_ge cc (248 : Int32))) + (own_ge cc (768 : Int32))) + (own_ge cc (880 : Int32))) + (own_ge cc (894 : Int32))) + (own_ge cc (895 : Int32))) + (own_ge cc (8192 : Int32))) + (own_ge cc (8204 : Int32))) + (own_ge cc (8206 : Int32))) + (own_ge cc (8304 : Int32))) + (own_ge cc (8592 : Int32))) + (own_ge cc (11264 : Int32))))])) _
    refine XS.aload X77.here hx rfl (hb hby at_470) rfl rfl ?_
    show Steps p.tables e below (T77.setTop (mkF m 472 #[.val (.int p1), .val (.int p2), .val (.int p3), .val (.int p4), .val (.ref b5), .val (.int (p4 &&& (3 : Int32))), .val (.int cc), .unset, .unset] [(.ref b5), (.int cc), (.int (((((((((((((((((((((own_ge cc (65 : Int32)) + (own_ge cc (91 : Int32))) + (own_ge cc (95 : Int32))) + (own_ge cc (96 : Int32))) + (own_ge cc (97 : Int32))) + (own_ge cc (123 : Int32))) + (own_ge cc (192 : Int32))) + (own_ge cc (215 : Int32))) + (own_ge cc (216 : Int32))) + (own_ge cc (247 : Int32))) + (own_ge cc (248 : Int32))) + (own_ge cc (768 : Int32))) + (own_ge cc (880 : Int32))) + (own_ge cc (894 : Int32))) + (own_ge cc (895 : Int32))) + (own_ge cc (8192 : Int32))) + (own_ge cc (8204 : Int32))) + (own_ge cc (8206 : Int32))) + (own_ge cc (8304 : Int32))) + (own_ge cc (8592 : Int32))) + (own_ge cc (11264 : Int32))))])) _
    refine XS.bipush X77.here hx rfl (hb hby at_472) ?_
    show Steps p.tables e below (T77.setTop (mkF m 474 #[.val (.int p1), .val (.int p2), .val (.int p3), .val (.int p4), .val (.ref b5), .val (.int (p4 &&& (3 : Int32))), .val (.int cc), .unset, .unset] [(.int (21 : Int32)), (.ref b5), (.int cc), (.int (((((((((((((((((((((own_ge cc (65 : Int32)) + (own_ge cc (91 : Int32))) + (own_ge cc (95 : Int32))) + (own_ge cc (96 : Int32))) + (own_ge cc (97 : Int32))) + (own_ge cc (123 : Int32))) + (own_ge cc (192 : Int32))) + (own_ge cc (215 : Int32))) + (own_ge cc (216 : Int32))) + (own_ge cc (247 : Int32))) + (own_ge cc (248 : Int32))) + (own_ge cc (768 : Int32))) + (own_ge cc (880 : Int32))) + (own_ge cc (894 : Int32))) + (own_ge cc (895 : Int32))) + (own_ge cc (8192 : Int32))) + (own_ge cc (8204 : Int32))) + (own_ge cc (8206 : Int32))) + (own_ge cc (8304 : Int32))) + (own_ge cc (8592 : Int32))) + (own_ge cc (11264 : Int32))))])) _
    refine X77.iaload hx (j := (21 : Int32)) (v := (.int (12272 : Int32))) (by rw [e77q]; exact Ar_b5.1) (State.isArrayOf_alike hZ.alike Ar_b5.2.1) Ar_b5.2.2 hin474 hat474 (g := (mkF m 474 #[.val (.int p1), .val (.int p2), .val (.int p3), .val (.int p4), .val (.ref b5), .val (.int (p4 &&& (3 : Int32))), .val (.int cc), .unset, .unset] [(.int (21 : Int32)), (.ref b5), (.int cc), (.int (((((((((((((((((((((own_ge cc (65 : Int32)) + (own_ge cc (91 : Int32))) + (own_ge cc (95 : Int32))) + (own_ge cc (96 : Int32))) + (own_ge cc (97 : Int32))) + (own_ge cc (123 : Int32))) + (own_ge cc (192 : Int32))) + (own_ge cc (215 : Int32))) + (own_ge cc (216 : Int32))) + (own_ge cc (247 : Int32))) + (own_ge cc (248 : Int32))) + (own_ge cc (768 : Int32))) + (own_ge cc (880 : Int32))) + (own_ge cc (894 : Int32))) + (own_ge cc (895 : Int32))) + (own_ge cc (8192 : Int32))) + (own_ge cc (8204 : Int32))) + (own_ge cc (8206 : Int32))) + (own_ge cc (8304 : Int32))) + (own_ge cc (8592 : Int32))) + (own_ge cc (11264 : Int32))))])) rfl rfl (hb hby at_474) _ ?_
    show Steps p.tables e below (T77.setTop (mkF m 475 #[.val (.int p1), .val (.int p2), .val (.int p3), .val (.int p4), .val (.ref b5), .val (.int (p4 &&& (3 : Int32))), .val (.int cc), .unset, .unset] [(.int (12272 : Int32)), (.int cc), (.int (((((((((((((((((((((own_ge cc (65 : Int32)) + (own_ge cc (91 : Int32))) + (own_ge cc (95 : Int32))) + (own_ge cc (96 : Int32))) + (own_ge cc (97 : Int32))) + (own_ge cc (123 : Int32))) + (own_ge cc (192 : Int32))) + (own_ge cc (215 : Int32))) + (own_ge cc (216 : Int32))) + (own_ge cc (247 : Int32))) + (own_ge cc (248 : Int32))) + (own_ge cc (768 : Int32))) + (own_ge cc (880 : Int32))) + (own_ge cc (894 : Int32))) + (own_ge cc (895 : Int32))) + (own_ge cc (8192 : Int32))) + (own_ge cc (8204 : Int32))) + (own_ge cc (8206 : Int32))) + (own_ge cc (8304 : Int32))) + (own_ge cc (8592 : Int32))) + (own_ge cc (11264 : Int32))))])) _
    refine st79 _ ?_
    show Steps p.tables e below (T79.setTop (mkF m 478 #[.val (.int p1), .val (.int p2), .val (.int p3), .val (.int p4), .val (.ref b5), .val (.int (p4 &&& (3 : Int32))), .val (.int cc), .unset, .unset] [(.int (own_ge cc (12272 : Int32))), (.int (((((((((((((((((((((own_ge cc (65 : Int32)) + (own_ge cc (91 : Int32))) + (own_ge cc (95 : Int32))) + (own_ge cc (96 : Int32))) + (own_ge cc (97 : Int32))) + (own_ge cc (123 : Int32))) + (own_ge cc (192 : Int32))) + (own_ge cc (215 : Int32))) + (own_ge cc (216 : Int32))) + (own_ge cc (247 : Int32))) + (own_ge cc (248 : Int32))) + (own_ge cc (768 : Int32))) + (own_ge cc (880 : Int32))) + (own_ge cc (894 : Int32))) + (own_ge cc (895 : Int32))) + (own_ge cc (8192 : Int32))) + (own_ge cc (8204 : Int32))) + (own_ge cc (8206 : Int32))) + (own_ge cc (8304 : Int32))) + (own_ge cc (8592 : Int32))) + (own_ge cc (11264 : Int32))))])) _
    refine XS.iadd X79.here hx rfl (hb hby at_478) rfl ?_
    show Steps p.tables e below (T79.setTop (mkF m 479 #[.val (.int p1), .val (.int p2), .val (.int p3), .val (.int p4), .val (.ref b5), .val (.int (p4 &&& (3 : Int32))), .val (.int cc), .unset, .unset] [(.int ((((((((((((((((((((((own_ge cc (65 : Int32)) + (own_ge cc (91 : Int32))) + (own_ge cc (95 : Int32))) + (own_ge cc (96 : Int32))) + (own_ge cc (97 : Int32))) + (own_ge cc (123 : Int32))) + (own_ge cc (192 : Int32))) + (own_ge cc (215 : Int32))) + (own_ge cc (216 : Int32))) + (own_ge cc (247 : Int32))) + (own_ge cc (248 : Int32))) + (own_ge cc (768 : Int32))) + (own_ge cc (880 : Int32))) + (own_ge cc (894 : Int32))) + (own_ge cc (895 : Int32))) + (own_ge cc (8192 : Int32))) + (own_ge cc (8204 : Int32))) + (own_ge cc (8206 : Int32))) + (own_ge cc (8304 : Int32))) + (own_ge cc (8592 : Int32))) + (own_ge cc (11264 : Int32))) + (own_ge cc (12272 : Int32))))])) _
    refine XS.iload X79.here hx rfl (hb hby at_479) rfl ?_
    show Steps p.tables e below (T79.setTop (mkF m 481 #[.val (.int p1), .val (.int p2), .val (.int p3), .val (.int p4), .val (.ref b5), .val (.int (p4 &&& (3 : Int32))), .val (.int cc), .unset, .unset] [(.int cc), (.int ((((((((((((((((((((((own_ge cc (65 : Int32)) + (own_ge cc (91 : Int32))) + (own_ge cc (95 : Int32))) + (own_ge cc (96 : Int32))) + (own_ge cc (97 : Int32))) + (own_ge cc (123 : Int32))) + (own_ge cc (192 : Int32))) + (own_ge cc (215 : Int32))) + (own_ge cc (216 : Int32))) + (own_ge cc (247 : Int32))) + (own_ge cc (248 : Int32))) + (own_ge cc (768 : Int32))) + (own_ge cc (880 : Int32))) + (own_ge cc (894 : Int32))) + (own_ge cc (895 : Int32))) + (own_ge cc (8192 : Int32))) + (own_ge cc (8204 : Int32))) + (own_ge cc (8206 : Int32))) + (own_ge cc (8304 : Int32))) + (own_ge cc (8592 : Int32))) + (own_ge cc (11264 : Int32))) + (own_ge cc (12272 : Int32))))])) _
    refine XS.aload X79.here hx rfl (hb hby at_481) rfl rfl ?_
    show Steps p.tables e below (T79.setTop (mkF m 483 #[.val (.int p1), .val (.int p2), .val (.int p3), .val (.int p4), .val (.ref b5), .val (.int (p4 &&& (3 : Int32))), .val (.int cc), .unset, .unset] [(.ref b5), (.int cc), (.int ((((((((((((((((((((((own_ge cc (65 : Int32)) + (own_ge cc (91 : Int32))) + (own_ge cc (95 : Int32))) + (own_ge cc (96 : Int32))) + (own_ge cc (97 : Int32))) + (own_ge cc (123 : Int32))) + (own_ge cc (192 : Int32))) + (own_ge cc (215 : Int32))) + (own_ge cc (216 : Int32))) + (own_ge cc (247 : Int32))) + (own_ge cc (248 : Int32))) + (own_ge cc (768 : Int32))) + (own_ge cc (880 : Int32))) + (own_ge cc (894 : Int32))) + (own_ge cc (895 : Int32))) + (own_ge cc (8192 : Int32))) + (own_ge cc (8204 : Int32))) + (own_ge cc (8206 : Int32))) + (own_ge cc (8304 : Int32))) + (own_ge cc (8592 : Int32))) + (own_ge cc (11264 : Int32))) + (own_ge cc (12272 : Int32))))])) _
    refine XS.bipush X79.here hx rfl (hb hby at_483) ?_
    show Steps p.tables e below (T79.setTop (mkF m 485 #[.val (.int p1), .val (.int p2), .val (.int p3), .val (.int p4), .val (.ref b5), .val (.int (p4 &&& (3 : Int32))), .val (.int cc), .unset, .unset] [(.int (22 : Int32)), (.ref b5), (.int cc), (.int ((((((((((((((((((((((own_ge cc (65 : Int32)) + (own_ge cc (91 : Int32))) + (own_ge cc (95 : Int32))) + (own_ge cc (96 : Int32))) + (own_ge cc (97 : Int32))) + (own_ge cc (123 : Int32))) + (own_ge cc (192 : Int32))) + (own_ge cc (215 : Int32))) + (own_ge cc (216 : Int32))) + (own_ge cc (247 : Int32))) + (own_ge cc (248 : Int32))) + (own_ge cc (768 : Int32))) + (own_ge cc (880 : Int32))) + (own_ge cc (894 : Int32))) + (own_ge cc (895 : Int32))) + (own_ge cc (8192 : Int32))) + (own_ge cc (8204 : Int32))) + (own_ge cc (8206 : Int32))) + (own_ge cc (8304 : Int32))) + (own_ge cc (8592 : Int32))) + (own_ge cc (11264 : Int32))) + (own_ge cc (12272 : Int32))))])) _
    refine X79.iaload hx (j := (22 : Int32)) (v := (.int (12289 : Int32))) (by rw [e79q]; exact Ar_b5.1) (State.isArrayOf_alike hZ.alike Ar_b5.2.1) Ar_b5.2.2 hin485 hat485 (g := (mkF m 485 #[.val (.int p1), .val (.int p2), .val (.int p3), .val (.int p4), .val (.ref b5), .val (.int (p4 &&& (3 : Int32))), .val (.int cc), .unset, .unset] [(.int (22 : Int32)), (.ref b5), (.int cc), (.int ((((((((((((((((((((((own_ge cc (65 : Int32)) + (own_ge cc (91 : Int32))) + (own_ge cc (95 : Int32))) + (own_ge cc (96 : Int32))) + (own_ge cc (97 : Int32))) + (own_ge cc (123 : Int32))) + (own_ge cc (192 : Int32))) + (own_ge cc (215 : Int32))) + (own_ge cc (216 : Int32))) + (own_ge cc (247 : Int32))) + (own_ge cc (248 : Int32))) + (own_ge cc (768 : Int32))) + (own_ge cc (880 : Int32))) + (own_ge cc (894 : Int32))) + (own_ge cc (895 : Int32))) + (own_ge cc (8192 : Int32))) + (own_ge cc (8204 : Int32))) + (own_ge cc (8206 : Int32))) + (own_ge cc (8304 : Int32))) + (own_ge cc (8592 : Int32))) + (own_ge cc (11264 : Int32))) + (own_ge cc (12272 : Int32))))])) rfl rfl (hb hby at_485) _ ?_
    show Steps p.tables e below (T79.setTop (mkF m 486 #[.val (.int p1), .val (.int p2), .val (.int p3), .val (.int p4), .val (.ref b5), .val (.int (p4 &&& (3 : Int32))), .val (.int cc), .unset, .unset] [(.int (12289 : Int32)), (.int cc), (.int ((((((((((((((((((((((own_ge cc (65 : Int32)) + (own_ge cc (91 : Int32))) + (own_ge cc (95 : Int32))) + (own_ge cc (96 : Int32))) + (own_ge cc (97 : Int32))) + (own_ge cc (123 : Int32))) + (own_ge cc (192 : Int32))) + (own_ge cc (215 : Int32))) + (own_ge cc (216 : Int32))) + (own_ge cc (247 : Int32))) + (own_ge cc (248 : Int32))) + (own_ge cc (768 : Int32))) + (own_ge cc (880 : Int32))) + (own_ge cc (894 : Int32))) + (own_ge cc (895 : Int32))) + (own_ge cc (8192 : Int32))) + (own_ge cc (8204 : Int32))) + (own_ge cc (8206 : Int32))) + (own_ge cc (8304 : Int32))) + (own_ge cc (8592 : Int32))) + (own_ge cc (11264 : Int32))) + (own_ge cc (12272 : Int32))))])) _
    refine st81 _ ?_
    show Steps p.tables e below (T81.setTop (mkF m 489 #[.val (.int p1), .val (.int p2), .val (.int p3), .val (.int p4), .val (.ref b5), .val (.int (p4 &&& (3 : Int32))), .val (.int cc), .unset, .unset] [(.int (own_ge cc (12289 : Int32))), (.int ((((((((((((((((((((((own_ge cc (65 : Int32)) + (own_ge cc (91 : Int32))) + (own_ge cc (95 : Int32))) + (own_ge cc (96 : Int32))) + (own_ge cc (97 : Int32))) + (own_ge cc (123 : Int32))) + (own_ge cc (192 : Int32))) + (own_ge cc (215 : Int32))) + (own_ge cc (216 : Int32))) + (own_ge cc (247 : Int32))) + (own_ge cc (248 : Int32))) + (own_ge cc (768 : Int32))) + (own_ge cc (880 : Int32))) + (own_ge cc (894 : Int32))) + (own_ge cc (895 : Int32))) + (own_ge cc (8192 : Int32))) + (own_ge cc (8204 : Int32))) + (own_ge cc (8206 : Int32))) + (own_ge cc (8304 : Int32))) + (own_ge cc (8592 : Int32))) + (own_ge cc (11264 : Int32))) + (own_ge cc (12272 : Int32))))])) _
    refine XS.iadd X81.here hx rfl (hb hby at_489) rfl ?_
    show Steps p.tables e below (T81.setTop (mkF m 490 #[.val (.int p1), .val (.int p2), .val (.int p3), .val (.int p4), .val (.ref b5), .val (.int (p4 &&& (3 : Int32))), .val (.int cc), .unset, .unset] [(.int (((((((((((((((((((((((own_ge cc (65 : Int32)) + (own_ge cc (91 : Int32))) + (own_ge cc (95 : Int32))) + (own_ge cc (96 : Int32))) + (own_ge cc (97 : Int32))) + (own_ge cc (123 : Int32))) + (own_ge cc (192 : Int32))) + (own_ge cc (215 : Int32))) + (own_ge cc (216 : Int32))) + (own_ge cc (247 : Int32))) + (own_ge cc (248 : Int32))) + (own_ge cc (768 : Int32))) + (own_ge cc (880 : Int32))) + (own_ge cc (894 : Int32))) + (own_ge cc (895 : Int32))) + (own_ge cc (8192 : Int32))) + (own_ge cc (8204 : Int32))) + (own_ge cc (8206 : Int32))) + (own_ge cc (8304 : Int32))) + (own_ge cc (8592 : Int32))) + (own_ge cc (11264 : Int32))) + (own_ge cc (12272 : Int32))) + (own_ge cc (12289 : Int32))))])) _
    refine XS.iload X81.here hx rfl (hb hby at_490) rfl ?_
    show Steps p.tables e below (T81.setTop (mkF m 492 #[.val (.int p1), .val (.int p2), .val (.int p3), .val (.int p4), .val (.ref b5), .val (.int (p4 &&& (3 : Int32))), .val (.int cc), .unset, .unset] [(.int cc), (.int (((((((((((((((((((((((own_ge cc (65 : Int32)) + (own_ge cc (91 : Int32))) + (own_ge cc (95 : Int32))) + (own_ge cc (96 : Int32))) + (own_ge cc (97 : Int32))) + (own_ge cc (123 : Int32))) + (own_ge cc (192 : Int32))) + (own_ge cc (215 : Int32))) + (own_ge cc (216 : Int32))) + (own_ge cc (247 : Int32))) + (own_ge cc (248 : Int32))) + (own_ge cc (768 : Int32))) + (own_ge cc (880 : Int32))) + (own_ge cc (894 : Int32))) + (own_ge cc (895 : Int32))) + (own_ge cc (8192 : Int32))) + (own_ge cc (8204 : Int32))) + (own_ge cc (8206 : Int32))) + (own_ge cc (8304 : Int32))) + (own_ge cc (8592 : Int32))) + (own_ge cc (11264 : Int32))) + (own_ge cc (12272 : Int32))) + (own_ge cc (12289 : Int32))))])) _
    refine XS.aload X81.here hx rfl (hb hby at_492) rfl rfl ?_
    show Steps p.tables e below (T81.setTop (mkF m 494 #[.val (.int p1), .val (.int p2), .val (.int p3), .val (.int p4), .val (.ref b5), .val (.int (p4 &&& (3 : Int32))), .val (.int cc), .unset, .unset] [(.ref b5), (.int cc), (.int (((((((((((((((((((((((own_ge cc (65 : Int32)) + (own_ge cc (91 : Int32))) + (own_ge cc (95 : Int32))) + (own_ge cc (96 : Int32))) + (own_ge cc (97 : Int32))) + (own_ge cc (123 : Int32))) + (own_ge cc (192 : Int32))) + (own_ge cc (215 : Int32))) + (own_ge cc (216 : Int32))) + (own_ge cc (247 : Int32))) + (own_ge cc (248 : Int32))) + (own_ge cc (768 : Int32))) + (own_ge cc (880 : Int32))) + (own_ge cc (894 : Int32))) + (own_ge cc (895 : Int32))) + (own_ge cc (8192 : Int32))) + (own_ge cc (8204 : Int32))) + (own_ge cc (8206 : Int32))) + (own_ge cc (8304 : Int32))) + (own_ge cc (8592 : Int32))) + (own_ge cc (11264 : Int32))) + (own_ge cc (12272 : Int32))) + (own_ge cc (12289 : Int32))))])) _
    refine XS.bipush X81.here hx rfl (hb hby at_494) ?_
    show Steps p.tables e below (T81.setTop (mkF m 496 #[.val (.int p1), .val (.int p2), .val (.int p3), .val (.int p4), .val (.ref b5), .val (.int (p4 &&& (3 : Int32))), .val (.int cc), .unset, .unset] [(.int (23 : Int32)), (.ref b5), (.int cc), (.int (((((((((((((((((((((((own_ge cc (65 : Int32)) + (own_ge cc (91 : Int32))) + (own_ge cc (95 : Int32))) + (own_ge cc (96 : Int32))) + (own_ge cc (97 : Int32))) + (own_ge cc (123 : Int32))) + (own_ge cc (192 : Int32))) + (own_ge cc (215 : Int32))) + (own_ge cc (216 : Int32))) + (own_ge cc (247 : Int32))) + (own_ge cc (248 : Int32))) + (own_ge cc (768 : Int32))) + (own_ge cc (880 : Int32))) + (own_ge cc (894 : Int32))) + (own_ge cc (895 : Int32))) + (own_ge cc (8192 : Int32))) + (own_ge cc (8204 : Int32))) + (own_ge cc (8206 : Int32))) + (own_ge cc (8304 : Int32))) + (own_ge cc (8592 : Int32))) + (own_ge cc (11264 : Int32))) + (own_ge cc (12272 : Int32))) + (own_ge cc (12289 : Int32))))])) _
    refine X81.iaload hx (j := (23 : Int32)) (v := (.int (55296 : Int32))) (by rw [e81q]; exact Ar_b5.1) (State.isArrayOf_alike hZ.alike Ar_b5.2.1) Ar_b5.2.2 hin496 hat496 (g := (mkF m 496 #[.val (.int p1), .val (.int p2), .val (.int p3), .val (.int p4), .val (.ref b5), .val (.int (p4 &&& (3 : Int32))), .val (.int cc), .unset, .unset] [(.int (23 : Int32)), (.ref b5), (.int cc), (.int (((((((((((((((((((((((own_ge cc (65 : Int32)) + (own_ge cc (91 : Int32))) + (own_ge cc (95 : Int32))) + (own_ge cc (96 : Int32))) + (own_ge cc (97 : Int32))) + (own_ge cc (123 : Int32))) + (own_ge cc (192 : Int32))) + (own_ge cc (215 : Int32))) + (own_ge cc (216 : Int32))) + (own_ge cc (247 : Int32))) + (own_ge cc (248 : Int32))) + (own_ge cc (768 : Int32))) + (own_ge cc (880 : Int32))) + (own_ge cc (894 : Int32))) + (own_ge cc (895 : Int32))) + (own_ge cc (8192 : Int32))) + (own_ge cc (8204 : Int32))) + (own_ge cc (8206 : Int32))) + (own_ge cc (8304 : Int32))) + (own_ge cc (8592 : Int32))) + (own_ge cc (11264 : Int32))) + (own_ge cc (12272 : Int32))) + (own_ge cc (12289 : Int32))))])) rfl rfl (hb hby at_496) _ ?_
    show Steps p.tables e below (T81.setTop (mkF m 497 #[.val (.int p1), .val (.int p2), .val (.int p3), .val (.int p4), .val (.ref b5), .val (.int (p4 &&& (3 : Int32))), .val (.int cc), .unset, .unset] [(.int (55296 : Int32)), (.int cc), (.int (((((((((((((((((((((((own_ge cc (65 : Int32)) + (own_ge cc (91 : Int32))) + (own_ge cc (95 : Int32))) + (own_ge cc (96 : Int32))) + (own_ge cc (97 : Int32))) + (own_ge cc (123 : Int32))) + (own_ge cc (192 : Int32))) + (own_ge cc (215 : Int32))) + (own_ge cc (216 : Int32))) + (own_ge cc (247 : Int32))) + (own_ge cc (248 : Int32))) + (own_ge cc (768 : Int32))) + (own_ge cc (880 : Int32))) + (own_ge cc (894 : Int32))) + (own_ge cc (895 : Int32))) + (own_ge cc (8192 : Int32))) + (own_ge cc (8204 : Int32))) + (own_ge cc (8206 : Int32))) + (own_ge cc (8304 : Int32))) + (own_ge cc (8592 : Int32))) + (own_ge cc (11264 : Int32))) + (own_ge cc (12272 : Int32))) + (own_ge cc (12289 : Int32))))])) _
    refine st83 _ ?_
    show Steps p.tables e below (T83.setTop (mkF m 500 #[.val (.int p1), .val (.int p2), .val (.int p3), .val (.int p4), .val (.ref b5), .val (.int (p4 &&& (3 : Int32))), .val (.int cc), .unset, .unset] [(.int (own_ge cc (55296 : Int32))), (.int (((((((((((((((((((((((own_ge cc (65 : Int32)) + (own_ge cc (91 : Int32))) + (own_ge cc (95 : Int32))) + (own_ge cc (96 : Int32))) + (own_ge cc (97 : Int32))) + (own_ge cc (123 : Int32))) + (own_ge cc (192 : Int32))) + (own_ge cc (215 : Int32))) + (own_ge cc (216 : Int32))) + (own_ge cc (247 : Int32))) + (own_ge cc (248 : Int32))) + (own_ge cc (768 : Int32))) + (own_ge cc (880 : Int32))) + (own_ge cc (894 : Int32))) + (own_ge cc (895 : Int32))) + (own_ge cc (8192 : Int32))) + (own_ge cc (8204 : Int32))) + (own_ge cc (8206 : Int32))) + (own_ge cc (8304 : Int32))) + (own_ge cc (8592 : Int32))) + (own_ge cc (11264 : Int32))) + (own_ge cc (12272 : Int32))) + (own_ge cc (12289 : Int32))))])) _
    refine XS.iadd X83.here hx rfl (hb hby at_500) rfl ?_
    show Steps p.tables e below (T83.setTop (mkF m 501 #[.val (.int p1), .val (.int p2), .val (.int p3), .val (.int p4), .val (.ref b5), .val (.int (p4 &&& (3 : Int32))), .val (.int cc), .unset, .unset] [(.int ((((((((((((((((((((((((own_ge cc (65 : Int32)) + (own_ge cc (91 : Int32))) + (own_ge cc (95 : Int32))) + (own_ge cc (96 : Int32))) + (own_ge cc (97 : Int32))) + (own_ge cc (123 : Int32))) + (own_ge cc (192 : Int32))) + (own_ge cc (215 : Int32))) + (own_ge cc (216 : Int32))) + (own_ge cc (247 : Int32))) + (own_ge cc (248 : Int32))) + (own_ge cc (768 : Int32))) + (own_ge cc (880 : Int32))) + (own_ge cc (894 : Int32))) + (own_ge cc (895 : Int32))) + (own_ge cc (8192 : Int32))) + (own_ge cc (8204 : Int32))) + (own_ge cc (8206 : Int32))) + (own_ge cc (8304 : Int32))) + (own_ge cc (8592 : Int32))) + (own_ge cc (11264 : Int32))) + (own_ge cc (12272 : Int32))) + (own_ge cc (12289 : Int32))) + (own_ge cc (55296 : Int32))))])) _
    refine XS.iload X83.here hx rfl (hb hby at_501) rfl ?_
    show Steps p.tables e below (T83.setTop (mkF m 503 #[.val (.int p1), .val (.int p2), .val (.int p3), .val (.int p4), .val (.ref b5), .val (.int (p4 &&& (3 : Int32))), .val (.int cc), .unset, .unset] [(.int cc), (.int ((((((((((((((((((((((((own_ge cc (65 : Int32)) + (own_ge cc (91 : Int32))) + (own_ge cc (95 : Int32))) + (own_ge cc (96 : Int32))) + (own_ge cc (97 : Int32))) + (own_ge cc (123 : Int32))) + (own_ge cc (192 : Int32))) + (own_ge cc (215 : Int32))) + (own_ge cc (216 : Int32))) + (own_ge cc (247 : Int32))) + (own_ge cc (248 : Int32))) + (own_ge cc (768 : Int32))) + (own_ge cc (880 : Int32))) + (own_ge cc (894 : Int32))) + (own_ge cc (895 : Int32))) + (own_ge cc (8192 : Int32))) + (own_ge cc (8204 : Int32))) + (own_ge cc (8206 : Int32))) + (own_ge cc (8304 : Int32))) + (own_ge cc (8592 : Int32))) + (own_ge cc (11264 : Int32))) + (own_ge cc (12272 : Int32))) + (own_ge cc (12289 : Int32))) + (own_ge cc (55296 : Int32))))])) _
    refine XS.aload X83.here hx rfl (hb hby at_503) rfl rfl ?_
    show Steps p.tables e below (T83.setTop (mkF m 505 #[.val (.int p1), .val (.int p2), .val (.int p3), .val (.int p4), .val (.ref b5), .val (.int (p4 &&& (3 : Int32))), .val (.int cc), .unset, .unset] [(.ref b5), (.int cc), (.int ((((((((((((((((((((((((own_ge cc (65 : Int32)) + (own_ge cc (91 : Int32))) + (own_ge cc (95 : Int32))) + (own_ge cc (96 : Int32))) + (own_ge cc (97 : Int32))) + (own_ge cc (123 : Int32))) + (own_ge cc (192 : Int32))) + (own_ge cc (215 : Int32))) + (own_ge cc (216 : Int32))) + (own_ge cc (247 : Int32))) + (own_ge cc (248 : Int32))) + (own_ge cc (768 : Int32))) + (own_ge cc (880 : Int32))) + (own_ge cc (894 : Int32))) + (own_ge cc (895 : Int32))) + (own_ge cc (8192 : Int32))) + (own_ge cc (8204 : Int32))) + (own_ge cc (8206 : Int32))) + (own_ge cc (8304 : Int32))) + (own_ge cc (8592 : Int32))) + (own_ge cc (11264 : Int32))) + (own_ge cc (12272 : Int32))) + (own_ge cc (12289 : Int32))) + (own_ge cc (55296 : Int32))))])) _
    refine XS.bipush X83.here hx rfl (hb hby at_505) ?_
    show Steps p.tables e below (T83.setTop (mkF m 507 #[.val (.int p1), .val (.int p2), .val (.int p3), .val (.int p4), .val (.ref b5), .val (.int (p4 &&& (3 : Int32))), .val (.int cc), .unset, .unset] [(.int (24 : Int32)), (.ref b5), (.int cc), (.int ((((((((((((((((((((((((own_ge cc (65 : Int32)) + (own_ge cc (91 : Int32))) + (own_ge cc (95 : Int32))) + (own_ge cc (96 : Int32))) + (own_ge cc (97 : Int32))) + (own_ge cc (123 : Int32))) + (own_ge cc (192 : Int32))) + (own_ge cc (215 : Int32))) + (own_ge cc (216 : Int32))) + (own_ge cc (247 : Int32))) + (own_ge cc (248 : Int32))) + (own_ge cc (768 : Int32))) + (own_ge cc (880 : Int32))) + (own_ge cc (894 : Int32))) + (own_ge cc (895 : Int32))) + (own_ge cc (8192 : Int32))) + (own_ge cc (8204 : Int32))) + (own_ge cc (8206 : Int32))) + (own_ge cc (8304 : Int32))) + (own_ge cc (8592 : Int32))) + (own_ge cc (11264 : Int32))) + (own_ge cc (12272 : Int32))) + (own_ge cc (12289 : Int32))) + (own_ge cc (55296 : Int32))))])) _
    refine X83.iaload hx (j := (24 : Int32)) (v := (.int (63744 : Int32))) (by rw [e83q]; exact Ar_b5.1) (State.isArrayOf_alike hZ.alike Ar_b5.2.1) Ar_b5.2.2 hin507 hat507 (g := (mkF m 507 #[.val (.int p1), .val (.int p2), .val (.int p3), .val (.int p4), .val (.ref b5), .val (.int (p4 &&& (3 : Int32))), .val (.int cc), .unset, .unset] [(.int (24 : Int32)), (.ref b5), (.int cc), (.int ((((((((((((((((((((((((own_ge cc (65 : Int32)) + (own_ge cc (91 : Int32))) + (own_ge cc (95 : Int32))) + (own_ge cc (96 : Int32))) + (own_ge cc (97 : Int32))) + (own_ge cc (123 : Int32))) + (own_ge cc (192 : Int32))) + (own_ge cc (215 : Int32))) + (own_ge cc (216 : Int32))) + (own_ge cc (247 : Int32))) + (own_ge cc (248 : Int32))) + (own_ge cc (768 : Int32))) + (own_ge cc (880 : Int32))) + (own_ge cc (894 : Int32))) + (own_ge cc (895 : Int32))) + (own_ge cc (8192 : Int32))) + (own_ge cc (8204 : Int32))) + (own_ge cc (8206 : Int32))) + (own_ge cc (8304 : Int32))) + (own_ge cc (8592 : Int32))) + (own_ge cc (11264 : Int32))) + (own_ge cc (12272 : Int32))) + (own_ge cc (12289 : Int32))) + (own_ge cc (55296 : Int32))))])) rfl rfl (hb hby at_507) _ ?_
    show Steps p.tables e below (T83.setTop (mkF m 508 #[.val (.int p1), .val (.int p2), .val (.int p3), .val (.int p4), .val (.ref b5), .val (.int (p4 &&& (3 : Int32))), .val (.int cc), .unset, .unset] [(.int (63744 : Int32)), (.int cc), (.int ((((((((((((((((((((((((own_ge cc (65 : Int32)) + (own_ge cc (91 : Int32))) + (own_ge cc (95 : Int32))) + (own_ge cc (96 : Int32))) + (own_ge cc (97 : Int32))) + (own_ge cc (123 : Int32))) + (own_ge cc (192 : Int32))) + (own_ge cc (215 : Int32))) + (own_ge cc (216 : Int32))) + (own_ge cc (247 : Int32))) + (own_ge cc (248 : Int32))) + (own_ge cc (768 : Int32))) + (own_ge cc (880 : Int32))) + (own_ge cc (894 : Int32))) + (own_ge cc (895 : Int32))) + (own_ge cc (8192 : Int32))) + (own_ge cc (8204 : Int32))) + (own_ge cc (8206 : Int32))) + (own_ge cc (8304 : Int32))) + (own_ge cc (8592 : Int32))) + (own_ge cc (11264 : Int32))) + (own_ge cc (12272 : Int32))) + (own_ge cc (12289 : Int32))) + (own_ge cc (55296 : Int32))))])) _
    refine st85 _ ?_
    show Steps p.tables e below (T85.setTop (mkF m 511 #[.val (.int p1), .val (.int p2), .val (.int p3), .val (.int p4), .val (.ref b5), .val (.int (p4 &&& (3 : Int32))), .val (.int cc), .unset, .unset] [(.int (own_ge cc (63744 : Int32))), (.int ((((((((((((((((((((((((own_ge cc (65 : Int32)) + (own_ge cc (91 : Int32))) + (own_ge cc (95 : Int32))) + (own_ge cc (96 : Int32))) + (own_ge cc (97 : Int32))) + (own_ge cc (123 : Int32))) + (own_ge cc (192 : Int32))) + (own_ge cc (215 : Int32))) + (own_ge cc (216 : Int32))) + (own_ge cc (247 : Int32))) + (own_ge cc (248 : Int32))) + (own_ge cc (768 : Int32))) + (own_ge cc (880 : Int32))) + (own_ge cc (894 : Int32))) + (own_ge cc (895 : Int32))) + (own_ge cc (8192 : Int32))) + (own_ge cc (8204 : Int32))) + (own_ge cc (8206 : Int32))) + (own_ge cc (8304 : Int32))) + (own_ge cc (8592 : Int32))) + (own_ge cc (11264 : Int32))) + (own_ge cc (12272 : Int32))) + (own_ge cc (12289 : Int32))) + (own_ge cc (55296 : Int32))))])) _
    refine XS.iadd X85.here hx rfl (hb hby at_511) rfl ?_
    show Steps p.tables e below (T85.setTop (mkF m 512 #[.val (.int p1), .val (.int p2), .val (.int p3), .val (.int p4), .val (.ref b5), .val (.int (p4 &&& (3 : Int32))), .val (.int cc), .unset, .unset] [(.int (((((((((((((((((((((((((own_ge cc (65 : Int32)) + (own_ge cc (91 : Int32))) + (own_ge cc (95 : Int32))) + (own_ge cc (96 : Int32))) + (own_ge cc (97 : Int32))) + (own_ge cc (123 : Int32))) + (own_ge cc (192 : Int32))) + (own_ge cc (215 : Int32))) + (own_ge cc (216 : Int32))) + (own_ge cc (247 : Int32))) + (own_ge cc (248 : Int32))) + (own_ge cc (768 : Int32))) + (own_ge cc (880 : Int32))) + (own_ge cc (894 : Int32))) + (own_ge cc (895 : Int32))) + (own_ge cc (8192 : Int32))) + (own_ge cc (8204 : Int32))) + (own_ge cc (8206 : Int32))) + (own_ge cc (8304 : Int32))) + (own_ge cc (8592 : Int32))) + (own_ge cc (11264 : Int32))) + (own_ge cc (12272 : Int32))) + (own_ge cc (12289 : Int32))) + (own_ge cc (55296 : Int32))) + (own_ge cc (63744 : Int32))))])) _
    refine XS.iload X85.here hx rfl (hb hby at_512) rfl ?_
    show Steps p.tables e below (T85.setTop (mkF m 514 #[.val (.int p1), .val (.int p2), .val (.int p3), .val (.int p4), .val (.ref b5), .val (.int (p4 &&& (3 : Int32))), .val (.int cc), .unset, .unset] [(.int cc), (.int (((((((((((((((((((((((((own_ge cc (65 : Int32)) + (own_ge cc (91 : Int32))) + (own_ge cc (95 : Int32))) + (own_ge cc (96 : Int32))) + (own_ge cc (97 : Int32))) + (own_ge cc (123 : Int32))) + (own_ge cc (192 : Int32))) + (own_ge cc (215 : Int32))) + (own_ge cc (216 : Int32))) + (own_ge cc (247 : Int32))) + (own_ge cc (248 : Int32))) + (own_ge cc (768 : Int32))) + (own_ge cc (880 : Int32))) + (own_ge cc (894 : Int32))) + (own_ge cc (895 : Int32))) + (own_ge cc (8192 : Int32))) + (own_ge cc (8204 : Int32))) + (own_ge cc (8206 : Int32))) + (own_ge cc (8304 : Int32))) + (own_ge cc (8592 : Int32))) + (own_ge cc (11264 : Int32))) + (own_ge cc (12272 : Int32))) + (own_ge cc (12289 : Int32))) + (own_ge cc (55296 : Int32))) + (own_ge cc (63744 : Int32))))])) _
    refine XS.aload X85.here hx rfl (hb hby at_514) rfl rfl ?_
    show Steps p.tables e below (T85.setTop (mkF m 516 #[.val (.int p1), .val (.int p2), .val (.int p3), .val (.int p4), .val (.ref b5), .val (.int (p4 &&& (3 : Int32))), .val (.int cc), .unset, .unset] [(.ref b5), (.int cc), (.int (((((((((((((((((((((((((own_ge cc (65 : Int32)) + (own_ge cc (91 : Int32))) + (own_ge cc (95 : Int32))) + (own_ge cc (96 : Int32))) + (own_ge cc (97 : Int32))) + (own_ge cc (123 : Int32))) + (own_ge cc (192 : Int32))) + (own_ge cc (215 : Int32))) + (own_ge cc (216 : Int32))) + (own_ge cc (247 : Int32))) + (own_ge cc (248 : Int32))) + (own_ge cc (768 : Int32))) + (own_ge cc (880 : Int32))) + (own_ge cc (894 : Int32))) + (own_ge cc (895 : Int32))) + (own_ge cc (8192 : Int32))) + (own_ge cc (8204 : Int32))) + (own_ge cc (8206 : Int32))) + (own_ge cc (8304 : Int32))) + (own_ge cc (8592 : Int32))) + (own_ge cc (11264 : Int32))) + (own_ge cc (12272 : Int32))) + (own_ge cc (12289 : Int32))) + (own_ge cc (55296 : Int32))) + (own_ge cc (63744 : Int32))))])) _
    refine XS.bipush X85.here hx rfl (hb hby at_516) ?_
    show Steps p.tables e below (T85.setTop (mkF m 518 #[.val (.int p1), .val (.int p2), .val (.int p3), .val (.int p4), .val (.ref b5), .val (.int (p4 &&& (3 : Int32))), .val (.int cc), .unset, .unset] [(.int (25 : Int32)), (.ref b5), (.int cc), (.int (((((((((((((((((((((((((own_ge cc (65 : Int32)) + (own_ge cc (91 : Int32))) + (own_ge cc (95 : Int32))) + (own_ge cc (96 : Int32))) + (own_ge cc (97 : Int32))) + (own_ge cc (123 : Int32))) + (own_ge cc (192 : Int32))) + (own_ge cc (215 : Int32))) + (own_ge cc (216 : Int32))) + (own_ge cc (247 : Int32))) + (own_ge cc (248 : Int32))) + (own_ge cc (768 : Int32))) + (own_ge cc (880 : Int32))) + (own_ge cc (894 : Int32))) + (own_ge cc (895 : Int32))) + (own_ge cc (8192 : Int32))) + (own_ge cc (8204 : Int32))) + (own_ge cc (8206 : Int32))) + (own_ge cc (8304 : Int32))) + (own_ge cc (8592 : Int32))) + (own_ge cc (11264 : Int32))) + (own_ge cc (12272 : Int32))) + (own_ge cc (12289 : Int32))) + (own_ge cc (55296 : Int32))) + (own_ge cc (63744 : Int32))))])) _
    refine X85.iaload hx (j := (25 : Int32)) (v := (.int (64976 : Int32))) (by rw [e85q]; exact Ar_b5.1) (State.isArrayOf_alike hZ.alike Ar_b5.2.1) Ar_b5.2.2 hin518 hat518 (g := (mkF m 518 #[.val (.int p1), .val (.int p2), .val (.int p3), .val (.int p4), .val (.ref b5), .val (.int (p4 &&& (3 : Int32))), .val (.int cc), .unset, .unset] [(.int (25 : Int32)), (.ref b5), (.int cc), (.int (((((((((((((((((((((((((own_ge cc (65 : Int32)) + (own_ge cc (91 : Int32))) + (own_ge cc (95 : Int32))) + (own_ge cc (96 : Int32))) + (own_ge cc (97 : Int32))) + (own_ge cc (123 : Int32))) + (own_ge cc (192 : Int32))) + (own_ge cc (215 : Int32))) + (own_ge cc (216 : Int32))) + (own_ge cc (247 : Int32))) + (own_ge cc (248 : Int32))) + (own_ge cc (768 : Int32))) + (own_ge cc (880 : Int32))) + (own_ge cc (894 : Int32))) + (own_ge cc (895 : Int32))) + (own_ge cc (8192 : Int32))) + (own_ge cc (8204 : Int32))) + (own_ge cc (8206 : Int32))) + (own_ge cc (8304 : Int32))) + (own_ge cc (8592 : Int32))) + (own_ge cc (11264 : Int32))) + (own_ge cc (12272 : Int32))) + (own_ge cc (12289 : Int32))) + (own_ge cc (55296 : Int32))) + (own_ge cc (63744 : Int32))))])) rfl rfl (hb hby at_518) _ ?_
    show Steps p.tables e below (T85.setTop (mkF m 519 #[.val (.int p1), .val (.int p2), .val (.int p3), .val (.int p4), .val (.ref b5), .val (.int (p4 &&& (3 : Int32))), .val (.int cc), .unset, .unset] [(.int (64976 : Int32)), (.int cc), (.int (((((((((((((((((((((((((own_ge cc (65 : Int32)) + (own_ge cc (91 : Int32))) + (own_ge cc (95 : Int32))) + (own_ge cc (96 : Int32))) + (own_ge cc (97 : Int32))) + (own_ge cc (123 : Int32))) + (own_ge cc (192 : Int32))) + (own_ge cc (215 : Int32))) + (own_ge cc (216 : Int32))) + (own_ge cc (247 : Int32))) + (own_ge cc (248 : Int32))) + (own_ge cc (768 : Int32))) + (own_ge cc (880 : Int32))) + (own_ge cc (894 : Int32))) + (own_ge cc (895 : Int32))) + (own_ge cc (8192 : Int32))) + (own_ge cc (8204 : Int32))) + (own_ge cc (8206 : Int32))) + (own_ge cc (8304 : Int32))) + (own_ge cc (8592 : Int32))) + (own_ge cc (11264 : Int32))) + (own_ge cc (12272 : Int32))) + (own_ge cc (12289 : Int32))) + (own_ge cc (55296 : Int32))) + (own_ge cc (63744 : Int32))))])) _
    refine st87 _ ?_
    show Steps p.tables e below (T87.setTop (mkF m 522 #[.val (.int p1), .val (.int p2), .val (.int p3), .val (.int p4), .val (.ref b5), .val (.int (p4 &&& (3 : Int32))), .val (.int cc), .unset, .unset] [(.int (own_ge cc (64976 : Int32))), (.int (((((((((((((((((((((((((own_ge cc (65 : Int32)) + (own_ge cc (91 : Int32))) + (own_ge cc (95 : Int32))) + (own_ge cc (96 : Int32))) + (own_ge cc (97 : Int32))) + (own_ge cc (123 : Int32))) + (own_ge cc (192 : Int32))) + (own_ge cc (215 : Int32))) + (own_ge cc (216 : Int32))) + (own_ge cc (247 : Int32))) + (own_ge cc (248 : Int32))) + (own_ge cc (768 : Int32))) + (own_ge cc (880 : Int32))) + (own_ge cc (894 : Int32))) + (own_ge cc (895 : Int32))) + (own_ge cc (8192 : Int32))) + (own_ge cc (8204 : Int32))) + (own_ge cc (8206 : Int32))) + (own_ge cc (8304 : Int32))) + (own_ge cc (8592 : Int32))) + (own_ge cc (11264 : Int32))) + (own_ge cc (12272 : Int32))) + (own_ge cc (12289 : Int32))) + (own_ge cc (55296 : Int32))) + (own_ge cc (63744 : Int32))))])) _
    refine XS.iadd X87.here hx rfl (hb hby at_522) rfl ?_
    show Steps p.tables e below (T87.setTop (mkF m 523 #[.val (.int p1), .val (.int p2), .val (.int p3), .val (.int p4), .val (.ref b5), .val (.int (p4 &&& (3 : Int32))), .val (.int cc), .unset, .unset] [(.int ((((((((((((((((((((((((((own_ge cc (65 : Int32)) + (own_ge cc (91 : Int32))) + (own_ge cc (95 : Int32))) + (own_ge cc (96 : Int32))) + (own_ge cc (97 : Int32))) + (own_ge cc (123 : Int32))) + (own_ge cc (192 : Int32))) + (own_ge cc (215 : Int32))) + (own_ge cc (216 : Int32))) + (own_ge cc (247 : Int32))) + (own_ge cc (248 : Int32))) + (own_ge cc (768 : Int32))) + (own_ge cc (880 : Int32))) + (own_ge cc (894 : Int32))) + (own_ge cc (895 : Int32))) + (own_ge cc (8192 : Int32))) + (own_ge cc (8204 : Int32))) + (own_ge cc (8206 : Int32))) + (own_ge cc (8304 : Int32))) + (own_ge cc (8592 : Int32))) + (own_ge cc (11264 : Int32))) + (own_ge cc (12272 : Int32))) + (own_ge cc (12289 : Int32))) + (own_ge cc (55296 : Int32))) + (own_ge cc (63744 : Int32))) + (own_ge cc (64976 : Int32))))])) _
    refine XS.iload X87.here hx rfl (hb hby at_523) rfl ?_
    show Steps p.tables e below (T87.setTop (mkF m 525 #[.val (.int p1), .val (.int p2), .val (.int p3), .val (.int p4), .val (.ref b5), .val (.int (p4 &&& (3 : Int32))), .val (.int cc), .unset, .unset] [(.int cc), (.int ((((((((((((((((((((((((((own_ge cc (65 : Int32)) + (own_ge cc (91 : Int32))) + (own_ge cc (95 : Int32))) + (own_ge cc (96 : Int32))) + (own_ge cc (97 : Int32))) + (own_ge cc (123 : Int32))) + (own_ge cc (192 : Int32))) + (own_ge cc (215 : Int32))) + (own_ge cc (216 : Int32))) + (own_ge cc (247 : Int32))) + (own_ge cc (248 : Int32))) + (own_ge cc (768 : Int32))) + (own_ge cc (880 : Int32))) + (own_ge cc (894 : Int32))) + (own_ge cc (895 : Int32))) + (own_ge cc (8192 : Int32))) + (own_ge cc (8204 : Int32))) + (own_ge cc (8206 : Int32))) + (own_ge cc (8304 : Int32))) + (own_ge cc (8592 : Int32))) + (own_ge cc (11264 : Int32))) + (own_ge cc (12272 : Int32))) + (own_ge cc (12289 : Int32))) + (own_ge cc (55296 : Int32))) + (own_ge cc (63744 : Int32))) + (own_ge cc (64976 : Int32))))])) _
    refine XS.aload X87.here hx rfl (hb hby at_525) rfl rfl ?_
    show Steps p.tables e below (T87.setTop (mkF m 527 #[.val (.int p1), .val (.int p2), .val (.int p3), .val (.int p4), .val (.ref b5), .val (.int (p4 &&& (3 : Int32))), .val (.int cc), .unset, .unset] [(.ref b5), (.int cc), (.int ((((((((((((((((((((((((((own_ge cc (65 : Int32)) + (own_ge cc (91 : Int32))) + (own_ge cc (95 : Int32))) + (own_ge cc (96 : Int32))) + (own_ge cc (97 : Int32))) + (own_ge cc (123 : Int32))) + (own_ge cc (192 : Int32))) + (own_ge cc (215 : Int32))) + (own_ge cc (216 : Int32))) + (own_ge cc (247 : Int32))) + (own_ge cc (248 : Int32))) + (own_ge cc (768 : Int32))) + (own_ge cc (880 : Int32))) + (own_ge cc (894 : Int32))) + (own_ge cc (895 : Int32))) + (own_ge cc (8192 : Int32))) + (own_ge cc (8204 : Int32))) + (own_ge cc (8206 : Int32))) + (own_ge cc (8304 : Int32))) + (own_ge cc (8592 : Int32))) + (own_ge cc (11264 : Int32))) + (own_ge cc (12272 : Int32))) + (own_ge cc (12289 : Int32))) + (own_ge cc (55296 : Int32))) + (own_ge cc (63744 : Int32))) + (own_ge cc (64976 : Int32))))])) _
    refine XS.bipush X87.here hx rfl (hb hby at_527) ?_
    show Steps p.tables e below (T87.setTop (mkF m 529 #[.val (.int p1), .val (.int p2), .val (.int p3), .val (.int p4), .val (.ref b5), .val (.int (p4 &&& (3 : Int32))), .val (.int cc), .unset, .unset] [(.int (26 : Int32)), (.ref b5), (.int cc), (.int ((((((((((((((((((((((((((own_ge cc (65 : Int32)) + (own_ge cc (91 : Int32))) + (own_ge cc (95 : Int32))) + (own_ge cc (96 : Int32))) + (own_ge cc (97 : Int32))) + (own_ge cc (123 : Int32))) + (own_ge cc (192 : Int32))) + (own_ge cc (215 : Int32))) + (own_ge cc (216 : Int32))) + (own_ge cc (247 : Int32))) + (own_ge cc (248 : Int32))) + (own_ge cc (768 : Int32))) + (own_ge cc (880 : Int32))) + (own_ge cc (894 : Int32))) + (own_ge cc (895 : Int32))) + (own_ge cc (8192 : Int32))) + (own_ge cc (8204 : Int32))) + (own_ge cc (8206 : Int32))) + (own_ge cc (8304 : Int32))) + (own_ge cc (8592 : Int32))) + (own_ge cc (11264 : Int32))) + (own_ge cc (12272 : Int32))) + (own_ge cc (12289 : Int32))) + (own_ge cc (55296 : Int32))) + (own_ge cc (63744 : Int32))) + (own_ge cc (64976 : Int32))))])) _
    refine X87.iaload hx (j := (26 : Int32)) (v := (.int (65008 : Int32))) (by rw [e87q]; exact Ar_b5.1) (State.isArrayOf_alike hZ.alike Ar_b5.2.1) Ar_b5.2.2 hin529 hat529 (g := (mkF m 529 #[.val (.int p1), .val (.int p2), .val (.int p3), .val (.int p4), .val (.ref b5), .val (.int (p4 &&& (3 : Int32))), .val (.int cc), .unset, .unset] [(.int (26 : Int32)), (.ref b5), (.int cc), (.int ((((((((((((((((((((((((((own_ge cc (65 : Int32)) + (own_ge cc (91 : Int32))) + (own_ge cc (95 : Int32))) + (own_ge cc (96 : Int32))) + (own_ge cc (97 : Int32))) + (own_ge cc (123 : Int32))) + (own_ge cc (192 : Int32))) + (own_ge cc (215 : Int32))) + (own_ge cc (216 : Int32))) + (own_ge cc (247 : Int32))) + (own_ge cc (248 : Int32))) + (own_ge cc (768 : Int32))) + (own_ge cc (880 : Int32))) + (own_ge cc (894 : Int32))) + (own_ge cc (895 : Int32))) + (own_ge cc (8192 : Int32))) + (own_ge cc (8204 : Int32))) + (own_ge cc (8206 : Int32))) + (own_ge cc (8304 : Int32))) + (own_ge cc (8592 : Int32))) + (own_ge cc (11264 : Int32))) + (own_ge cc (12272 : Int32))) + (own_ge cc (12289 : Int32))) + (own_ge cc (55296 : Int32))) + (own_ge cc (63744 : Int32))) + (own_ge cc (64976 : Int32))))])) rfl rfl (hb hby at_529) _ ?_
    show Steps p.tables e below (T87.setTop (mkF m 530 #[.val (.int p1), .val (.int p2), .val (.int p3), .val (.int p4), .val (.ref b5), .val (.int (p4 &&& (3 : Int32))), .val (.int cc), .unset, .unset] [(.int (65008 : Int32)), (.int cc), (.int ((((((((((((((((((((((((((own_ge cc (65 : Int32)) + (own_ge cc (91 : Int32))) + (own_ge cc (95 : Int32))) + (own_ge cc (96 : Int32))) + (own_ge cc (97 : Int32))) + (own_ge cc (123 : Int32))) + (own_ge cc (192 : Int32))) + (own_ge cc (215 : Int32))) + (own_ge cc (216 : Int32))) + (own_ge cc (247 : Int32))) + (own_ge cc (248 : Int32))) + (own_ge cc (768 : Int32))) + (own_ge cc (880 : Int32))) + (own_ge cc (894 : Int32))) + (own_ge cc (895 : Int32))) + (own_ge cc (8192 : Int32))) + (own_ge cc (8204 : Int32))) + (own_ge cc (8206 : Int32))) + (own_ge cc (8304 : Int32))) + (own_ge cc (8592 : Int32))) + (own_ge cc (11264 : Int32))) + (own_ge cc (12272 : Int32))) + (own_ge cc (12289 : Int32))) + (own_ge cc (55296 : Int32))) + (own_ge cc (63744 : Int32))) + (own_ge cc (64976 : Int32))))])) _
    refine st89 _ ?_
    show Steps p.tables e below (T89.setTop (mkF m 533 #[.val (.int p1), .val (.int p2), .val (.int p3), .val (.int p4), .val (.ref b5), .val (.int (p4 &&& (3 : Int32))), .val (.int cc), .unset, .unset] [(.int (own_ge cc (65008 : Int32))), (.int ((((((((((((((((((((((((((own_ge cc (65 : Int32)) + (own_ge cc (91 : Int32))) + (own_ge cc (95 : Int32))) + (own_ge cc (96 : Int32))) + (own_ge cc (97 : Int32))) + (own_ge cc (123 : Int32))) + (own_ge cc (192 : Int32))) + (own_ge cc (215 : Int32))) + (own_ge cc (216 : Int32))) + (own_ge cc (247 : Int32))) + (own_ge cc (248 : Int32))) + (own_ge cc (768 : Int32))) + (own_ge cc (880 : Int32))) + (own_ge cc (894 : Int32))) + (own_ge cc (895 : Int32))) + (own_ge cc (8192 : Int32))) + (own_ge cc (8204 : Int32))) + (own_ge cc (8206 : Int32))) + (own_ge cc (8304 : Int32))) + (own_ge cc (8592 : Int32))) + (own_ge cc (11264 : Int32))) + (own_ge cc (12272 : Int32))) + (own_ge cc (12289 : Int32))) + (own_ge cc (55296 : Int32))) + (own_ge cc (63744 : Int32))) + (own_ge cc (64976 : Int32))))])) _
    refine XS.iadd X89.here hx rfl (hb hby at_533) rfl ?_
    show Steps p.tables e below (T89.setTop (mkF m 534 #[.val (.int p1), .val (.int p2), .val (.int p3), .val (.int p4), .val (.ref b5), .val (.int (p4 &&& (3 : Int32))), .val (.int cc), .unset, .unset] [(.int (((((((((((((((((((((((((((own_ge cc (65 : Int32)) + (own_ge cc (91 : Int32))) + (own_ge cc (95 : Int32))) + (own_ge cc (96 : Int32))) + (own_ge cc (97 : Int32))) + (own_ge cc (123 : Int32))) + (own_ge cc (192 : Int32))) + (own_ge cc (215 : Int32))) + (own_ge cc (216 : Int32))) + (own_ge cc (247 : Int32))) + (own_ge cc (248 : Int32))) + (own_ge cc (768 : Int32))) + (own_ge cc (880 : Int32))) + (own_ge cc (894 : Int32))) + (own_ge cc (895 : Int32))) + (own_ge cc (8192 : Int32))) + (own_ge cc (8204 : Int32))) + (own_ge cc (8206 : Int32))) + (own_ge cc (8304 : Int32))) + (own_ge cc (8592 : Int32))) + (own_ge cc (11264 : Int32))) + (own_ge cc (12272 : Int32))) + (own_ge cc (12289 : Int32))) + (own_ge cc (55296 : Int32))) + (own_ge cc (63744 : Int32))) + (own_ge cc (64976 : Int32))) + (own_ge cc (65008 : Int32))))])) _
    refine XS.iload X89.here hx rfl (hb hby at_534) rfl ?_
    show Steps p.tables e below (T89.setTop (mkF m 536 #[.val (.int p1), .val (.int p2), .val (.int p3), .val (.int p4), .val (.ref b5), .val (.int (p4 &&& (3 : Int32))), .val (.int cc), .unset, .unset] [(.int cc), (.int (((((((((((((((((((((((((((own_ge cc (65 : Int32)) + (own_ge cc (91 : Int32))) + (own_ge cc (95 : Int32))) + (own_ge cc (96 : Int32))) + (own_ge cc (97 : Int32))) + (own_ge cc (123 : Int32))) + (own_ge cc (192 : Int32))) + (own_ge cc (215 : Int32))) + (own_ge cc (216 : Int32))) + (own_ge cc (247 : Int32))) + (own_ge cc (248 : Int32))) + (own_ge cc (768 : Int32))) + (own_ge cc (880 : Int32))) + (own_ge cc (894 : Int32))) + (own_ge cc (895 : Int32))) + (own_ge cc (8192 : Int32))) + (own_ge cc (8204 : Int32))) + (own_ge cc (8206 : Int32))) + (own_ge cc (8304 : Int32))) + (own_ge cc (8592 : Int32))) + (own_ge cc (11264 : Int32))) + (own_ge cc (12272 : Int32))) + (own_ge cc (12289 : Int32))) + (own_ge cc (55296 : Int32))) + (own_ge cc (63744 : Int32))) + (own_ge cc (64976 : Int32))) + (own_ge cc (65008 : Int32))))])) _
    refine XS.aload X89.here hx rfl (hb hby at_536) rfl rfl ?_
    show Steps p.tables e below (T89.setTop (mkF m 538 #[.val (.int p1), .val (.int p2), .val (.int p3), .val (.int p4), .val (.ref b5), .val (.int (p4 &&& (3 : Int32))), .val (.int cc), .unset, .unset] [(.ref b5), (.int cc), (.int (((((((((((((((((((((((((((own_ge cc (65 : Int32)) + (own_ge cc (91 : Int32))) + (own_ge cc (95 : Int32))) + (own_ge cc (96 : Int32))) + (own_ge cc (97 : Int32))) + (own_ge cc (123 : Int32))) + (own_ge cc (192 : Int32))) + (own_ge cc (215 : Int32))) + (own_ge cc (216 : Int32))) + (own_ge cc (247 : Int32))) + (own_ge cc (248 : Int32))) + (own_ge cc (768 : Int32))) + (own_ge cc (880 : Int32))) + (own_ge cc (894 : Int32))) + (own_ge cc (895 : Int32))) + (own_ge cc (8192 : Int32))) + (own_ge cc (8204 : Int32))) + (own_ge cc (8206 : Int32))) + (own_ge cc (8304 : Int32))) + (own_ge cc (8592 : Int32))) + (own_ge cc (11264 : Int32))) + (own_ge cc (12272 : Int32))) + (own_ge cc (12289 : Int32))) + (own_ge cc (55296 : Int32))) + (own_ge cc (63744 : Int32))) + (own_ge cc (64976 : Int32))) + (own_ge cc (65008 : Int32))))])) _
    refine XS.bipush X89.here hx rfl (hb hby at_538) ?_
    show Steps p.tables e below (T89.setTop (mkF m 540 #[.val (.int p1), .val (.int p2), .val (.int p3), .val (.int p4), .val (.ref b5), .val (.int (p4 &&& (3 : Int32))), .val (.int cc), .unset, .unset] [(.int (27 : Int32)), (.ref b5), (.int cc), (.int (((((((((((((((((((((((((((own_ge cc (65 : Int32)) + (own_ge cc (91 : Int32))) + (own_ge cc (95 : Int32))) + (own_ge cc (96 : Int32))) + (own_ge cc (97 : Int32))) + (own_ge cc (123 : Int32))) + (own_ge cc (192 : Int32))) + (own_ge cc (215 : Int32))) + (own_ge cc (216 : Int32))) + (own_ge cc (247 : Int32))) + (own_ge cc (248 : Int32))) + (own_ge cc (768 : Int32))) + (own_ge cc (880 : Int32))) + (own_ge cc (894 : Int32))) + (own_ge cc (895 : Int32))) + (own_ge cc (8192 : Int32))) + (own_ge cc (8204 : Int32))) + (own_ge cc (8206 : Int32))) + (own_ge cc (8304 : Int32))) + (own_ge cc (8592 : Int32))) + (own_ge cc (11264 : Int32))) + (own_ge cc (12272 : Int32))) + (own_ge cc (12289 : Int32))) + (own_ge cc (55296 : Int32))) + (own_ge cc (63744 : Int32))) + (own_ge cc (64976 : Int32))) + (own_ge cc (65008 : Int32))))])) _
    refine X89.iaload hx (j := (27 : Int32)) (v := (.int (65534 : Int32))) (by rw [e89q]; exact Ar_b5.1) (State.isArrayOf_alike hZ.alike Ar_b5.2.1) Ar_b5.2.2 hin540 hat540 (g := (mkF m 540 #[.val (.int p1), .val (.int p2), .val (.int p3), .val (.int p4), .val (.ref b5), .val (.int (p4 &&& (3 : Int32))), .val (.int cc), .unset, .unset] [(.int (27 : Int32)), (.ref b5), (.int cc), (.int (((((((((((((((((((((((((((own_ge cc (65 : Int32)) + (own_ge cc (91 : Int32))) + (own_ge cc (95 : Int32))) + (own_ge cc (96 : Int32))) + (own_ge cc (97 : Int32))) + (own_ge cc (123 : Int32))) + (own_ge cc (192 : Int32))) + (own_ge cc (215 : Int32))) + (own_ge cc (216 : Int32))) + (own_ge cc (247 : Int32))) + (own_ge cc (248 : Int32))) + (own_ge cc (768 : Int32))) + (own_ge cc (880 : Int32))) + (own_ge cc (894 : Int32))) + (own_ge cc (895 : Int32))) + (own_ge cc (8192 : Int32))) + (own_ge cc (8204 : Int32))) + (own_ge cc (8206 : Int32))) + (own_ge cc (8304 : Int32))) + (own_ge cc (8592 : Int32))) + (own_ge cc (11264 : Int32))) + (own_ge cc (12272 : Int32))) + (own_ge cc (12289 : Int32))) + (own_ge cc (55296 : Int32))) + (own_ge cc (63744 : Int32))) + (own_ge cc (64976 : Int32))) + (own_ge cc (65008 : Int32))))])) rfl rfl (hb hby at_540) _ ?_
    show Steps p.tables e below (T89.setTop (mkF m 541 #[.val (.int p1), .val (.int p2), .val (.int p3), .val (.int p4), .val (.ref b5), .val (.int (p4 &&& (3 : Int32))), .val (.int cc), .unset, .unset] [(.int (65534 : Int32)), (.int cc), (.int (((((((((((((((((((((((((((own_ge cc (65 : Int32)) + (own_ge cc (91 : Int32))) + (own_ge cc (95 : Int32))) + (own_ge cc (96 : Int32))) + (own_ge cc (97 : Int32))) + (own_ge cc (123 : Int32))) + (own_ge cc (192 : Int32))) + (own_ge cc (215 : Int32))) + (own_ge cc (216 : Int32))) + (own_ge cc (247 : Int32))) + (own_ge cc (248 : Int32))) + (own_ge cc (768 : Int32))) + (own_ge cc (880 : Int32))) + (own_ge cc (894 : Int32))) + (own_ge cc (895 : Int32))) + (own_ge cc (8192 : Int32))) + (own_ge cc (8204 : Int32))) + (own_ge cc (8206 : Int32))) + (own_ge cc (8304 : Int32))) + (own_ge cc (8592 : Int32))) + (own_ge cc (11264 : Int32))) + (own_ge cc (12272 : Int32))) + (own_ge cc (12289 : Int32))) + (own_ge cc (55296 : Int32))) + (own_ge cc (63744 : Int32))) + (own_ge cc (64976 : Int32))) + (own_ge cc (65008 : Int32))))])) _
    refine st91 _ ?_
    show Steps p.tables e below (T91.setTop (mkF m 544 #[.val (.int p1), .val (.int p2), .val (.int p3), .val (.int p4), .val (.ref b5), .val (.int (p4 &&& (3 : Int32))), .val (.int cc), .unset, .unset] [(.int (own_ge cc (65534 : Int32))), (.int (((((((((((((((((((((((((((own_ge cc (65 : Int32)) + (own_ge cc (91 : Int32))) + (own_ge cc (95 : Int32))) + (own_ge cc (96 : Int32))) + (own_ge cc (97 : Int32))) + (own_ge cc (123 : Int32))) + (own_ge cc (192 : Int32))) + (own_ge cc (215 : Int32))) + (own_ge cc (216 : Int32))) + (own_ge cc (247 : Int32))) + (own_ge cc (248 : Int32))) + (own_ge cc (768 : Int32))) + (own_ge cc (880 : Int32))) + (own_ge cc (894 : Int32))) + (own_ge cc (895 : Int32))) + (own_ge cc (8192 : Int32))) + (own_ge cc (8204 : Int32))) + (own_ge cc (8206 : Int32))) + (own_ge cc (8304 : Int32))) + (own_ge cc (8592 : Int32))) + (own_ge cc (11264 : Int32))) + (own_ge cc (12272 : Int32))) + (own_ge cc (12289 : Int32))) + (own_ge cc (55296 : Int32))) + (own_ge cc (63744 : Int32))) + (own_ge cc (64976 : Int32))) + (own_ge cc (65008 : Int32))))])) _
    refine XS.iadd X91.here hx rfl (hb hby at_544) rfl ?_
    show Steps p.tables e below (T91.setTop (mkF m 545 #[.val (.int p1), .val (.int p2), .val (.int p3), .val (.int p4), .val (.ref b5), .val (.int (p4 &&& (3 : Int32))), .val (.int cc), .unset, .unset] [(.int ((((((((((((((((((((((((((((own_ge cc (65 : Int32)) + (own_ge cc (91 : Int32))) + (own_ge cc (95 : Int32))) + (own_ge cc (96 : Int32))) + (own_ge cc (97 : Int32))) + (own_ge cc (123 : Int32))) + (own_ge cc (192 : Int32))) + (own_ge cc (215 : Int32))) + (own_ge cc (216 : Int32))) + (own_ge cc (247 : Int32))) + (own_ge cc (248 : Int32))) + (own_ge cc (768 : Int32))) + (own_ge cc (880 : Int32))) + (own_ge cc (894 : Int32))) + (own_ge cc (895 : Int32))) + (own_ge cc (8192 : Int32))) + (own_ge cc (8204 : Int32))) + (own_ge cc (8206 : Int32))) + (own_ge cc (8304 : Int32))) + (own_ge cc (8592 : Int32))) + (own_ge cc (11264 : Int32))) + (own_ge cc (12272 : Int32))) + (own_ge cc (12289 : Int32))) + (own_ge cc (55296 : Int32))) + (own_ge cc (63744 : Int32))) + (own_ge cc (64976 : Int32))) + (own_ge cc (65008 : Int32))) + (own_ge cc (65534 : Int32))))])) _
    refine XS.iload X91.here hx rfl (hb hby at_545) rfl ?_
    show Steps p.tables e below (T91.setTop (mkF m 547 #[.val (.int p1), .val (.int p2), .val (.int p3), .val (.int p4), .val (.ref b5), .val (.int (p4 &&& (3 : Int32))), .val (.int cc), .unset, .unset] [(.int cc), (.int ((((((((((((((((((((((((((((own_ge cc (65 : Int32)) + (own_ge cc (91 : Int32))) + (own_ge cc (95 : Int32))) + (own_ge cc (96 : Int32))) + (own_ge cc (97 : Int32))) + (own_ge cc (123 : Int32))) + (own_ge cc (192 : Int32))) + (own_ge cc (215 : Int32))) + (own_ge cc (216 : Int32))) + (own_ge cc (247 : Int32))) + (own_ge cc (248 : Int32))) + (own_ge cc (768 : Int32))) + (own_ge cc (880 : Int32))) + (own_ge cc (894 : Int32))) + (own_ge cc (895 : Int32))) + (own_ge cc (8192 : Int32))) + (own_ge cc (8204 : Int32))) + (own_ge cc (8206 : Int32))) + (own_ge cc (8304 : Int32))) + (own_ge cc (8592 : Int32))) + (own_ge cc (11264 : Int32))) + (own_ge cc (12272 : Int32))) + (own_ge cc (12289 : Int32))) + (own_ge cc (55296 : Int32))) + (own_ge cc (63744 : Int32))) + (own_ge cc (64976 : Int32))) + (own_ge cc (65008 : Int32))) + (own_ge cc (65534 : Int32))))])) _
    refine XS.aload X91.here hx rfl (hb hby at_547) rfl rfl ?_
    show Steps p.tables e below (T91.setTop (mkF m 549 #[.val (.int p1), .val (.int p2), .val (.int p3), .val (.int p4), .val (.ref b5), .val (.int (p4 &&& (3 : Int32))), .val (.int cc), .unset, .unset] [(.ref b5), (.int cc), (.int ((((((((((((((((((((((((((((own_ge cc (65 : Int32)) + (own_ge cc (91 : Int32))) + (own_ge cc (95 : Int32))) + (own_ge cc (96 : Int32))) + (own_ge cc (97 : Int32))) + (own_ge cc (123 : Int32))) + (own_ge cc (192 : Int32))) + (own_ge cc (215 : Int32))) + (own_ge cc (216 : Int32))) + (own_ge cc (247 : Int32))) + (own_ge cc (248 : Int32))) + (own_ge cc (768 : Int32))) + (own_ge cc (880 : Int32))) + (own_ge cc (894 : Int32))) + (own_ge cc (895 : Int32))) + (own_ge cc (8192 : Int32))) + (own_ge cc (8204 : Int32))) + (own_ge cc (8206 : Int32))) + (own_ge cc (8304 : Int32))) + (own_ge cc (8592 : Int32))) + (own_ge cc (11264 : Int32))) + (own_ge cc (12272 : Int32))) + (own_ge cc (12289 : Int32))) + (own_ge cc (55296 : Int32))) + (own_ge cc (63744 : Int32))) + (own_ge cc (64976 : Int32))) + (own_ge cc (65008 : Int32))) + (own_ge cc (65534 : Int32))))])) _
    refine XS.bipush X91.here hx rfl (hb hby at_549) ?_
    show Steps p.tables e below (T91.setTop (mkF m 551 #[.val (.int p1), .val (.int p2), .val (.int p3), .val (.int p4), .val (.ref b5), .val (.int (p4 &&& (3 : Int32))), .val (.int cc), .unset, .unset] [(.int (28 : Int32)), (.ref b5), (.int cc), (.int ((((((((((((((((((((((((((((own_ge cc (65 : Int32)) + (own_ge cc (91 : Int32))) + (own_ge cc (95 : Int32))) + (own_ge cc (96 : Int32))) + (own_ge cc (97 : Int32))) + (own_ge cc (123 : Int32))) + (own_ge cc (192 : Int32))) + (own_ge cc (215 : Int32))) + (own_ge cc (216 : Int32))) + (own_ge cc (247 : Int32))) + (own_ge cc (248 : Int32))) + (own_ge cc (768 : Int32))) + (own_ge cc (880 : Int32))) + (own_ge cc (894 : Int32))) + (own_ge cc (895 : Int32))) + (own_ge cc (8192 : Int32))) + (own_ge cc (8204 : Int32))) + (own_ge cc (8206 : Int32))) + (own_ge cc (8304 : Int32))) + (own_ge cc (8592 : Int32))) + (own_ge cc (11264 : Int32))) + (own_ge cc (12272 : Int32))) + (own_ge cc (12289 : Int32))) + (own_ge cc (55296 : Int32))) + (own_ge cc (63744 : Int32))) + (own_ge cc (64976 : Int32))) + (own_ge cc (65008 : Int32))) + (own_ge cc (65534 : Int32))))])) _
    refine X91.iaload hx (j := (28 : Int32)) (v := (.int (65536 : Int32))) (by rw [e91q]; exact Ar_b5.1) (State.isArrayOf_alike hZ.alike Ar_b5.2.1) Ar_b5.2.2 hin551 hat551 (g := (mkF m 551 #[.val (.int p1), .val (.int p2), .val (.int p3), .val (.int p4), .val (.ref b5), .val (.int (p4 &&& (3 : Int32))), .val (.int cc), .unset, .unset] [(.int (28 : Int32)), (.ref b5), (.int cc), (.int ((((((((((((((((((((((((((((own_ge cc (65 : Int32)) + (own_ge cc (91 : Int32))) + (own_ge cc (95 : Int32))) + (own_ge cc (96 : Int32))) + (own_ge cc (97 : Int32))) + (own_ge cc (123 : Int32))) + (own_ge cc (192 : Int32))) + (own_ge cc (215 : Int32))) + (own_ge cc (216 : Int32))) + (own_ge cc (247 : Int32))) + (own_ge cc (248 : Int32))) + (own_ge cc (768 : Int32))) + (own_ge cc (880 : Int32))) + (own_ge cc (894 : Int32))) + (own_ge cc (895 : Int32))) + (own_ge cc (8192 : Int32))) + (own_ge cc (8204 : Int32))) + (own_ge cc (8206 : Int32))) + (own_ge cc (8304 : Int32))) + (own_ge cc (8592 : Int32))) + (own_ge cc (11264 : Int32))) + (own_ge cc (12272 : Int32))) + (own_ge cc (12289 : Int32))) + (own_ge cc (55296 : Int32))) + (own_ge cc (63744 : Int32))) + (own_ge cc (64976 : Int32))) + (own_ge cc (65008 : Int32))) + (own_ge cc (65534 : Int32))))])) rfl rfl (hb hby at_551) _ ?_
    show Steps p.tables e below (T91.setTop (mkF m 552 #[.val (.int p1), .val (.int p2), .val (.int p3), .val (.int p4), .val (.ref b5), .val (.int (p4 &&& (3 : Int32))), .val (.int cc), .unset, .unset] [(.int (65536 : Int32)), (.int cc), (.int ((((((((((((((((((((((((((((own_ge cc (65 : Int32)) + (own_ge cc (91 : Int32))) + (own_ge cc (95 : Int32))) + (own_ge cc (96 : Int32))) + (own_ge cc (97 : Int32))) + (own_ge cc (123 : Int32))) + (own_ge cc (192 : Int32))) + (own_ge cc (215 : Int32))) + (own_ge cc (216 : Int32))) + (own_ge cc (247 : Int32))) + (own_ge cc (248 : Int32))) + (own_ge cc (768 : Int32))) + (own_ge cc (880 : Int32))) + (own_ge cc (894 : Int32))) + (own_ge cc (895 : Int32))) + (own_ge cc (8192 : Int32))) + (own_ge cc (8204 : Int32))) + (own_ge cc (8206 : Int32))) + (own_ge cc (8304 : Int32))) + (own_ge cc (8592 : Int32))) + (own_ge cc (11264 : Int32))) + (own_ge cc (12272 : Int32))) + (own_ge cc (12289 : Int32))) + (own_ge cc (55296 : Int32))) + (own_ge cc (63744 : Int32))) + (own_ge cc (64976 : Int32))) + (own_ge cc (65008 : Int32))) + (own_ge cc (65534 : Int32))))])) _
    refine st93 _ ?_
    show Steps p.tables e below (T93.setTop (mkF m 555 #[.val (.int p1), .val (.int p2), .val (.int p3), .val (.int p4), .val (.ref b5), .val (.int (p4 &&& (3 : Int32))), .val (.int cc), .unset, .unset] [(.int (own_ge cc (65536 : Int32))), (.int ((((((((((((((((((((((((((((own_ge cc (65 : Int32)) + (own_ge cc (91 : Int32))) + (own_ge cc (95 : Int32))) + (own_ge cc (96 : Int32))) + (own_ge cc (97 : Int32))) + (own_ge cc (123 : Int32))) + (own_ge cc (192 : Int32))) + (own_ge cc (215 : Int32))) + (own_ge cc (216 : Int32))) + (own_ge cc (247 : Int32))) + (own_ge cc (248 : Int32))) + (own_ge cc (768 : Int32))) + (own_ge cc (880 : Int32))) + (own_ge cc (894 : Int32))) + (own_ge cc (895 : Int32))) + (own_ge cc (8192 : Int32))) + (own_ge cc (8204 : Int32))) + (own_ge cc (8206 : Int32))) + (own_ge cc (8304 : Int32))) + (own_ge cc (8592 : Int32))) + (own_ge cc (11264 : Int32))) + (own_ge cc (12272 : Int32))) + (own_ge cc (12289 : Int32))) + (own_ge cc (55296 : Int32))) + (own_ge cc (63744 : Int32))) + (own_ge cc (64976 : Int32))) + (own_ge cc (65008 : Int32))) + (own_ge cc (65534 : Int32))))])) _
    refine XS.iadd X93.here hx rfl (hb hby at_555) rfl ?_
    show Steps p.tables e below (T93.setTop (mkF m 556 #[.val (.int p1), .val (.int p2), .val (.int p3), .val (.int p4), .val (.ref b5), .val (.int (p4 &&& (3 : Int32))), .val (.int cc), .unset, .unset] [(.int (((((((((((((((((((((((((((((own_ge cc (65 : Int32)) + (own_ge cc (91 : Int32))) + (own_ge cc (95 : Int32))) + (own_ge cc (96 : Int32))) + (own_ge cc (97 : Int32))) + (own_ge cc (123 : Int32))) + (own_ge cc (192 : Int32))) + (own_ge cc (215 : Int32))) + (own_ge cc (216 : Int32))) + (own_ge cc (247 : Int32))) + (own_ge cc (248 : Int32))) + (own_ge cc (768 : Int32))) + (own_ge cc (880 : Int32))) + (own_ge cc (894 : Int32))) + (own_ge cc (895 : Int32))) + (own_ge cc (8192 : Int32))) + (own_ge cc (8204 : Int32))) + (own_ge cc (8206 : Int32))) + (own_ge cc (8304 : Int32))) + (own_ge cc (8592 : Int32))) + (own_ge cc (11264 : Int32))) + (own_ge cc (12272 : Int32))) + (own_ge cc (12289 : Int32))) + (own_ge cc (55296 : Int32))) + (own_ge cc (63744 : Int32))) + (own_ge cc (64976 : Int32))) + (own_ge cc (65008 : Int32))) + (own_ge cc (65534 : Int32))) + (own_ge cc (65536 : Int32))))])) _
    refine XS.iload X93.here hx rfl (hb hby at_556) rfl ?_
    show Steps p.tables e below (T93.setTop (mkF m 558 #[.val (.int p1), .val (.int p2), .val (.int p3), .val (.int p4), .val (.ref b5), .val (.int (p4 &&& (3 : Int32))), .val (.int cc), .unset, .unset] [(.int cc), (.int (((((((((((((((((((((((((((((own_ge cc (65 : Int32)) + (own_ge cc (91 : Int32))) + (own_ge cc (95 : Int32))) + (own_ge cc (96 : Int32))) + (own_ge cc (97 : Int32))) + (own_ge cc (123 : Int32))) + (own_ge cc (192 : Int32))) + (own_ge cc (215 : Int32))) + (own_ge cc (216 : Int32))) + (own_ge cc (247 : Int32))) + (own_ge cc (248 : Int32))) + (own_ge cc (768 : Int32))) + (own_ge cc (880 : Int32))) + (own_ge cc (894 : Int32))) + (own_ge cc (895 : Int32))) + (own_ge cc (8192 : Int32))) + (own_ge cc (8204 : Int32))) + (own_ge cc (8206 : Int32))) + (own_ge cc (8304 : Int32))) + (own_ge cc (8592 : Int32))) + (own_ge cc (11264 : Int32))) + (own_ge cc (12272 : Int32))) + (own_ge cc (12289 : Int32))) + (own_ge cc (55296 : Int32))) + (own_ge cc (63744 : Int32))) + (own_ge cc (64976 : Int32))) + (own_ge cc (65008 : Int32))) + (own_ge cc (65534 : Int32))) + (own_ge cc (65536 : Int32))))])) _
    refine XS.aload X93.here hx rfl (hb hby at_558) rfl rfl ?_
    show Steps p.tables e below (T93.setTop (mkF m 560 #[.val (.int p1), .val (.int p2), .val (.int p3), .val (.int p4), .val (.ref b5), .val (.int (p4 &&& (3 : Int32))), .val (.int cc), .unset, .unset] [(.ref b5), (.int cc), (.int (((((((((((((((((((((((((((((own_ge cc (65 : Int32)) + (own_ge cc (91 : Int32))) + (own_ge cc (95 : Int32))) + (own_ge cc (96 : Int32))) + (own_ge cc (97 : Int32))) + (own_ge cc (123 : Int32))) + (own_ge cc (192 : Int32))) + (own_ge cc (215 : Int32))) + (own_ge cc (216 : Int32))) + (own_ge cc (247 : Int32))) + (own_ge cc (248 : Int32))) + (own_ge cc (768 : Int32))) + (own_ge cc (880 : Int32))) + (own_ge cc (894 : Int32))) + (own_ge cc (895 : Int32))) + (own_ge cc (8192 : Int32))) + (own_ge cc (8204 : Int32))) + (own_ge cc (8206 : Int32))) + (own_ge cc (8304 : Int32))) + (own_ge cc (8592 : Int32))) + (own_ge cc (11264 : Int32))) + (own_ge cc (12272 : Int32))) + (own_ge cc (12289 : Int32))) + (own_ge cc (55296 : Int32))) + (own_ge cc (63744 : Int32))) + (own_ge cc (64976 : Int32))) + (own_ge cc (65008 : Int32))) + (own_ge cc (65534 : Int32))) + (own_ge cc (65536 : Int32))))])) _
    refine XS.bipush X93.here hx rfl (hb hby at_560) ?_
    show Steps p.tables e below (T93.setTop (mkF m 562 #[.val (.int p1), .val (.int p2), .val (.int p3), .val (.int p4), .val (.ref b5), .val (.int (p4 &&& (3 : Int32))), .val (.int cc), .unset, .unset] [(.int (29 : Int32)), (.ref b5), (.int cc), (.int (((((((((((((((((((((((((((((own_ge cc (65 : Int32)) + (own_ge cc (91 : Int32))) + (own_ge cc (95 : Int32))) + (own_ge cc (96 : Int32))) + (own_ge cc (97 : Int32))) + (own_ge cc (123 : Int32))) + (own_ge cc (192 : Int32))) + (own_ge cc (215 : Int32))) + (own_ge cc (216 : Int32))) + (own_ge cc (247 : Int32))) + (own_ge cc (248 : Int32))) + (own_ge cc (768 : Int32))) + (own_ge cc (880 : Int32))) + (own_ge cc (894 : Int32))) + (own_ge cc (895 : Int32))) + (own_ge cc (8192 : Int32))) + (own_ge cc (8204 : Int32))) + (own_ge cc (8206 : Int32))) + (own_ge cc (8304 : Int32))) + (own_ge cc (8592 : Int32))) + (own_ge cc (11264 : Int32))) + (own_ge cc (12272 : Int32))) + (own_ge cc (12289 : Int32))) + (own_ge cc (55296 : Int32))) + (own_ge cc (63744 : Int32))) + (own_ge cc (64976 : Int32))) + (own_ge cc (65008 : Int32))) + (own_ge cc (65534 : Int32))) + (own_ge cc (65536 : Int32))))])) _
    refine X93.iaload hx (j := (29 : Int32)) (v := (.int (983040 : Int32))) (by rw [e93q]; exact Ar_b5.1) (State.isArrayOf_alike hZ.alike Ar_b5.2.1) Ar_b5.2.2 hin562 hat562 (g := (mkF m 562 #[.val (.int p1), .val (.int p2), .val (.int p3), .val (.int p4), .val (.ref b5), .val (.int (p4 &&& (3 : Int32))), .val (.int cc), .unset, .unset] [(.int (29 : Int32)), (.ref b5), (.int cc), (.int (((((((((((((((((((((((((((((own_ge cc (65 : Int32)) + (own_ge cc (91 : Int32))) + (own_ge cc (95 : Int32))) + (own_ge cc (96 : Int32))) + (own_ge cc (97 : Int32))) + (own_ge cc (123 : Int32))) + (own_ge cc (192 : Int32))) + (own_ge cc (215 : Int32))) + (own_ge cc (216 : Int32))) + (own_ge cc (247 : Int32))) + (own_ge cc (248 : Int32))) + (own_ge cc (768 : Int32))) + (own_ge cc (880 : Int32))) + (own_ge cc (894 : Int32))) + (own_ge cc (895 : Int32))) + (own_ge cc (8192 : Int32))) + (own_ge cc (8204 : Int32))) + (own_ge cc (8206 : Int32))) + (own_ge cc (8304 : Int32))) + (own_ge cc (8592 : Int32))) + (own_ge cc (11264 : Int32))) + (own_ge cc (12272 : Int32))) + (own_ge cc (12289 : Int32))) + (own_ge cc (55296 : Int32))) + (own_ge cc (63744 : Int32))) + (own_ge cc (64976 : Int32))) + (own_ge cc (65008 : Int32))) + (own_ge cc (65534 : Int32))) + (own_ge cc (65536 : Int32))))])) rfl rfl (hb hby at_562) _ ?_
    show Steps p.tables e below (T93.setTop (mkF m 563 #[.val (.int p1), .val (.int p2), .val (.int p3), .val (.int p4), .val (.ref b5), .val (.int (p4 &&& (3 : Int32))), .val (.int cc), .unset, .unset] [(.int (983040 : Int32)), (.int cc), (.int (((((((((((((((((((((((((((((own_ge cc (65 : Int32)) + (own_ge cc (91 : Int32))) + (own_ge cc (95 : Int32))) + (own_ge cc (96 : Int32))) + (own_ge cc (97 : Int32))) + (own_ge cc (123 : Int32))) + (own_ge cc (192 : Int32))) + (own_ge cc (215 : Int32))) + (own_ge cc (216 : Int32))) + (own_ge cc (247 : Int32))) + (own_ge cc (248 : Int32))) + (own_ge cc (768 : Int32))) + (own_ge cc (880 : Int32))) + (own_ge cc (894 : Int32))) + (own_ge cc (895 : Int32))) + (own_ge cc (8192 : Int32))) + (own_ge cc (8204 : Int32))) + (own_ge cc (8206 : Int32))) + (own_ge cc (8304 : Int32))) + (own_ge cc (8592 : Int32))) + (own_ge cc (11264 : Int32))) + (own_ge cc (12272 : Int32))) + (own_ge cc (12289 : Int32))) + (own_ge cc (55296 : Int32))) + (own_ge cc (63744 : Int32))) + (own_ge cc (64976 : Int32))) + (own_ge cc (65008 : Int32))) + (own_ge cc (65534 : Int32))) + (own_ge cc (65536 : Int32))))])) _
    refine st95 _ ?_
    show Steps p.tables e below (T95.setTop (mkF m 566 #[.val (.int p1), .val (.int p2), .val (.int p3), .val (.int p4), .val (.ref b5), .val (.int (p4 &&& (3 : Int32))), .val (.int cc), .unset, .unset] [(.int (own_ge cc (983040 : Int32))), (.int (((((((((((((((((((((((((((((own_ge cc (65 : Int32)) + (own_ge cc (91 : Int32))) + (own_ge cc (95 : Int32))) + (own_ge cc (96 : Int32))) + (own_ge cc (97 : Int32))) + (own_ge cc (123 : Int32))) + (own_ge cc (192 : Int32))) + (own_ge cc (215 : Int32))) + (own_ge cc (216 : Int32))) + (own_ge cc (247 : Int32))) + (own_ge cc (248 : Int32))) + (own_ge cc (768 : Int32))) + (own_ge cc (880 : Int32))) + (own_ge cc (894 : Int32))) + (own_ge cc (895 : Int32))) + (own_ge cc (8192 : Int32))) + (own_ge cc (8204 : Int32))) + (own_ge cc (8206 : Int32))) + (own_ge cc (8304 : Int32))) + (own_ge cc (8592 : Int32))) + (own_ge cc (11264 : Int32))) + (own_ge cc (12272 : Int32))) + (own_ge cc (12289 : Int32))) + (own_ge cc (55296 : Int32))) + (own_ge cc (63744 : Int32))) + (own_ge cc (64976 : Int32))) + (own_ge cc (65008 : Int32))) + (own_ge cc (65534 : Int32))) + (own_ge cc (65536 : Int32))))])) _
    refine XS.iadd X95.here hx rfl (hb hby at_566) rfl ?_
    show Steps p.tables e below (T95.setTop (mkF m 567 #[.val (.int p1), .val (.int p2), .val (.int p3), .val (.int p4), .val (.ref b5), .val (.int (p4 &&& (3 : Int32))), .val (.int cc), .unset, .unset] [(.int ((((((((((((((((((((((((((((((own_ge cc (65 : Int32)) + (own_ge cc (91 : Int32))) + (own_ge cc (95 : Int32))) + (own_ge cc (96 : Int32))) + (own_ge cc (97 : Int32))) + (own_ge cc (123 : Int32))) + (own_ge cc (192 : Int32))) + (own_ge cc (215 : Int32))) + (own_ge cc (216 : Int32))) + (own_ge cc (247 : Int32))) + (own_ge cc (248 : Int32))) + (own_ge cc (768 : Int32))) + (own_ge cc (880 : Int32))) + (own_ge cc (894 : Int32))) + (own_ge cc (895 : Int32))) + (own_ge cc (8192 : Int32))) + (own_ge cc (8204 : Int32))) + (own_ge cc (8206 : Int32))) + (own_ge cc (8304 : Int32))) + (own_ge cc (8592 : Int32))) + (own_ge cc (11264 : Int32))) + (own_ge cc (12272 : Int32))) + (own_ge cc (12289 : Int32))) + (own_ge cc (55296 : Int32))) + (own_ge cc (63744 : Int32))) + (own_ge cc (64976 : Int32))) + (own_ge cc (65008 : Int32))) + (own_ge cc (65534 : Int32))) + (own_ge cc (65536 : Int32))) + (own_ge cc (983040 : Int32))))])) _
    refine XS.istore X95.here hx rfl (hb hby at_567) rfl (l' := #[.val (.int p1), .val (.int p2), .val (.int p3), .val (.int p4), .val (.ref b5), .val (.int (p4 &&& (3 : Int32))), .val (.int cc), .val (.int ((((((((((((((((((((((((((((((own_ge cc (65 : Int32)) + (own_ge cc (91 : Int32))) + (own_ge cc (95 : Int32))) + (own_ge cc (96 : Int32))) + (own_ge cc (97 : Int32))) + (own_ge cc (123 : Int32))) + (own_ge cc (192 : Int32))) + (own_ge cc (215 : Int32))) + (own_ge cc (216 : Int32))) + (own_ge cc (247 : Int32))) + (own_ge cc (248 : Int32))) + (own_ge cc (768 : Int32))) + (own_ge cc (880 : Int32))) + (own_ge cc (894 : Int32))) + (own_ge cc (895 : Int32))) + (own_ge cc (8192 : Int32))) + (own_ge cc (8204 : Int32))) + (own_ge cc (8206 : Int32))) + (own_ge cc (8304 : Int32))) + (own_ge cc (8592 : Int32))) + (own_ge cc (11264 : Int32))) + (own_ge cc (12272 : Int32))) + (own_ge cc (12289 : Int32))) + (own_ge cc (55296 : Int32))) + (own_ge cc (63744 : Int32))) + (own_ge cc (64976 : Int32))) + (own_ge cc (65008 : Int32))) + (own_ge cc (65534 : Int32))) + (own_ge cc (65536 : Int32))) + (own_ge cc (983040 : Int32)))), .unset]) rfl ?_
    show Steps p.tables e below (T95.setTop (mkF m 569 #[.val (.int p1), .val (.int p2), .val (.int p3), .val (.int p4), .val (.ref b5), .val (.int (p4 &&& (3 : Int32))), .val (.int cc), .val (.int ((((((((((((((((((((((((((((((own_ge cc (65 : Int32)) + (own_ge cc (91 : Int32))) + (own_ge cc (95 : Int32))) + (own_ge cc (96 : Int32))) + (own_ge cc (97 : Int32))) + (own_ge cc (123 : Int32))) + (own_ge cc (192 : Int32))) + (own_ge cc (215 : Int32))) + (own_ge cc (216 : Int32))) + (own_ge cc (247 : Int32))) + (own_ge cc (248 : Int32))) + (own_ge cc (768 : Int32))) + (own_ge cc (880 : Int32))) + (own_ge cc (894 : Int32))) + (own_ge cc (895 : Int32))) + (own_ge cc (8192 : Int32))) + (own_ge cc (8204 : Int32))) + (own_ge cc (8206 : Int32))) + (own_ge cc (8304 : Int32))) + (own_ge cc (8592 : Int32))) + (own_ge cc (11264 : Int32))) + (own_ge cc (12272 : Int32))) + (own_ge cc (12289 : Int32))) + (own_ge cc (55296 : Int32))) + (own_ge cc (63744 : Int32))) + (own_ge cc (64976 : Int32))) + (own_ge cc (65008 : Int32))) + (own_ge cc (65534 : Int32))) + (own_ge cc (65536 : Int32))) + (own_ge cc (983040 : Int32)))), .unset] [])) _
    refine XS.iload X95.here hx rfl (hb hby at_569) rfl ?_
    show Steps p.tables e below (T95.setTop (mkF m 571 #[.val (.int p1), .val (.int p2), .val (.int p3), .val (.int p4), .val (.ref b5), .val (.int (p4 &&& (3 : Int32))), .val (.int cc), .val (.int ((((((((((((((((((((((((((((((own_ge cc (65 : Int32)) + (own_ge cc (91 : Int32))) + (own_ge cc (95 : Int32))) + (own_ge cc (96 : Int32))) + (own_ge cc (97 : Int32))) + (own_ge cc (123 : Int32))) + (own_ge cc (192 : Int32))) + (own_ge cc (215 : Int32))) + (own_ge cc (216 : Int32))) + (own_ge cc (247 : Int32))) + (own_ge cc (248 : Int32))) + (own_ge cc (768 : Int32))) + (own_ge cc (880 : Int32))) + (own_ge cc (894 : Int32))) + (own_ge cc (895 : Int32))) + (own_ge cc (8192 : Int32))) + (own_ge cc (8204 : Int32))) + (own_ge cc (8206 : Int32))) + (own_ge cc (8304 : Int32))) + (own_ge cc (8592 : Int32))) + (own_ge cc (11264 : Int32))) + (own_ge cc (12272 : Int32))) + (own_ge cc (12289 : Int32))) + (own_ge cc (55296 : Int32))) + (own_ge cc (63744 : Int32))) + (own_ge cc (64976 : Int32))) + (own_ge cc (65008 : Int32))) + (own_ge cc (65534 : Int32))) + (own_ge cc (65536 : Int32))) + (own_ge cc (983040 : Int32)))), .unset] [(.int ((((((((((((((((((((((((((((((own_ge cc (65 : Int32)) + (own_ge cc (91 : Int32))) + (own_ge cc (95 : Int32))) + (own_ge cc (96 : Int32))) + (own_ge cc (97 : Int32))) + (own_ge cc (123 : Int32))) + (own_ge cc (192 : Int32))) + (own_ge cc (215 : Int32))) + (own_ge cc (216 : Int32))) + (own_ge cc (247 : Int32))) + (own_ge cc (248 : Int32))) + (own_ge cc (768 : Int32))) + (own_ge cc (880 : Int32))) + (own_ge cc (894 : Int32))) + (own_ge cc (895 : Int32))) + (own_ge cc (8192 : Int32))) + (own_ge cc (8204 : Int32))) + (own_ge cc (8206 : Int32))) + (own_ge cc (8304 : Int32))) + (own_ge cc (8592 : Int32))) + (own_ge cc (11264 : Int32))) + (own_ge cc (12272 : Int32))) + (own_ge cc (12289 : Int32))) + (own_ge cc (55296 : Int32))) + (own_ge cc (63744 : Int32))) + (own_ge cc (64976 : Int32))) + (own_ge cc (65008 : Int32))) + (own_ge cc (65534 : Int32))) + (own_ge cc (65536 : Int32))) + (own_ge cc (983040 : Int32))))])) _
    refine XS.iconst X95.here hx rfl (hb hby at_571) ?_
    show Steps p.tables e below (T95.setTop (mkF m 572 #[.val (.int p1), .val (.int p2), .val (.int p3), .val (.int p4), .val (.ref b5), .val (.int (p4 &&& (3 : Int32))), .val (.int cc), .val (.int ((((((((((((((((((((((((((((((own_ge cc (65 : Int32)) + (own_ge cc (91 : Int32))) + (own_ge cc (95 : Int32))) + (own_ge cc (96 : Int32))) + (own_ge cc (97 : Int32))) + (own_ge cc (123 : Int32))) + (own_ge cc (192 : Int32))) + (own_ge cc (215 : Int32))) + (own_ge cc (216 : Int32))) + (own_ge cc (247 : Int32))) + (own_ge cc (248 : Int32))) + (own_ge cc (768 : Int32))) + (own_ge cc (880 : Int32))) + (own_ge cc (894 : Int32))) + (own_ge cc (895 : Int32))) + (own_ge cc (8192 : Int32))) + (own_ge cc (8204 : Int32))) + (own_ge cc (8206 : Int32))) + (own_ge cc (8304 : Int32))) + (own_ge cc (8592 : Int32))) + (own_ge cc (11264 : Int32))) + (own_ge cc (12272 : Int32))) + (own_ge cc (12289 : Int32))) + (own_ge cc (55296 : Int32))) + (own_ge cc (63744 : Int32))) + (own_ge cc (64976 : Int32))) + (own_ge cc (65008 : Int32))) + (own_ge cc (65534 : Int32))) + (own_ge cc (65536 : Int32))) + (own_ge cc (983040 : Int32)))), .unset] [(.int (1 : Int32)), (.int ((((((((((((((((((((((((((((((own_ge cc (65 : Int32)) + (own_ge cc (91 : Int32))) + (own_ge cc (95 : Int32))) + (own_ge cc (96 : Int32))) + (own_ge cc (97 : Int32))) + (own_ge cc (123 : Int32))) + (own_ge cc (192 : Int32))) + (own_ge cc (215 : Int32))) + (own_ge cc (216 : Int32))) + (own_ge cc (247 : Int32))) + (own_ge cc (248 : Int32))) + (own_ge cc (768 : Int32))) + (own_ge cc (880 : Int32))) + (own_ge cc (894 : Int32))) + (own_ge cc (895 : Int32))) + (own_ge cc (8192 : Int32))) + (own_ge cc (8204 : Int32))) + (own_ge cc (8206 : Int32))) + (own_ge cc (8304 : Int32))) + (own_ge cc (8592 : Int32))) + (own_ge cc (11264 : Int32))) + (own_ge cc (12272 : Int32))) + (own_ge cc (12289 : Int32))) + (own_ge cc (55296 : Int32))) + (own_ge cc (63744 : Int32))) + (own_ge cc (64976 : Int32))) + (own_ge cc (65008 : Int32))) + (own_ge cc (65534 : Int32))) + (own_ge cc (65536 : Int32))) + (own_ge cc (983040 : Int32))))])) _
    refine XS.iand X95.here hx rfl (hb hby at_572) rfl ?_
    show Steps p.tables e below (T95.setTop (mkF m 573 #[.val (.int p1), .val (.int p2), .val (.int p3), .val (.int p4), .val (.ref b5), .val (.int (p4 &&& (3 : Int32))), .val (.int cc), .val (.int ((((((((((((((((((((((((((((((own_ge cc (65 : Int32)) + (own_ge cc (91 : Int32))) + (own_ge cc (95 : Int32))) + (own_ge cc (96 : Int32))) + (own_ge cc (97 : Int32))) + (own_ge cc (123 : Int32))) + (own_ge cc (192 : Int32))) + (own_ge cc (215 : Int32))) + (own_ge cc (216 : Int32))) + (own_ge cc (247 : Int32))) + (own_ge cc (248 : Int32))) + (own_ge cc (768 : Int32))) + (own_ge cc (880 : Int32))) + (own_ge cc (894 : Int32))) + (own_ge cc (895 : Int32))) + (own_ge cc (8192 : Int32))) + (own_ge cc (8204 : Int32))) + (own_ge cc (8206 : Int32))) + (own_ge cc (8304 : Int32))) + (own_ge cc (8592 : Int32))) + (own_ge cc (11264 : Int32))) + (own_ge cc (12272 : Int32))) + (own_ge cc (12289 : Int32))) + (own_ge cc (55296 : Int32))) + (own_ge cc (63744 : Int32))) + (own_ge cc (64976 : Int32))) + (own_ge cc (65008 : Int32))) + (own_ge cc (65534 : Int32))) + (own_ge cc (65536 : Int32))) + (own_ge cc (983040 : Int32)))), .unset] [(.int (((((((((((((((((((((((((((((((own_ge cc (65 : Int32)) + (own_ge cc (91 : Int32))) + (own_ge cc (95 : Int32))) + (own_ge cc (96 : Int32))) + (own_ge cc (97 : Int32))) + (own_ge cc (123 : Int32))) + (own_ge cc (192 : Int32))) + (own_ge cc (215 : Int32))) + (own_ge cc (216 : Int32))) + (own_ge cc (247 : Int32))) + (own_ge cc (248 : Int32))) + (own_ge cc (768 : Int32))) + (own_ge cc (880 : Int32))) + (own_ge cc (894 : Int32))) + (own_ge cc (895 : Int32))) + (own_ge cc (8192 : Int32))) + (own_ge cc (8204 : Int32))) + (own_ge cc (8206 : Int32))) + (own_ge cc (8304 : Int32))) + (own_ge cc (8592 : Int32))) + (own_ge cc (11264 : Int32))) + (own_ge cc (12272 : Int32))) + (own_ge cc (12289 : Int32))) + (own_ge cc (55296 : Int32))) + (own_ge cc (63744 : Int32))) + (own_ge cc (64976 : Int32))) + (own_ge cc (65008 : Int32))) + (own_ge cc (65534 : Int32))) + (own_ge cc (65536 : Int32))) + (own_ge cc (983040 : Int32))) &&& (1 : Int32)))])) _
    refine XS.iconst X95.here hx rfl (hb hby at_573) ?_
    show Steps p.tables e below (T95.setTop (mkF m 574 #[.val (.int p1), .val (.int p2), .val (.int p3), .val (.int p4), .val (.ref b5), .val (.int (p4 &&& (3 : Int32))), .val (.int cc), .val (.int ((((((((((((((((((((((((((((((own_ge cc (65 : Int32)) + (own_ge cc (91 : Int32))) + (own_ge cc (95 : Int32))) + (own_ge cc (96 : Int32))) + (own_ge cc (97 : Int32))) + (own_ge cc (123 : Int32))) + (own_ge cc (192 : Int32))) + (own_ge cc (215 : Int32))) + (own_ge cc (216 : Int32))) + (own_ge cc (247 : Int32))) + (own_ge cc (248 : Int32))) + (own_ge cc (768 : Int32))) + (own_ge cc (880 : Int32))) + (own_ge cc (894 : Int32))) + (own_ge cc (895 : Int32))) + (own_ge cc (8192 : Int32))) + (own_ge cc (8204 : Int32))) + (own_ge cc (8206 : Int32))) + (own_ge cc (8304 : Int32))) + (own_ge cc (8592 : Int32))) + (own_ge cc (11264 : Int32))) + (own_ge cc (12272 : Int32))) + (own_ge cc (12289 : Int32))) + (own_ge cc (55296 : Int32))) + (own_ge cc (63744 : Int32))) + (own_ge cc (64976 : Int32))) + (own_ge cc (65008 : Int32))) + (own_ge cc (65534 : Int32))) + (own_ge cc (65536 : Int32))) + (own_ge cc (983040 : Int32)))), .unset] [(.int (1 : Int32)), (.int (((((((((((((((((((((((((((((((own_ge cc (65 : Int32)) + (own_ge cc (91 : Int32))) + (own_ge cc (95 : Int32))) + (own_ge cc (96 : Int32))) + (own_ge cc (97 : Int32))) + (own_ge cc (123 : Int32))) + (own_ge cc (192 : Int32))) + (own_ge cc (215 : Int32))) + (own_ge cc (216 : Int32))) + (own_ge cc (247 : Int32))) + (own_ge cc (248 : Int32))) + (own_ge cc (768 : Int32))) + (own_ge cc (880 : Int32))) + (own_ge cc (894 : Int32))) + (own_ge cc (895 : Int32))) + (own_ge cc (8192 : Int32))) + (own_ge cc (8204 : Int32))) + (own_ge cc (8206 : Int32))) + (own_ge cc (8304 : Int32))) + (own_ge cc (8592 : Int32))) + (own_ge cc (11264 : Int32))) + (own_ge cc (12272 : Int32))) + (own_ge cc (12289 : Int32))) + (own_ge cc (55296 : Int32))) + (own_ge cc (63744 : Int32))) + (own_ge cc (64976 : Int32))) + (own_ge cc (65008 : Int32))) + (own_ge cc (65534 : Int32))) + (own_ge cc (65536 : Int32))) + (own_ge cc (983040 : Int32))) &&& (1 : Int32)))])) _
    by_cases hn : (((((((((((((((((((((((((((((((own_ge cc (65 : Int32)) + (own_ge cc (91 : Int32))) + (own_ge cc (95 : Int32))) + (own_ge cc (96 : Int32))) + (own_ge cc (97 : Int32))) + (own_ge cc (123 : Int32))) + (own_ge cc (192 : Int32))) + (own_ge cc (215 : Int32))) + (own_ge cc (216 : Int32))) + (own_ge cc (247 : Int32))) + (own_ge cc (248 : Int32))) + (own_ge cc (768 : Int32))) + (own_ge cc (880 : Int32))) + (own_ge cc (894 : Int32))) + (own_ge cc (895 : Int32))) + (own_ge cc (8192 : Int32))) + (own_ge cc (8204 : Int32))) + (own_ge cc (8206 : Int32))) + (own_ge cc (8304 : Int32))) + (own_ge cc (8592 : Int32))) + (own_ge cc (11264 : Int32))) + (own_ge cc (12272 : Int32))) + (own_ge cc (12289 : Int32))) + (own_ge cc (55296 : Int32))) + (own_ge cc (63744 : Int32))) + (own_ge cc (64976 : Int32))) + (own_ge cc (65008 : Int32))) + (own_ge cc (65534 : Int32))) + (own_ge cc (65536 : Int32))) + (own_ge cc (983040 : Int32))) &&& (1 : Int32)) = (1 : Int32)
    · have e1 : ee = 1 := by rw [hee]; exact if_pos hn
      rw [e1] at tail
      refine XS.icmpNo X95.here hx rfl (hb hby at_574) rfl (teq hn).2 ?_
      show Steps p.tables e below (T95.setTop (mkF m 577 #[.val (.int p1), .val (.int p2), .val (.int p3), .val (.int p4), .val (.ref b5), .val (.int (p4 &&& (3 : Int32))), .val (.int cc), .val (.int ((((((((((((((((((((((((((((((own_ge cc (65 : Int32)) + (own_ge cc (91 : Int32))) + (own_ge cc (95 : Int32))) + (own_ge cc (96 : Int32))) + (own_ge cc (97 : Int32))) + (own_ge cc (123 : Int32))) + (own_ge cc (192 : Int32))) + (own_ge cc (215 : Int32))) + (own_ge cc (216 : Int32))) + (own_ge cc (247 : Int32))) + (own_ge cc (248 : Int32))) + (own_ge cc (768 : Int32))) + (own_ge cc (880 : Int32))) + (own_ge cc (894 : Int32))) + (own_ge cc (895 : Int32))) + (own_ge cc (8192 : Int32))) + (own_ge cc (8204 : Int32))) + (own_ge cc (8206 : Int32))) + (own_ge cc (8304 : Int32))) + (own_ge cc (8592 : Int32))) + (own_ge cc (11264 : Int32))) + (own_ge cc (12272 : Int32))) + (own_ge cc (12289 : Int32))) + (own_ge cc (55296 : Int32))) + (own_ge cc (63744 : Int32))) + (own_ge cc (64976 : Int32))) + (own_ge cc (65008 : Int32))) + (own_ge cc (65534 : Int32))) + (own_ge cc (65536 : Int32))) + (own_ge cc (983040 : Int32)))), .unset] [])) _
      refine XS.iconst X95.here hx rfl (hb hby at_577) ?_
      show Steps p.tables e below (T95.setTop (mkF m 578 #[.val (.int p1), .val (.int p2), .val (.int p3), .val (.int p4), .val (.ref b5), .val (.int (p4 &&& (3 : Int32))), .val (.int cc), .val (.int ((((((((((((((((((((((((((((((own_ge cc (65 : Int32)) + (own_ge cc (91 : Int32))) + (own_ge cc (95 : Int32))) + (own_ge cc (96 : Int32))) + (own_ge cc (97 : Int32))) + (own_ge cc (123 : Int32))) + (own_ge cc (192 : Int32))) + (own_ge cc (215 : Int32))) + (own_ge cc (216 : Int32))) + (own_ge cc (247 : Int32))) + (own_ge cc (248 : Int32))) + (own_ge cc (768 : Int32))) + (own_ge cc (880 : Int32))) + (own_ge cc (894 : Int32))) + (own_ge cc (895 : Int32))) + (own_ge cc (8192 : Int32))) + (own_ge cc (8204 : Int32))) + (own_ge cc (8206 : Int32))) + (own_ge cc (8304 : Int32))) + (own_ge cc (8592 : Int32))) + (own_ge cc (11264 : Int32))) + (own_ge cc (12272 : Int32))) + (own_ge cc (12289 : Int32))) + (own_ge cc (55296 : Int32))) + (own_ge cc (63744 : Int32))) + (own_ge cc (64976 : Int32))) + (own_ge cc (65008 : Int32))) + (own_ge cc (65534 : Int32))) + (own_ge cc (65536 : Int32))) + (own_ge cc (983040 : Int32)))), .unset] [(.int (1 : Int32))])) _
      refine XS.goto X95.here hx rfl (pc0 := 578) (pc' := 582) rfl (hb hby at_578) (by decide) (by decide) ?_
      show Steps p.tables e below (T95.setTop (mkF m 582 #[.val (.int p1), .val (.int p2), .val (.int p3), .val (.int p4), .val (.ref b5), .val (.int (p4 &&& (3 : Int32))), .val (.int cc), .val (.int ((((((((((((((((((((((((((((((own_ge cc (65 : Int32)) + (own_ge cc (91 : Int32))) + (own_ge cc (95 : Int32))) + (own_ge cc (96 : Int32))) + (own_ge cc (97 : Int32))) + (own_ge cc (123 : Int32))) + (own_ge cc (192 : Int32))) + (own_ge cc (215 : Int32))) + (own_ge cc (216 : Int32))) + (own_ge cc (247 : Int32))) + (own_ge cc (248 : Int32))) + (own_ge cc (768 : Int32))) + (own_ge cc (880 : Int32))) + (own_ge cc (894 : Int32))) + (own_ge cc (895 : Int32))) + (own_ge cc (8192 : Int32))) + (own_ge cc (8204 : Int32))) + (own_ge cc (8206 : Int32))) + (own_ge cc (8304 : Int32))) + (own_ge cc (8592 : Int32))) + (own_ge cc (11264 : Int32))) + (own_ge cc (12272 : Int32))) + (own_ge cc (12289 : Int32))) + (own_ge cc (55296 : Int32))) + (own_ge cc (63744 : Int32))) + (own_ge cc (64976 : Int32))) + (own_ge cc (65008 : Int32))) + (own_ge cc (65534 : Int32))) + (own_ge cc (65536 : Int32))) + (own_ge cc (983040 : Int32)))), .unset] [(.int (1 : Int32))])) _
      refine XS.istore X95.here hx rfl (hb hby at_582) rfl (l' := #[.val (.int p1), .val (.int p2), .val (.int p3), .val (.int p4), .val (.ref b5), .val (.int (p4 &&& (3 : Int32))), .val (.int cc), .val (.int ((((((((((((((((((((((((((((((own_ge cc (65 : Int32)) + (own_ge cc (91 : Int32))) + (own_ge cc (95 : Int32))) + (own_ge cc (96 : Int32))) + (own_ge cc (97 : Int32))) + (own_ge cc (123 : Int32))) + (own_ge cc (192 : Int32))) + (own_ge cc (215 : Int32))) + (own_ge cc (216 : Int32))) + (own_ge cc (247 : Int32))) + (own_ge cc (248 : Int32))) + (own_ge cc (768 : Int32))) + (own_ge cc (880 : Int32))) + (own_ge cc (894 : Int32))) + (own_ge cc (895 : Int32))) + (own_ge cc (8192 : Int32))) + (own_ge cc (8204 : Int32))) + (own_ge cc (8206 : Int32))) + (own_ge cc (8304 : Int32))) + (own_ge cc (8592 : Int32))) + (own_ge cc (11264 : Int32))) + (own_ge cc (12272 : Int32))) + (own_ge cc (12289 : Int32))) + (own_ge cc (55296 : Int32))) + (own_ge cc (63744 : Int32))) + (own_ge cc (64976 : Int32))) + (own_ge cc (65008 : Int32))) + (own_ge cc (65534 : Int32))) + (own_ge cc (65536 : Int32))) + (own_ge cc (983040 : Int32)))), .val (.int (1 : Int32))]) rfl ?_
      exact tail
    · have e1 : ee = 0 := by rw [hee]; exact if_neg hn
      rw [e1] at tail
      refine XS.icmpYes X95.here hx rfl (pc0 := 574) (pc' := 581) rfl (hb hby at_574) rfl (feq hn).2 (by decide) (by decide) ?_
      show Steps p.tables e below (T95.setTop (mkF m 581 #[.val (.int p1), .val (.int p2), .val (.int p3), .val (.int p4), .val (.ref b5), .val (.int (p4 &&& (3 : Int32))), .val (.int cc), .val (.int ((((((((((((((((((((((((((((((own_ge cc (65 : Int32)) + (own_ge cc (91 : Int32))) + (own_ge cc (95 : Int32))) + (own_ge cc (96 : Int32))) + (own_ge cc (97 : Int32))) + (own_ge cc (123 : Int32))) + (own_ge cc (192 : Int32))) + (own_ge cc (215 : Int32))) + (own_ge cc (216 : Int32))) + (own_ge cc (247 : Int32))) + (own_ge cc (248 : Int32))) + (own_ge cc (768 : Int32))) + (own_ge cc (880 : Int32))) + (own_ge cc (894 : Int32))) + (own_ge cc (895 : Int32))) + (own_ge cc (8192 : Int32))) + (own_ge cc (8204 : Int32))) + (own_ge cc (8206 : Int32))) + (own_ge cc (8304 : Int32))) + (own_ge cc (8592 : Int32))) + (own_ge cc (11264 : Int32))) + (own_ge cc (12272 : Int32))) + (own_ge cc (12289 : Int32))) + (own_ge cc (55296 : Int32))) + (own_ge cc (63744 : Int32))) + (own_ge cc (64976 : Int32))) + (own_ge cc (65008 : Int32))) + (own_ge cc (65534 : Int32))) + (own_ge cc (65536 : Int32))) + (own_ge cc (983040 : Int32)))), .unset] [])) _
      refine XS.iconst X95.here hx rfl (hb hby at_581) ?_
      show Steps p.tables e below (T95.setTop (mkF m 582 #[.val (.int p1), .val (.int p2), .val (.int p3), .val (.int p4), .val (.ref b5), .val (.int (p4 &&& (3 : Int32))), .val (.int cc), .val (.int ((((((((((((((((((((((((((((((own_ge cc (65 : Int32)) + (own_ge cc (91 : Int32))) + (own_ge cc (95 : Int32))) + (own_ge cc (96 : Int32))) + (own_ge cc (97 : Int32))) + (own_ge cc (123 : Int32))) + (own_ge cc (192 : Int32))) + (own_ge cc (215 : Int32))) + (own_ge cc (216 : Int32))) + (own_ge cc (247 : Int32))) + (own_ge cc (248 : Int32))) + (own_ge cc (768 : Int32))) + (own_ge cc (880 : Int32))) + (own_ge cc (894 : Int32))) + (own_ge cc (895 : Int32))) + (own_ge cc (8192 : Int32))) + (own_ge cc (8204 : Int32))) + (own_ge cc (8206 : Int32))) + (own_ge cc (8304 : Int32))) + (own_ge cc (8592 : Int32))) + (own_ge cc (11264 : Int32))) + (own_ge cc (12272 : Int32))) + (own_ge cc (12289 : Int32))) + (own_ge cc (55296 : Int32))) + (own_ge cc (63744 : Int32))) + (own_ge cc (64976 : Int32))) + (own_ge cc (65008 : Int32))) + (own_ge cc (65534 : Int32))) + (own_ge cc (65536 : Int32))) + (own_ge cc (983040 : Int32)))), .unset] [(.int (0 : Int32))])) _
      refine XS.istore X95.here hx rfl (hb hby at_582) rfl (l' := #[.val (.int p1), .val (.int p2), .val (.int p3), .val (.int p4), .val (.ref b5), .val (.int (p4 &&& (3 : Int32))), .val (.int cc), .val (.int ((((((((((((((((((((((((((((((own_ge cc (65 : Int32)) + (own_ge cc (91 : Int32))) + (own_ge cc (95 : Int32))) + (own_ge cc (96 : Int32))) + (own_ge cc (97 : Int32))) + (own_ge cc (123 : Int32))) + (own_ge cc (192 : Int32))) + (own_ge cc (215 : Int32))) + (own_ge cc (216 : Int32))) + (own_ge cc (247 : Int32))) + (own_ge cc (248 : Int32))) + (own_ge cc (768 : Int32))) + (own_ge cc (880 : Int32))) + (own_ge cc (894 : Int32))) + (own_ge cc (895 : Int32))) + (own_ge cc (8192 : Int32))) + (own_ge cc (8204 : Int32))) + (own_ge cc (8206 : Int32))) + (own_ge cc (8304 : Int32))) + (own_ge cc (8592 : Int32))) + (own_ge cc (11264 : Int32))) + (own_ge cc (12272 : Int32))) + (own_ge cc (12289 : Int32))) + (own_ge cc (55296 : Int32))) + (own_ge cc (63744 : Int32))) + (own_ge cc (64976 : Int32))) + (own_ge cc (65008 : Int32))) + (own_ge cc (65534 : Int32))) + (own_ge cc (65536 : Int32))) + (own_ge cc (983040 : Int32)))), .val (.int (0 : Int32))]) rfl ?_
      exact tail
  · show Q0 Z p1 p2 p3 p4 h0 n0 _ T96.heap _
    exact ⟨rfl, N96⟩
set_option maxRecDepth 65536 in
set_option maxHeartbeats 40000000 in
theorem comes_1 {Post : Tables → Env → Array Value → State → Outcome → State → Prop} (hpost : ∀ tb e args s v u, (limb_1_1.after args s (.returned v) u = true ∧ limb_1_2.after args s (.returned v) u = true ∧ True) → FrameEnd s (.returned v) u (Jvm.fieldLocs frame_1_writes args s ++ Jvm.arrayLocs frame_1_arrays args s ++ Jvm.staticLocs frame_1_statics s) 16 128 → Post tb e args s (.returned v) u) :
    ArmFor flags0 classFile x code maxLocals ret World_1 tables_1 room_1 Calls_1 rest_1 Pre_1 Post := by
  intro l hfl _ _ p e ha hc hk s m args below hf hA hF happ hP
  obtain ⟨hcalls, hrest, hpre⟩ := hP
  obtain ⟨-, -, -, hnamed, -, -, -, hat⟩ := (Spec.applies_iff hf).mp happ
  obtain ⟨hg, hn⟩ := and_e (Cond.before_iff.mp (show (Jvm.Cond.and given_1 narrow_1).before args s = true from hpre))
  obtain ⟨g97, g98⟩ := and_e hg
  obtain ⟨g99, g100⟩ := and_e g98
  obtain ⟨g101, g102⟩ := and_e g100
  obtain ⟨g103, g104⟩ := and_e g102
  obtain ⟨w0, w1, w2, w3, rfl⟩ : ∃ w0 w1 w2 w3 : Value, args = #[w0, w1, w2, w3] := by
    have hs : args.size = 4 := by simpa [Cond.value, given_1] using g97
    obtain ⟨L⟩ := args
    match L, hs with
    | [w0, w1, w2, w3], _ => exact ⟨w0, w1, w2, w3, rfl⟩
  have hw := fun d (hd : d ∈ tables_1) => atoms_spec (ws := Jvm.Cond.code x code maxLocals ret :: tables_1) hat d (List.mem_cons_of_mem _ hd)
  have hfit : Fit s := fun {y c} hc i hi => by
    obtain ⟨ha, rfl⟩ := Array.getElem?_eq_some_iff.mp hc
    have q := List.all_eq_true.mp ((Array.all_eq_true_iff_forall_mem.mp hF) _ (Array.getElem_mem ha)) i (List.mem_range.mpr hi)
    simpa [Array.getElem?_eq_getElem hi] using q
  obtain ⟨i0, ei0⟩ := is_v g99
  obtain rfl : w0 = (.int i0) := Option.some.inj ei0
  obtain ⟨i1, ei1⟩ := is_v g101
  obtain rfl : w1 = (.int i1) := Option.some.inj ei1
  obtain ⟨i2, ei2⟩ := is_v g103
  obtain rfl : w2 = (.int i2) := Option.some.inj ei2
  obtain ⟨i3, ei3⟩ := is_v g104
  obtain rfl : w3 = (.int i3) := Option.some.inj ei3
  obtain ⟨n, o, h1, h2, h3, _, L, rfl, ⟨rfl, N⟩, hq⟩ := rm0 l s _ hw tables_1 i0 i1 i2 i3 s.heap s.heap.size (Nat.le_refl _) p e ha hc hk s m _ below hf ((Spec.applies_iff_loose hf).mp happ).1 ⟨rfl, State.Warmed39.refl s, rfl⟩ trivial
  refine ⟨n, _, h1, h2, h3, hpost _ _ _ _ _ _ ⟨Cond.after_iff.mpr rfl, Cond.after_iff.mpr (eq_i res_at (Term.int_eval (1)) rfl), trivial⟩ ⟨hq.1, hq.2.1, (hq.2.2.sift fun y hy => Or.inr (N y hy)).mono (by decide) (by decide)⟩⟩
theorem main_1_1 : Claimed_1_1 := comes_1 fun _ _ _ _ _ _ h hF => ⟨h.1, hF⟩
theorem main_1_2 : Claimed_1_2 := comes_1 fun _ _ _ _ _ _ h hF => ⟨h.2.1, hF⟩
end Jvm.Pilot.@@N@@
namespace Jvm.Pilot.@@N@@
open Jvm Jvm.ClassFile Sem Op Lib Jvm.Free Jvm.Stand Jvm.Pilot.@@N@@.Jvm.D
/-! MADE BY PROGRAM (witnessworld.py) out of the Statement's table words and the real class files: 9 classes; the members and pool entries that the words name. The judged class is class 1, her method 1. -/
namespace start1
open Jvm.ClassFile
def u (s : String) : CpInfo := .utf8 (stringToUtf16 s)
/-- a pool by its gaps: so many unusable entries, then the entry; so many at the end -/
def gap : Nat → List CpInfo → List CpInfo
  | 0, r => r
  | n + 1, r => .unusable :: gap n r
def poolList (es : List (Nat × CpInfo)) (last : Nat) : List CpInfo := es.foldr (fun e r => gap e.1 (e.2 :: r)) (gap last [])
def pool (es : List (Nat × CpInfo)) (last : Nat) : Array CpInfo := ⟨poolList es last⟩
def fileOf (pool : Array CpInfo) (this : Nat) (attrs : Array Attribute := #[]) (ms : Array MethodInfo := #[]) (fl : Nat := 33) (sup : Nat := 0) (ifs : Array Nat := #[]) (fds : Array FieldInfo := #[]) : ClassFile where
  minorVersion := 0
  majorVersion := 65
  constantPool := pool
  accessFlags := fl
  thisClass := this
  superClass := sup
  interfaces := ifs
  fields := fds
  methods := ms
  attributes := attrs
def plain (name : String) (sup : Option ClassId) : Class where
  name := name
  kind := .ordinary
  loader := none
  accessFlags := 33
  super := sup
  interfaces := #[]
  cf := none
  fields := #[]
  methods := #[]
  instanceTypes := #[]
  staticTypes := #[]
  resolved := #[]
  callSites := []
  init := .initialized
  statics := none
  mirror := none

def pool0 : Array CpInfo := pool [(5, u "<init>"), (0, u "()V"), (1, .class_ 10), (1, u "java/lang/Object")] 113

def k0m0 : Method := { name := "<init>", desc := "()V", sig := { parameters := [], returnType := none }, accessFlags := 1, code := none }
/-- java/lang/Object -/
def k0 : Class := { plain "java/lang/Object" none with
  accessFlags := 33
  interfaces := #[]
  cf := some (fileOf pool0 8 #[] #[{ accessFlags := 1, nameIndex := 5, descriptorIndex := 6, attributes := #[] }] 33 0 #[] #[])
  fields := #[]
  methods := #[k0m0]
  instanceTypes := #[]
  staticTypes := #[]
  resolved := Array.replicate 124 none
  statics := none }

def pool1 : Array CpInfo := pool [(2, .class_ 4), (1, u "java/lang/Object"), (0, u "<init>"), (0, u "()V"), (0, .integer 55296), (0, .integer 63744), (0, .integer 64976), (0, .integer 65008), (0, .integer 65534), (0, .integer 65536), (0, .integer 983040), (0, .integer 1048575), (0, .integer 2147483647), (0, .methodref 17 18), (0, .class_ 19), (0, .nameAndType 20 21), (0, u "com/example/coarsen/coarsen/xml/XmlNamesIsNameStartCharPinLaw"), (0, u "ge"), (0, u "(II)I"), (0, .methodref 23 24), (0, .class_ 25), (0, .nameAndType 26 27), (0, u "com/example/coarsen/coarsen/xml/XmlNames"), (0, u "isNameStartChar"), (0, u "(I)Z"), (2, u "law"), (0, u "(IIII)Z")] 5

def k1m0 : Method := { name := "<init>", desc := "()V", sig := { parameters := [], returnType := none }, accessFlags := 2, code := none }
def k1c1 : Code := { maxStack := 4, maxLocals := 9, code := code, exceptionTable := #[], attributes := #[] }
def k1m1 : Method := { name := "law", desc := "(IIII)Z", sig := { parameters := [.int, .int, .int, .int], returnType := some .boolean }, accessFlags := 9, code := some k1c1 }
def k1c2 : Code := { maxStack := 2, maxLocals := 2, code := method_3_code, exceptionTable := #[], attributes := #[] }
def k1m2 : Method := { name := "ge", desc := "(II)I", sig := { parameters := [.int, .int], returnType := some .int }, accessFlags := 10, code := some k1c2 }
/-- com/example/coarsen/coarsen/xml/XmlNamesIsNameStartCharPinLaw -/
def k1 : Class := { plain "com/example/coarsen/coarsen/xml/XmlNamesIsNameStartCharPinLaw" (some 0) with
  accessFlags := 49
  interfaces := #[]
  cf := some (fileOf pool1 17 #[] #[{ accessFlags := 2, nameIndex := 5, descriptorIndex := 6, attributes := #[] }, { accessFlags := 9, nameIndex := 30, descriptorIndex := 31, attributes := #[] }, { accessFlags := 10, nameIndex := 20, descriptorIndex := 21, attributes := #[] }] 49 2 #[] #[])
  fields := #[]
  methods := #[k1m0, k1m1, k1m2]
  instanceTypes := #[]
  staticTypes := #[]
  resolved := Array.replicate 37 none
  statics := none }

def pool2 : Array CpInfo := pool [(2, .class_ 4), (1, u "java/lang/Object"), (0, u "<init>"), (0, u "()V"), (15, .class_ 24), (1, u "com/example/coarsen/coarsen/xml/XmlNames"), (0, u "isNameStartChar"), (0, u "(I)Z"), (8, .integer 55295), (0, .integer 63744), (0, .integer 64975), (0, .integer 65008), (0, .integer 65533), (0, .integer 65536), (0, .integer 983039)] 7

def k2m0 : Method := { name := "<init>", desc := "()V", sig := { parameters := [], returnType := none }, accessFlags := 2, code := none }
def k2c1 : Code := { maxStack := 2, maxLocals := 1, code := prog_211_method_3_code, exceptionTable := #[], attributes := #[] }
def k2m1 : Method := { name := "isNameStartChar", desc := "(I)Z", sig := { parameters := [.int], returnType := some .boolean }, accessFlags := 9, code := some k2c1 }
/-- com/example/coarsen/coarsen/xml/XmlNames -/
def k2 : Class := { plain "com/example/coarsen/coarsen/xml/XmlNames" (some 0) with
  accessFlags := 49
  interfaces := #[]
  cf := some (fileOf pool2 22 #[] #[{ accessFlags := 2, nameIndex := 5, descriptorIndex := 6, attributes := #[] }, { accessFlags := 9, nameIndex := 25, descriptorIndex := 26, attributes := #[] }] 49 2 #[] #[])
  fields := #[]
  methods := #[k2m0, k2m1]
  instanceTypes := #[]
  staticTypes := #[]
  resolved := Array.replicate 49 none
  statics := none }

def pool3 : Array CpInfo := pool [(1, u "java/lang/Cloneable"), (0, .class_ 1), (0, u "java/lang/Object"), (0, .class_ 3)] 3

/-- java/lang/Cloneable -/
def k3 : Class := { plain "java/lang/Cloneable" (some 0) with
  accessFlags := 1537
  interfaces := #[]
  cf := some (fileOf pool3 2 #[] #[] 1537 4 #[] #[])
  fields := #[]
  methods := #[]
  instanceTypes := #[]
  staticTypes := #[]
  resolved := Array.replicate 8 none
  statics := none }

def pool4 : Array CpInfo := pool [(1, u "java/io/Serializable"), (0, .class_ 1), (0, u "java/lang/Object"), (0, .class_ 3)] 3

/-- java/io/Serializable -/
def k4 : Class := { plain "java/io/Serializable" (some 0) with
  accessFlags := 1537
  interfaces := #[]
  cf := some (fileOf pool4 2 #[] #[] 1537 4 #[] #[])
  fields := #[]
  methods := #[]
  instanceTypes := #[]
  staticTypes := #[]
  resolved := Array.replicate 8 none
  statics := none }

/-- the primitive byte -/
def k5 : Class := { plain "byte" none with kind := .primitive 'B', accessFlags := 0x411 }
/-- [B -/
def k6 : Class := { plain "[B" (some 0) with kind := .array 5 .byte, interfaces := #[3, 4], accessFlags := 1041 }

/-- the primitive int -/
def k7 : Class := { plain "int" none with kind := .primitive 'I', accessFlags := 0x411 }
/-- [I -/
def k8 : Class := { plain "[I" (some 0) with kind := .array 7 .int, interfaces := #[3, 4], accessFlags := 1041 }

def heap : Heap := #[]
def classes : Array Class := #[k0, k1, k2, k3, k4, k5, k6, k7, k8]
def interned : List (Array UInt16 × Addr) := []
def slotsUsed : Nat := 0
def theMethod : MethodId := ⟨1, 1⟩
def args0 : Array Value := #[.int 5, .int 6, .int 1, .int 2]
def aboutOver (below : List Frame) : State where
  vm := { classes := classes, interned := interned.toArray }
  heap := heap
  slotsUsed := slotsUsed
  threads := #[{ frames := .invoking theMethod args0 :: below }]
def below0 : List Frame := [.native { method := ⟨0, 0⟩, args := #[] }]
def about1 : State := aboutOver below0
def p0 : Program := .bare "" "" ""
def e0 : Env := launch0.env 0 0 0
theorem w_frames : about1.frames = Frame.invoking theMethod args0 :: below0 := rfl
set_option maxRecDepth 65536 in
theorem w_args : argsFit about1.vm theMethod args0 = true := by decide +kernel
set_option maxRecDepth 65536 in
theorem w_heap : heapFits about1 = true := by decide +kernel
set_option maxRecDepth 65536 in
theorem w_runnable : about1.curStatus? = some .runnable := by decide +kernel
set_option maxRecDepth 65536 in
theorem w_alone : about1.alone = true := by decide +kernel
set_option maxRecDepth 65536 in
theorem w_named : about1.methodNamed? x = some theMethod := by decide +kernel
set_option maxRecDepth 65536 in
theorem w_hears : about1.hears theMethod below0 = true := by decide +kernel
set_option maxRecDepth 65536 in
theorem w_ripe : about1.ripe theMethod args0 below0 = true := by decide +kernel
theorem w_running : about1.status = .running := rfl
set_option maxRecDepth 65536 in
theorem w_room : about1.hasRoom e0.platform room_1 = true :=
  launch0.hasRoom_least _ room_1 (by decide +kernel) (by decide +kernel) (by decide +kernel) (by decide +kernel) (by decide +kernel) (by decide +kernel)
theorem allAtoms_all (ts : List Jvm.Cond) (a : Array Jvm.Value) (st : Jvm.State) : (allAtoms ts).before a st = ts.all (fun c => c.before a st) := by
  induction ts with
  | nil => rfl
  | cons c t ih =>
    show (Jvm.Cond.and c (allAtoms t)).before a st = _
    rw [Jvm.Cond.before_and, ih, List.all_cons]
def words1 : List Jvm.Cond := Jvm.Cond.code x code maxLocals ret :: tables_1
/-- a 'code' word, met by the world's own term for the bytes: nothing is compared byte by byte -/
theorem code_word {y : MethodName} {bytes : ByteArray} {mx : Nat} {rt : Option FieldType} {a : Array Value} {s : State} {m : MethodId} {meth : Method} {c : Code} (h1 : s.methodNamed? y = some m) (h2 : s.vm.method? m = some meth) (h3 : meth.code = some c) (h4 : c.code = bytes)
    (h5 : (c.maxLocals == mx && c.exceptionTable.isEmpty && decide (c.maxStack ≤ mostOperands) && decide (meth.sig.returnType = rt) && !meth.locks && decide (parseMethodDescriptor y.desc = some meth.sig)) = true) : (Jvm.Cond.code y bytes mx rt).before a s = true := by
  simp only [Bool.and_eq_true, beq_iff_eq, Bool.not_eq_true', decide_eq_true_eq] at h5
  obtain ⟨⟨⟨⟨⟨g1, g2⟩, g3⟩, g4⟩, g5⟩, g6⟩ := h5
  simp [Cond.before, Cond.holds, Cond.value, h1, h2, h3, h4, g1, g2, g3, g4, g5, g6]
def isCode : Jvm.Cond → Bool
  | .code _ _ _ _ => true
  | _ => false
theorem all_split {L : List Jvm.Cond} {P : Jvm.Cond → Bool} (h1 : L.all (fun c => isCode c || P c) = true) (h2 : ∀ c ∈ L.filter isCode, P c = true) : L.all P = true := by
  refine List.all_eq_true.mpr fun c hc => ?_
  have h := List.all_eq_true.mp h1 c hc
  rcases Bool.eq_false_or_eq_true (isCode c) with hi | hi
  · exact h2 c (List.mem_filter.mpr ⟨hc, hi⟩)
  · simpa [hi] using h
set_option maxRecDepth 65536 in
theorem w_c0 : (Jvm.Cond.code x code maxLocals ret).before args0 about1 = true := code_word (m := ⟨1, 1⟩) (meth := k1m1) (c := k1c1) (by decide +kernel) rfl rfl rfl (by decide +kernel)
set_option maxRecDepth 65536 in
theorem w_c1 : (Jvm.Cond.code ({ cls := "com/example/coarsen/coarsen/xml/XmlNamesIsNameStartCharPinLaw", name := "ge", desc := "(II)I" } : Jvm.MethodName) method_3_code (2 : Nat) (Option.some Jvm.ClassFile.FieldType.int)).before args0 about1 = true := code_word (m := ⟨1, 2⟩) (meth := k1m2) (c := k1c2) (by decide +kernel) rfl rfl rfl (by decide +kernel)
set_option maxRecDepth 65536 in
theorem w_c2 : (Jvm.Cond.code ({ cls := "com/example/coarsen/coarsen/xml/XmlNames", name := "isNameStartChar", desc := "(I)Z" } : Jvm.MethodName) prog_211_method_3_code (1 : Nat) (Option.some Jvm.ClassFile.FieldType.boolean)).before args0 about1 = true := code_word (m := ⟨2, 1⟩) (meth := k2m1) (c := k2c1) (by decide +kernel) rfl rfl rfl (by decide +kernel)
def codes1 : List Jvm.Cond := [Jvm.Cond.code x code maxLocals ret, Jvm.Cond.code ({ cls := "com/example/coarsen/coarsen/xml/XmlNamesIsNameStartCharPinLaw", name := "ge", desc := "(II)I" } : Jvm.MethodName) method_3_code (2 : Nat) (Option.some Jvm.ClassFile.FieldType.int), Jvm.Cond.code ({ cls := "com/example/coarsen/coarsen/xml/XmlNames", name := "isNameStartChar", desc := "(I)Z" } : Jvm.MethodName) prog_211_method_3_code (1 : Nat) (Option.some Jvm.ClassFile.FieldType.boolean)]
set_option maxRecDepth 65536 in
theorem codes_eq : words1.filter isCode = codes1 := rfl
theorem w_codes : ∀ c ∈ words1.filter isCode, c.before args0 about1 = true := by
  rw [codes_eq]
  intro c hc
  simp only [codes1, List.mem_cons, List.not_mem_nil, or_false] at hc
  rcases hc with rfl | rfl | rfl
  · exact w_c0
  · exact w_c1
  · exact w_c2
set_option maxRecDepth 65536 in
theorem w_t1 : (words1.take 24).all (fun c => isCode c || c.before args0 about1) = true := by decide +kernel
set_option maxRecDepth 65536 in
theorem w_t2 : (words1.drop 24).all (fun c => isCode c || c.before args0 about1) = true := by decide +kernel
theorem w_tables : (allAtoms (Jvm.Cond.code x code maxLocals ret :: tables_1)).before args0 about1 = true := by
  rw [allAtoms_all]
  show words1.all (fun c => c.before args0 about1) = true
  refine all_split ?_ w_codes
  rw [← List.take_append_drop 24 words1, List.all_append, w_t1, w_t2]
  rfl
set_option maxRecDepth 65536 in
theorem w_case : (Jvm.Cond.and given_1 narrow_1).before args0 about1 = true := by decide +kernel
theorem w_applies : (headSpec (Jvm.Cond.code x code maxLocals ret :: tables_1) room_1).applies x e0.platform about1 = true :=
  (Spec.applies_iff w_frames).mpr ⟨w_running, w_runnable, w_alone, w_named, w_hears, w_ripe, w_room, w_tables⟩
theorem atStart : AtStart classFile x code maxLocals ret World_1 tables_1 room_1 Calls_1 rest_1 Pre_1 launch0 p0 e0 about1 theMethod args0 below0 :=
  ⟨lists_1, trivial, launch0.admits_env _ _ _, launch0.least_env, fairChoices_fair.cas, fairChoices_fair.clock, w_frames, w_args, w_heap, w_applies, trivial, trivial, w_case⟩
end start1
theorem witness_1 : WitnessClaimed_1 := ⟨start1.p0, start1.e0, start1.about1, start1.theMethod, start1.args0, start1.below0, start1.atStart⟩
end Jvm.Pilot.@@N@@
