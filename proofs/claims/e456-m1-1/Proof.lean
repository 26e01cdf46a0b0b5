import JvmDerived
import JvmDerived.Pilot.@@N@@Statement
import JvmDerived.Pilot.@@N@@Code
set_option linter.unusedVariables false
set_option linter.unusedSimpArgs false
namespace Jvm.RoadKit
open Sem ClassFile Op Lib Jvm.Stand Jvm.Free Jvm.LawKit
section New
variable {p : Program} {l : Launch} {e : Env} {R : Room} {s : State} {m : MethodId} {args : Array Value} {below : List Frame} {meth : Method} {c : Code} {T : State} {locs : List Loc} {cells slots : Nat}
theorem retI (X : Stand p l e R s m args below meth c T locs cells slots) (hx : p.tables.exec = Jvm.exec) {pc : Nat} {Ls : Array Slot} {z : Int32} {rest : List Value} (hret : meth.sig.returnType = some .int) (hd : decode c.code pc = .ok (.ireturn, 1)) {fs : List Frame}
    (hl : ∀ (f : JFrame) (acts : List Action), f.method = m → f.locked = none → f.entered = [] → (doReturn e (T.setTop f) acts (some (.int z))).1 = T.setFrames fs) : Steps p.tables e below (T.setTop (mkF m pc Ls (.int z :: rest))) (T.setFrames fs) := by
  have hm' : T.vm.method? m = some meth := X.method'
  have hn : narrow .int (.int z) = .int z := rfl
  show Steps p.tables e below (T.setTop { method := m, pc := pc, locals := Ls, stack := _ :: rest, locked := none }) _
  jvm_step X.here [X.here.top, hx, hd, hm', hret, hn]
  first | (intro acts; rw [hl _ acts rfl rfl rfl]) | rw [hl _ _ rfl rfl rfl]
  exact Steps.refl _
theorem retL (X : Stand p l e R s m args below meth c T locs cells slots) (hx : p.tables.exec = Jvm.exec) {pc : Nat} {Ls : Array Slot} {z : Int64} {rest : List Value} (hret : meth.sig.returnType = some .long) (hd : decode c.code pc = .ok (.lreturn, 1)) {fs : List Frame}
    (hl : ∀ (f : JFrame) (acts : List Action), f.method = m → f.locked = none → f.entered = [] → (doReturn e (T.setTop f) acts (some (.long z))).1 = T.setFrames fs) : Steps p.tables e below (T.setTop (mkF m pc Ls (.long z :: rest))) (T.setFrames fs) := by
  have hm' : T.vm.method? m = some meth := X.method'
  have hn : narrow .long (.long z) = .long z := rfl
  show Steps p.tables e below (T.setTop { method := m, pc := pc, locals := Ls, stack := _ :: rest, locked := none }) _
  jvm_step X.here [X.here.top, hx, hd, hm', hret, hn]
  first | (intro acts; rw [hl _ acts rfl rfl rfl]) | rw [hl _ _ rfl rfl rfl]
  exact Steps.refl _
end New
end Jvm.RoadKit
namespace Jvm.Pilot.@@N@@
open Jvm Jvm.ClassFile Sem Op Lib Jvm.Free Jvm.Stand Jvm.LawKit Jvm.RoadKit Bundle Jvm.Pilot.@@N@@.Jvm.D
/-- Java's x >>> y on ints and on longs, as the steps leave them -/
def own_ushr (x y : Int32) : Int32 := (x.toUInt32 >>> (y &&& 31).toUInt32).toInt32
def own_ushrL (x : Int64) (y : Int32) : Int64 := (x.toUInt64 >>> (y &&& 0x3f).toInt64.toUInt64).toInt64
theorem own_m2 : ∀ i : Nat, (h : i < 64) → (18446744073709551614#64)[i] = decide (i ≠ 0) := by decide
theorem own_sar (b : BitVec 64) : (b &&& 18446744073709551614#64).sdiv 2#64 = b.sshiftRight 1 := by
  have h1 : (b &&& 18446744073709551614#64) = (b.sshiftRight 1) <<< 1 := by
    ext i hi
    rw [BitVec.getElem_and, own_m2 i hi, BitVec.getElem_shiftLeft]
    rcases Nat.eq_zero_or_pos i with h | h
    · subst h; simp
    · have h' : ¬ i < 1 := by omega
      have h'' : i ≠ 0 := by omega
      have h3 : 1 + (i - 1) = i := by omega
      simp [h', h'', BitVec.getElem_sshiftRight, h3, hi]
  have h2 : (b.sshiftRight 1).toInt = b.toInt / 2 := by
    rw [BitVec.toInt_sshiftRight]
    simp [Int.shiftRight_eq_div_pow]
  have hb1 : b.toInt < 9223372036854775808 := BitVec.toInt_lt (x := b)
  have hb2 : -9223372036854775808 ≤ b.toInt := BitVec.le_toInt (x := b)
  have p64 : (2:Int)^64 = 18446744073709551616 := by decide
  have p64' : ((2^64 : Nat) : Int) = 18446744073709551616 := by decide
  have h3 : ((b.sshiftRight 1) <<< 1).toInt = 2 * (b.toInt / 2) := by
    rw [BitVec.toInt_shiftLeft]
    have e : (((b.sshiftRight 1).toNat : Int)) = (b.toInt / 2) % 18446744073709551616 := by
      rw [← h2, BitVec.toInt_eq_toNat_bmod]
      have := (b.sshiftRight 1).isLt
      simp only [Int.bmod_def, p64']
      split <;> omega
    have e2 : (((b.sshiftRight 1).toNat <<< 1 : Nat) : Int) = 2 * ((b.toInt / 2) % 18446744073709551616) := by
      rw [Nat.shiftLeft_eq]; push_cast; rw [e]; omega
    rw [e2]
    simp only [Int.bmod_def, p64']
    split <;> omega
  apply BitVec.eq_of_toInt_eq
  rw [h2, h1, BitVec.toInt_sdiv, h3]
  have : (2#64).toInt = 2 := by decide
  rw [this, Int.mul_tdiv_cancel_left _ (by decide)]
  simp only [Int.bmod_def, p64']
  split <;> omega
theorem own_max : ∀ i : Nat, (h : i < 64) → (9223372036854775807#64)[i] = decide (i ≠ 63) := by decide
theorem own_shr1 (b : BitVec 64) : (b.sshiftRight 1) &&& 9223372036854775807#64 = b >>> 1 := by
  ext i hi
  rw [BitVec.getElem_and, own_max i hi, BitVec.getElem_sshiftRight, BitVec.getElem_ushiftRight]
  by_cases h : i = 63
  · subst h; simp
  · have : 1 + i < 64 := by omega
    simp [h, this]

theorem own_half (x : Int64) : ((x &&& (-2 : Int64)) / (2 : Int64)) &&& (9223372036854775807 : Int64) = (x.toUInt64 >>> 1).toInt64 := by
  apply Int64.toBitVec_inj.mp
  rw [Int64.toBitVec_and, Int64.toBitVec_div, Int64.toBitVec_and]
  show ((x.toBitVec &&& 18446744073709551614#64).sdiv 2#64) &&& 9223372036854775807#64 = _
  rw [own_sar, own_shr1]
  rfl
theorem own_cnt : ∀ k : Nat, k < 64 → ((Int64.ofNat k).toInt32 &&& 0x3f).toInt64 = Int64.ofNat k := by decide
theorem own_cnt2 : ∀ k : Nat, k < 64 → ((Int64.ofNat k).toBitVec.smod 64) = BitVec.ofNat 64 k := by decide
theorem own_cnt3 : ∀ k : Nat, k < 64 → ((-(-(Int64.ofNat k))).toInt32 &&& 0x3f).toInt64.toUInt64 = UInt64.ofNat k := by decide
theorem own_shlB (b : BitVec 64) (k : Nat) : (b <<< k) * 2#64 = b <<< (k + 1) := by
  rw [BitVec.shiftLeft_add]
  apply BitVec.eq_of_toNat_eq
  simp [BitVec.toNat_shiftLeft, BitVec.toNat_mul, Nat.shiftLeft_eq]
theorem own_shl (a : Int64) (k : Nat) (h : k < 64) : (a <<< ((Int64.ofNat k).toInt32 &&& 0x3f).toInt64).toBitVec = a.toBitVec <<< k := by
  rw [own_cnt k h, Int64.toBitVec_shiftLeft, own_cnt2 k h, BitVec.shiftLeft_eq']
  congr 1
  simp
  omega
theorem own_shr (a : Int64) (k : Nat) (h : k < 64) : (own_ushrL a (-(-(Int64.ofNat k))).toInt32).toBitVec = a.toBitVec >>> k := by
  unfold own_ushrL
  rw [own_cnt3 k h]
  show (a.toUInt64 >>> UInt64.ofNat k).toBitVec = _
  rw [UInt64.toBitVec_shiftRight]
  have e : (UInt64.ofNat k).toBitVec % 64#64 = BitVec.ofNat 64 k := by
    apply BitVec.eq_of_toNat_eq
    simp
    omega
  show a.toBitVec >>> ((UInt64.ofNat k).toBitVec % 64#64) = _
  rw [e, BitVec.ushiftRight_eq']
  congr 1
  simp
  omega
/-- the shift by 0 < n < 64 is the shift by n - 1, doubled -/
theorem own_up (a : Int64) (k : Nat) (h : k + 1 < 64) : a <<< ((Int64.ofNat (k + 1)).toInt32 &&& 0x3f).toInt64 = (a <<< ((Int64.ofNat k).toInt32 &&& 0x3f).toInt64) * 2 := by
  apply Int64.toBitVec_inj.mp
  rw [Int64.toBitVec_mul, own_shl a _ h, own_shl a k (by omega)]
  exact (own_shlB _ _).symm
theorem own_pos (n : Int64) (h0 : 0 ≤ n) (h1 : n < 64) : ∃ k : Nat, k < 64 ∧ n = Int64.ofNat k := by
  rw [Int64.le_iff_toInt_le] at h0
  rw [Int64.lt_iff_toInt_lt] at h1
  have e0 : (0 : Int64).toInt = 0 := by decide
  have e1 : (64 : Int64).toInt = 64 := by decide
  refine ⟨n.toInt.toNat, by omega, ?_⟩
  apply Int64.toInt_inj.mp
  rw [Int64.toInt_ofNat_of_lt (by omega)]
  omega

def own_sh (a n : Int64) : Int64 := if n ≤ -64 then 0 else if 64 ≤ n then 0 else if n < 0 then own_ushrL a (-n).toInt32 else a <<< (n.toInt32 &&& 0x3f).toInt64
theorem own_big (a n : Int64) (h : 64 ≤ n) : own_sh a n = 0 := by
  unfold own_sh
  simp [h]
theorem own_small (a n : Int64) (h : n ≤ -64) : own_sh a n = 0 := by
  unfold own_sh
  simp [h]
theorem own_at (a : Int64) (k : Nat) (h : k < 64) : own_sh a (Int64.ofNat k) = a <<< ((Int64.ofNat k).toInt32 &&& 0x3f).toInt64 := by
  have d : ∀ k : Nat, k < 64 → ¬ (Int64.ofNat k ≤ -64) ∧ ¬ (64 ≤ Int64.ofNat k) ∧ ¬ (Int64.ofNat k < 0) := by decide
  obtain ⟨d1, d2, d3⟩ := d k h
  unfold own_sh
  rw [if_neg d1, if_neg d2, if_neg d3]
theorem own_atN (a : Int64) (k : Nat) (h0 : 0 < k) (h : k < 64) : own_sh a (-(Int64.ofNat k)) = own_ushrL a (-(-(Int64.ofNat k))).toInt32 := by
  have d : ∀ k : Nat, k < 64 → 0 < k → ¬ (-(Int64.ofNat k) ≤ -64) ∧ ¬ (64 ≤ -(Int64.ofNat k)) ∧ (-(Int64.ofNat k) < 0) := by decide
  obtain ⟨d1, d2, d3⟩ := d k h h0
  unfold own_sh
  rw [if_neg d1, if_neg d2, if_pos d3]
theorem own_zero (a : Int64) : own_sh a 0 = a := by
  have := own_at a 0 (by decide)
  rw [show (0 : Int64) = Int64.ofNat 0 from rfl, this]
  apply Int64.toBitVec_inj.mp
  rw [own_shl a 0 (by decide)]
  simp
theorem own_pred : ∀ k : Nat, k < 64 → 0 < k → Int64.ofNat k - 1 = Int64.ofNat (k - 1) := by decide
theorem own_succ : ∀ k : Nat, k < 64 → 0 < k → -(Int64.ofNat k) + 1 = -(Int64.ofNat (k - 1)) := by decide
theorem own_D (a n : Int64) (h0 : 0 < n) (h1 : n < 64) : own_sh a n = own_sh a (n - 1) * 2 := by
  obtain ⟨k, hk, rfl⟩ := own_pos n (Int64.le_of_lt h0) h1
  have hk0 : 0 < k := by
    rcases Nat.eq_zero_or_pos k with h | h
    · subst h; exact absurd h0 (by decide)
    · exact h
  obtain ⟨j, rfl⟩ : ∃ j, k = j + 1 := ⟨k - 1, by omega⟩
  rw [own_pred _ hk hk0, Nat.add_sub_cancel, own_at a _ hk, own_at a j (by omega)]
  exact own_up a j hk
theorem own_neg (n : Int64) (h0 : n < 0) (h1 : -64 < n) : ∃ k : Nat, 0 < k ∧ k < 64 ∧ n = -(Int64.ofNat k) := by
  rw [Int64.lt_iff_toInt_lt] at h0 h1
  have e0 : (0 : Int64).toInt = 0 := by decide
  have e1 : (-64 : Int64).toInt = -64 := by decide
  refine ⟨(-n.toInt).toNat, by omega, by omega, ?_⟩
  apply Int64.toInt_inj.mp
  rw [Int64.toInt_neg, Int64.toInt_ofNat_of_lt (by omega)]
  simp only [Int.bmod_def]
  omega
theorem own_E (a n : Int64) (h0 : n < 0) (h1 : -64 < n) : own_sh a n = ((own_sh a (n + 1) &&& (-2 : Int64)) / (2 : Int64)) &&& (9223372036854775807 : Int64) := by
  obtain ⟨k, hk0, hk, rfl⟩ := own_neg n h0 h1
  rw [own_half, own_succ k hk hk0, own_atN a k hk0 hk]
  apply Int64.toBitVec_inj.mp
  rw [own_shr a k hk]
  obtain ⟨j, rfl⟩ : ∃ j, k = j + 1 := ⟨k - 1, by omega⟩
  rw [Nat.add_sub_cancel]
  show _ = (own_sh a (-Int64.ofNat j)).toBitVec >>> 1
  rcases Nat.eq_zero_or_pos j with h | h
  · subst h
    rw [show -(Int64.ofNat 0) = 0 from by decide, own_zero]
  · rw [own_atN a j h (by omega), own_shr a j (by omega), BitVec.shiftRight_add]
def own_rem (x y : Int32) : Int32 := x - (x / y) * y
theorem own_lt0 {n : Int64} (h1 : ¬ (lcmpW n (0 : Int64)) = (0 : Int32)) (h2 : ¬ (0 : Int32) < (lcmpW n (0 : Int64))) : n < 0 := by
  have a : ¬ n = 0 := fun h => h1 ((lw_eq _ _).mpr h)
  have b : ¬ 0 < n := fun h => h2 ((lw_gt _ _).mpr h)
  rcases Int64.lt_or_eq_of_le (Int64.not_lt.mp b) with h | h
  · exact h
  · exact absurd h a
theorem d1_0 : decode prog_148_method_18_code 0 = .ok (.lload_n 2, 1) := by decide +kernel
theorem d1_1 : decode prog_148_method_18_code 1 = .ok (.ldc2_w 245, 3) := by decide +kernel
theorem d1_4 : decode prog_148_method_18_code 4 = .ok (.lcmp, 1) := by decide +kernel
theorem d1_5 : decode prog_148_method_18_code 5 = .ok (.ifCond .le 11, 3) := by decide +kernel
theorem d1_16 : decode prog_148_method_18_code 16 = .ok (.lconst 0, 1) := by decide +kernel
theorem d1_17 : decode prog_148_method_18_code 17 = .ok (.lreturn, 1) := by decide +kernel
theorem pn_1 : plainName "org/graftloom/lua/LuaValues" = true := by first | (simp [plainName, overriddenIn]; done) | decide +kernel
theorem ef_1 (m : MethodId) (x0 : Int64) (x1 : Int64) : entryFrame m #[(.long x0), (.long x1)] 4 = mkF m 0 #[.val (.long x0), .second, .val (.long x1), .second] [] := by first | (simp [entryFrame, mkF, argsToLocals, Value.category]; done) | rfl
def Q1_t (Z : State) (q1 : Int64) (q2 : Int64) (h0 : Heap) (n0 : Nat) (v : Option Value) (h : Heap) (L : List Loc) : Prop := v = some (.long (0 : Int64)) ∧ Fr n0 L ∧ h = h0
set_option maxRecDepth 65536 in
set_option maxHeartbeats 40000000 in
theorem rm1_t (l : Launch) (Z : State) (a0 : Array Value) (hw : ∀ d ∈ tables_1, d.before a0 Z = true) (ws : List Jvm.Cond) (q1 : Int64) (q2 : Int64) (h0 : Heap) (n0 : Nat) (Z0 : n0 ≤ h0.size) (hc5 : ¬ ((0 : Int32) < (lcmpW q2 (-64 : Int64)))) :
    MetFree l (⟨"org/graftloom/lua/LuaValues", "shiftLeft", "(JJ)J"⟩ : MethodName) (head1 (Jvm.Cond.code (⟨"org/graftloom/lua/LuaValues", "shiftLeft", "(JJ)J"⟩ : MethodName) prog_148_method_18_code 4 (some .long) :: ws) ({ frames := 0, cells := 0, slots := 0, locals := 0 } : Room)) (fun a U => a = #[(.long q1), (.long q2)] ∧ Z.Warmed39 U.vm ∧ U.heap = h0) (fun _ _ _ _ _ => True) (fun _ U o U' => ∃ v L, o = .returned v ∧ Q1_t Z q1 q2 h0 n0 v U'.heap L ∧ FrameEnd U o U' L ({ frames := 0, cells := 0, slots := 0, locals := 0 } : Room).cells ({ frames := 0, cells := 0, slots := 0, locals := 0 } : Room).slots) := by
  refine MetFree.of_bodySF (plainFor_of_name pn_1) hisR ?_
  intro p e s m args below meth c s₁ Bd hml0 hP hK
  obtain ⟨rfl, hZ, hh⟩ := hP
  have hx := Bd.exec
  have hby := Bd.bytes
  have hml : c.maxLocals = 4 := hml0
  have hown : s.vm.findClass "org/graftloom/lua/LuaValues" = some m.cls := findClass_of_methodNamed Bd.named
  have hnm := (name_of_methodNamed Bd.named Bd.method).1
  have X0 : Stand p l e ({ frames := 0, cells := 0, slots := 0, locals := 0 } : Room) s m #[(.long q1), (.long q2)] below meth c s₁ [] 0 0 := Stand.of_body Bd
  have e0 : s₁.heap = h0 := by rw [← hh, Bd.state]; rfl
  have N0 := Fr.nil n0
  have pre0 : ∀ t, Steps p.tables e below (s₁.setTop (mkF m 0 #[.val (.long q1), .second, .val (.long q2), .second] [])) t → Steps p.tables e below (s₁.setTop (entryFrame m #[(.long q1), (.long q2)] 4)) t := fun t k => castTop (ef_1 m q1 q2) k

  obtain ⟨fs, hr, hrun, hended, hW, hsame⟩ := X0.leave (v := some (.long (0 : Int64))) (fun h => by rw [Bd.returns] at h; cases h)
  refine ⟨_, _, pre0 _ ?_, hrun, hended, _, _, rfl, ?_, ⟨_, rfl⟩, hW, hsame.mono (by decide) (by decide)⟩
  · show Steps p.tables e below (s₁.setTop (mkF m 0 #[.val (.long q1), .second, .val (.long q2), .second] [])) _
    refine XS.lloadN X0.here hx rfl (hb hby d1_0) rfl ?_
    show Steps p.tables e below (s₁.setTop (mkF m 1 #[.val (.long q1), .second, .val (.long q2), .second] [(.long q2)])) _
    refine X0.ldc2Long hx hown (mvT hZ (hw _ (List.mem_of_getElem? (i := 4) rfl))) (g := (mkF m 1 #[.val (.long q1), .second, .val (.long q2), .second] [(.long q2)])) rfl (hb hby d1_1) _ ?_
    show Steps p.tables e below (s₁.setTop (mkF m 4 #[.val (.long q1), .second, .val (.long q2), .second] [(.long (-64 : Int64)), (.long q2)])) _
    refine XS.lcmp X0.here hx rfl (hb hby d1_4) rfl ?_
    show Steps p.tables e below (s₁.setTop (mkF m 5 #[.val (.long q1), .second, .val (.long q2), .second] [(.int (lcmpW q2 (-64 : Int64)))])) _
    refine XS.ifYes X0.here hx rfl (pc0 := 5) (pc' := 16) rfl (hb hby d1_5) rfl ((if0 _ _).trans (flt hc5).2.2.2) (by decide) (by decide) ?_
    show Steps p.tables e below (s₁.setTop (mkF m 16 #[.val (.long q1), .second, .val (.long q2), .second] [])) _
    refine XS.lconst X0.here hx rfl (hb hby d1_16) ?_
    show Steps p.tables e below (s₁.setTop (mkF m 17 #[.val (.long q1), .second, .val (.long q2), .second] [(.long (0 : Int64))])) _
    exact retL X0 hx Bd.returns (hb hby d1_17) hr
  · show Q1_t Z q1 q2 h0 n0 _ s₁.heap _
    rw [e0]
    exact ⟨rfl, N0, rfl⟩
theorem d1_8 : decode prog_148_method_18_code 8 = .ok (.lload_n 2, 1) := by decide +kernel
theorem d1_9 : decode prog_148_method_18_code 9 = .ok (.ldc2_w 247, 3) := by decide +kernel
theorem d1_12 : decode prog_148_method_18_code 12 = .ok (.lcmp, 1) := by decide +kernel
theorem d1_13 : decode prog_148_method_18_code 13 = .ok (.ifCond .lt 5, 3) := by decide +kernel
def Q1_ff (Z : State) (q1 : Int64) (q2 : Int64) (h0 : Heap) (n0 : Nat) (v : Option Value) (h : Heap) (L : List Loc) : Prop := v = some (.long (0 : Int64)) ∧ Fr n0 L ∧ h = h0
set_option maxRecDepth 65536 in
set_option maxHeartbeats 40000000 in
theorem rm1_ff (l : Launch) (Z : State) (a0 : Array Value) (hw : ∀ d ∈ tables_1, d.before a0 Z = true) (ws : List Jvm.Cond) (q1 : Int64) (q2 : Int64) (h0 : Heap) (n0 : Nat) (Z0 : n0 ≤ h0.size) (hc5 : (0 : Int32) < (lcmpW q2 (-64 : Int64))) (hc13 : ¬ ((lcmpW q2 (64 : Int64)) < (0 : Int32))) :
    MetFree l (⟨"org/graftloom/lua/LuaValues", "shiftLeft", "(JJ)J"⟩ : MethodName) (head1 (Jvm.Cond.code (⟨"org/graftloom/lua/LuaValues", "shiftLeft", "(JJ)J"⟩ : MethodName) prog_148_method_18_code 4 (some .long) :: ws) ({ frames := 0, cells := 0, slots := 0, locals := 0 } : Room)) (fun a U => a = #[(.long q1), (.long q2)] ∧ Z.Warmed39 U.vm ∧ U.heap = h0) (fun _ _ _ _ _ => True) (fun _ U o U' => ∃ v L, o = .returned v ∧ Q1_ff Z q1 q2 h0 n0 v U'.heap L ∧ FrameEnd U o U' L ({ frames := 0, cells := 0, slots := 0, locals := 0 } : Room).cells ({ frames := 0, cells := 0, slots := 0, locals := 0 } : Room).slots) := by
  refine MetFree.of_bodySF (plainFor_of_name pn_1) hisR ?_
  intro p e s m args below meth c s₁ Bd hml0 hP hK
  obtain ⟨rfl, hZ, hh⟩ := hP
  have hx := Bd.exec
  have hby := Bd.bytes
  have hml : c.maxLocals = 4 := hml0
  have hown : s.vm.findClass "org/graftloom/lua/LuaValues" = some m.cls := findClass_of_methodNamed Bd.named
  have hnm := (name_of_methodNamed Bd.named Bd.method).1
  have X0 : Stand p l e ({ frames := 0, cells := 0, slots := 0, locals := 0 } : Room) s m #[(.long q1), (.long q2)] below meth c s₁ [] 0 0 := Stand.of_body Bd
  have e0 : s₁.heap = h0 := by rw [← hh, Bd.state]; rfl
  have N0 := Fr.nil n0
  have pre0 : ∀ t, Steps p.tables e below (s₁.setTop (mkF m 0 #[.val (.long q1), .second, .val (.long q2), .second] [])) t → Steps p.tables e below (s₁.setTop (entryFrame m #[(.long q1), (.long q2)] 4)) t := fun t k => castTop (ef_1 m q1 q2) k

  obtain ⟨fs, hr, hrun, hended, hW, hsame⟩ := X0.leave (v := some (.long (0 : Int64))) (fun h => by rw [Bd.returns] at h; cases h)
  refine ⟨_, _, pre0 _ ?_, hrun, hended, _, _, rfl, ?_, ⟨_, rfl⟩, hW, hsame.mono (by decide) (by decide)⟩
  · show Steps p.tables e below (s₁.setTop (mkF m 0 #[.val (.long q1), .second, .val (.long q2), .second] [])) _
    refine XS.lloadN X0.here hx rfl (hb hby d1_0) rfl ?_
    show Steps p.tables e below (s₁.setTop (mkF m 1 #[.val (.long q1), .second, .val (.long q2), .second] [(.long q2)])) _
    refine X0.ldc2Long hx hown (mvT hZ (hw _ (List.mem_of_getElem? (i := 4) rfl))) (g := (mkF m 1 #[.val (.long q1), .second, .val (.long q2), .second] [(.long q2)])) rfl (hb hby d1_1) _ ?_
    show Steps p.tables e below (s₁.setTop (mkF m 4 #[.val (.long q1), .second, .val (.long q2), .second] [(.long (-64 : Int64)), (.long q2)])) _
    refine XS.lcmp X0.here hx rfl (hb hby d1_4) rfl ?_
    show Steps p.tables e below (s₁.setTop (mkF m 5 #[.val (.long q1), .second, .val (.long q2), .second] [(.int (lcmpW q2 (-64 : Int64)))])) _
    refine XS.ifNo X0.here hx rfl (hb hby d1_5) rfl ((if0 _ _).trans (tlt hc5).2.2.2) ?_
    show Steps p.tables e below (s₁.setTop (mkF m 8 #[.val (.long q1), .second, .val (.long q2), .second] [])) _
    refine XS.lloadN X0.here hx rfl (hb hby d1_8) rfl ?_
    show Steps p.tables e below (s₁.setTop (mkF m 9 #[.val (.long q1), .second, .val (.long q2), .second] [(.long q2)])) _
    refine X0.ldc2Long hx hown (mvT hZ (hw _ (List.mem_of_getElem? (i := 5) rfl))) (g := (mkF m 9 #[.val (.long q1), .second, .val (.long q2), .second] [(.long q2)])) rfl (hb hby d1_9) _ ?_
    show Steps p.tables e below (s₁.setTop (mkF m 12 #[.val (.long q1), .second, .val (.long q2), .second] [(.long (64 : Int64)), (.long q2)])) _
    refine XS.lcmp X0.here hx rfl (hb hby d1_12) rfl ?_
    show Steps p.tables e below (s₁.setTop (mkF m 13 #[.val (.long q1), .second, .val (.long q2), .second] [(.int (lcmpW q2 (64 : Int64)))])) _
    refine XS.ifNo X0.here hx rfl (hb hby d1_13) rfl ((if0 _ _).trans (flt hc13).1) ?_
    show Steps p.tables e below (s₁.setTop (mkF m 16 #[.val (.long q1), .second, .val (.long q2), .second] [])) _
    refine XS.lconst X0.here hx rfl (hb hby d1_16) ?_
    show Steps p.tables e below (s₁.setTop (mkF m 17 #[.val (.long q1), .second, .val (.long q2), .second] [(.long (0 : Int64))])) _
    exact retL X0 hx Bd.returns (hb hby d1_17) hr
  · show Q1_ff Z q1 q2 h0 n0 _ s₁.heap _
    rw [e0]
    exact ⟨rfl, N0, rfl⟩
theorem d1_18 : decode prog_148_method_18_code 18 = .ok (.lload_n 2, 1) := by decide +kernel
theorem d1_19 : decode prog_148_method_18_code 19 = .ok (.lconst 0, 1) := by decide +kernel
theorem d1_20 : decode prog_148_method_18_code 20 = .ok (.lcmp, 1) := by decide +kernel
theorem d1_21 : decode prog_148_method_18_code 21 = .ok (.ifCond .lt 10, 3) := by decide +kernel
theorem d1_24 : decode prog_148_method_18_code 24 = .ok (.lload_n 0, 1) := by decide +kernel
theorem d1_25 : decode prog_148_method_18_code 25 = .ok (.lload_n 2, 1) := by decide +kernel
theorem d1_26 : decode prog_148_method_18_code 26 = .ok (.l2i, 1) := by decide +kernel
theorem d1_27 : decode prog_148_method_18_code 27 = .ok (.lshl, 1) := by decide +kernel
theorem d1_28 : decode prog_148_method_18_code 28 = .ok (.goto 8, 3) := by decide +kernel
theorem d1_36 : decode prog_148_method_18_code 36 = .ok (.lreturn, 1) := by decide +kernel
def Q1_ftf (Z : State) (q1 : Int64) (q2 : Int64) (h0 : Heap) (n0 : Nat) (v : Option Value) (h : Heap) (L : List Loc) : Prop := v = some (.long (q1 <<< ((q2.toInt32) &&& 0x3f).toInt64)) ∧ Fr n0 L ∧ h = h0
set_option maxRecDepth 65536 in
set_option maxHeartbeats 40000000 in
theorem rm1_ftf (l : Launch) (Z : State) (a0 : Array Value) (hw : ∀ d ∈ tables_1, d.before a0 Z = true) (ws : List Jvm.Cond) (q1 : Int64) (q2 : Int64) (h0 : Heap) (n0 : Nat) (Z0 : n0 ≤ h0.size) (hc5 : (0 : Int32) < (lcmpW q2 (-64 : Int64))) (hc13 : (lcmpW q2 (64 : Int64)) < (0 : Int32)) (hc21 : ¬ ((lcmpW q2 (0 : Int64)) < (0 : Int32))) :
    MetFree l (⟨"org/graftloom/lua/LuaValues", "shiftLeft", "(JJ)J"⟩ : MethodName) (head1 (Jvm.Cond.code (⟨"org/graftloom/lua/LuaValues", "shiftLeft", "(JJ)J"⟩ : MethodName) prog_148_method_18_code 4 (some .long) :: ws) ({ frames := 0, cells := 0, slots := 0, locals := 0 } : Room)) (fun a U => a = #[(.long q1), (.long q2)] ∧ Z.Warmed39 U.vm ∧ U.heap = h0) (fun _ _ _ _ _ => True) (fun _ U o U' => ∃ v L, o = .returned v ∧ Q1_ftf Z q1 q2 h0 n0 v U'.heap L ∧ FrameEnd U o U' L ({ frames := 0, cells := 0, slots := 0, locals := 0 } : Room).cells ({ frames := 0, cells := 0, slots := 0, locals := 0 } : Room).slots) := by
  refine MetFree.of_bodySF (plainFor_of_name pn_1) hisR ?_
  intro p e s m args below meth c s₁ Bd hml0 hP hK
  obtain ⟨rfl, hZ, hh⟩ := hP
  have hx := Bd.exec
  have hby := Bd.bytes
  have hml : c.maxLocals = 4 := hml0
  have hown : s.vm.findClass "org/graftloom/lua/LuaValues" = some m.cls := findClass_of_methodNamed Bd.named
  have hnm := (name_of_methodNamed Bd.named Bd.method).1
  have X0 : Stand p l e ({ frames := 0, cells := 0, slots := 0, locals := 0 } : Room) s m #[(.long q1), (.long q2)] below meth c s₁ [] 0 0 := Stand.of_body Bd
  have e0 : s₁.heap = h0 := by rw [← hh, Bd.state]; rfl
  have N0 := Fr.nil n0
  have pre0 : ∀ t, Steps p.tables e below (s₁.setTop (mkF m 0 #[.val (.long q1), .second, .val (.long q2), .second] [])) t → Steps p.tables e below (s₁.setTop (entryFrame m #[(.long q1), (.long q2)] 4)) t := fun t k => castTop (ef_1 m q1 q2) k

  obtain ⟨fs, hr, hrun, hended, hW, hsame⟩ := X0.leave (v := some (.long (q1 <<< ((q2.toInt32) &&& 0x3f).toInt64))) (fun h => by rw [Bd.returns] at h; cases h)
  refine ⟨_, _, pre0 _ ?_, hrun, hended, _, _, rfl, ?_, ⟨_, rfl⟩, hW, hsame.mono (by decide) (by decide)⟩
  · show Steps p.tables e below (s₁.setTop (mkF m 0 #[.val (.long q1), .second, .val (.long q2), .second] [])) _
    refine XS.lloadN X0.here hx rfl (hb hby d1_0) rfl ?_
    show Steps p.tables e below (s₁.setTop (mkF m 1 #[.val (.long q1), .second, .val (.long q2), .second] [(.long q2)])) _
    refine X0.ldc2Long hx hown (mvT hZ (hw _ (List.mem_of_getElem? (i := 4) rfl))) (g := (mkF m 1 #[.val (.long q1), .second, .val (.long q2), .second] [(.long q2)])) rfl (hb hby d1_1) _ ?_
    show Steps p.tables e below (s₁.setTop (mkF m 4 #[.val (.long q1), .second, .val (.long q2), .second] [(.long (-64 : Int64)), (.long q2)])) _
    refine XS.lcmp X0.here hx rfl (hb hby d1_4) rfl ?_
    show Steps p.tables e below (s₁.setTop (mkF m 5 #[.val (.long q1), .second, .val (.long q2), .second] [(.int (lcmpW q2 (-64 : Int64)))])) _
    refine XS.ifNo X0.here hx rfl (hb hby d1_5) rfl ((if0 _ _).trans (tlt hc5).2.2.2) ?_
    show Steps p.tables e below (s₁.setTop (mkF m 8 #[.val (.long q1), .second, .val (.long q2), .second] [])) _
    refine XS.lloadN X0.here hx rfl (hb hby d1_8) rfl ?_
    show Steps p.tables e below (s₁.setTop (mkF m 9 #[.val (.long q1), .second, .val (.long q2), .second] [(.long q2)])) _
    refine X0.ldc2Long hx hown (mvT hZ (hw _ (List.mem_of_getElem? (i := 5) rfl))) (g := (mkF m 9 #[.val (.long q1), .second, .val (.long q2), .second] [(.long q2)])) rfl (hb hby d1_9) _ ?_
    show Steps p.tables e below (s₁.setTop (mkF m 12 #[.val (.long q1), .second, .val (.long q2), .second] [(.long (64 : Int64)), (.long q2)])) _
    refine XS.lcmp X0.here hx rfl (hb hby d1_12) rfl ?_
    show Steps p.tables e below (s₁.setTop (mkF m 13 #[.val (.long q1), .second, .val (.long q2), .second] [(.int (lcmpW q2 (64 : Int64)))])) _
    refine XS.ifYes X0.here hx rfl (pc0 := 13) (pc' := 18) rfl (hb hby d1_13) rfl ((if0 _ _).trans (tlt hc13).1) (by decide) (by decide) ?_
    show Steps p.tables e below (s₁.setTop (mkF m 18 #[.val (.long q1), .second, .val (.long q2), .second] [])) _
    refine XS.lloadN X0.here hx rfl (hb hby d1_18) rfl ?_
    show Steps p.tables e below (s₁.setTop (mkF m 19 #[.val (.long q1), .second, .val (.long q2), .second] [(.long q2)])) _
    refine XS.lconst X0.here hx rfl (hb hby d1_19) ?_
    show Steps p.tables e below (s₁.setTop (mkF m 20 #[.val (.long q1), .second, .val (.long q2), .second] [(.long (0 : Int64)), (.long q2)])) _
    refine XS.lcmp X0.here hx rfl (hb hby d1_20) rfl ?_
    show Steps p.tables e below (s₁.setTop (mkF m 21 #[.val (.long q1), .second, .val (.long q2), .second] [(.int (lcmpW q2 (0 : Int64)))])) _
    refine XS.ifNo X0.here hx rfl (hb hby d1_21) rfl ((if0 _ _).trans (flt hc21).1) ?_
    show Steps p.tables e below (s₁.setTop (mkF m 24 #[.val (.long q1), .second, .val (.long q2), .second] [])) _
    refine XS.lloadN X0.here hx rfl (hb hby d1_24) rfl ?_
    show Steps p.tables e below (s₁.setTop (mkF m 25 #[.val (.long q1), .second, .val (.long q2), .second] [(.long q1)])) _
    refine XS.lloadN X0.here hx rfl (hb hby d1_25) rfl ?_
    show Steps p.tables e below (s₁.setTop (mkF m 26 #[.val (.long q1), .second, .val (.long q2), .second] [(.long q2), (.long q1)])) _
    refine XS.l2i X0.here hx rfl (hb hby d1_26) rfl ?_
    show Steps p.tables e below (s₁.setTop (mkF m 27 #[.val (.long q1), .second, .val (.long q2), .second] [(.int (q2.toInt32)), (.long q1)])) _
    refine XS.lshl X0.here hx rfl (hb hby d1_27) rfl ?_
    show Steps p.tables e below (s₁.setTop (mkF m 28 #[.val (.long q1), .second, .val (.long q2), .second] [(.long (q1 <<< ((q2.toInt32) &&& 0x3f).toInt64))])) _
    refine XS.goto X0.here hx rfl (pc0 := 28) (pc' := 36) rfl (hb hby d1_28) (by decide) (by decide) ?_
    show Steps p.tables e below (s₁.setTop (mkF m 36 #[.val (.long q1), .second, .val (.long q2), .second] [(.long (q1 <<< ((q2.toInt32) &&& 0x3f).toInt64))])) _
    exact retL X0 hx Bd.returns (hb hby d1_36) hr
  · show Q1_ftf Z q1 q2 h0 n0 _ s₁.heap _
    rw [e0]
    exact ⟨rfl, N0, rfl⟩
theorem d1_31 : decode prog_148_method_18_code 31 = .ok (.lload_n 0, 1) := by decide +kernel
theorem d1_32 : decode prog_148_method_18_code 32 = .ok (.lload_n 2, 1) := by decide +kernel
theorem d1_33 : decode prog_148_method_18_code 33 = .ok (.lneg, 1) := by decide +kernel
theorem d1_34 : decode prog_148_method_18_code 34 = .ok (.l2i, 1) := by decide +kernel
theorem d1_35 : decode prog_148_method_18_code 35 = .ok (.lushr, 1) := by decide +kernel
def Q1_ftt (Z : State) (q1 : Int64) (q2 : Int64) (h0 : Heap) (n0 : Nat) (v : Option Value) (h : Heap) (L : List Loc) : Prop := v = some (.long ((q1.toUInt64 >>> (((-q2).toInt32) &&& 0x3f).toInt64.toUInt64).toInt64)) ∧ Fr n0 L ∧ h = h0
set_option maxRecDepth 65536 in
set_option maxHeartbeats 40000000 in
theorem rm1_ftt (l : Launch) (Z : State) (a0 : Array Value) (hw : ∀ d ∈ tables_1, d.before a0 Z = true) (ws : List Jvm.Cond) (q1 : Int64) (q2 : Int64) (h0 : Heap) (n0 : Nat) (Z0 : n0 ≤ h0.size) (hc5 : (0 : Int32) < (lcmpW q2 (-64 : Int64))) (hc13 : (lcmpW q2 (64 : Int64)) < (0 : Int32)) (hc21 : (lcmpW q2 (0 : Int64)) < (0 : Int32)) :
    MetFree l (⟨"org/graftloom/lua/LuaValues", "shiftLeft", "(JJ)J"⟩ : MethodName) (head1 (Jvm.Cond.code (⟨"org/graftloom/lua/LuaValues", "shiftLeft", "(JJ)J"⟩ : MethodName) prog_148_method_18_code 4 (some .long) :: ws) ({ frames := 0, cells := 0, slots := 0, locals := 0 } : Room)) (fun a U => a = #[(.long q1), (.long q2)] ∧ Z.Warmed39 U.vm ∧ U.heap = h0) (fun _ _ _ _ _ => True) (fun _ U o U' => ∃ v L, o = .returned v ∧ Q1_ftt Z q1 q2 h0 n0 v U'.heap L ∧ FrameEnd U o U' L ({ frames := 0, cells := 0, slots := 0, locals := 0 } : Room).cells ({ frames := 0, cells := 0, slots := 0, locals := 0 } : Room).slots) := by
  refine MetFree.of_bodySF (plainFor_of_name pn_1) hisR ?_
  intro p e s m args below meth c s₁ Bd hml0 hP hK
  obtain ⟨rfl, hZ, hh⟩ := hP
  have hx := Bd.exec
  have hby := Bd.bytes
  have hml : c.maxLocals = 4 := hml0
  have hown : s.vm.findClass "org/graftloom/lua/LuaValues" = some m.cls := findClass_of_methodNamed Bd.named
  have hnm := (name_of_methodNamed Bd.named Bd.method).1
  have X0 : Stand p l e ({ frames := 0, cells := 0, slots := 0, locals := 0 } : Room) s m #[(.long q1), (.long q2)] below meth c s₁ [] 0 0 := Stand.of_body Bd
  have e0 : s₁.heap = h0 := by rw [← hh, Bd.state]; rfl
  have N0 := Fr.nil n0
  have pre0 : ∀ t, Steps p.tables e below (s₁.setTop (mkF m 0 #[.val (.long q1), .second, .val (.long q2), .second] [])) t → Steps p.tables e below (s₁.setTop (entryFrame m #[(.long q1), (.long q2)] 4)) t := fun t k => castTop (ef_1 m q1 q2) k

  obtain ⟨fs, hr, hrun, hended, hW, hsame⟩ := X0.leave (v := some (.long ((q1.toUInt64 >>> (((-q2).toInt32) &&& 0x3f).toInt64.toUInt64).toInt64))) (fun h => by rw [Bd.returns] at h; cases h)
  refine ⟨_, _, pre0 _ ?_, hrun, hended, _, _, rfl, ?_, ⟨_, rfl⟩, hW, hsame.mono (by decide) (by decide)⟩
  · show Steps p.tables e below (s₁.setTop (mkF m 0 #[.val (.long q1), .second, .val (.long q2), .second] [])) _
    refine XS.lloadN X0.here hx rfl (hb hby d1_0) rfl ?_
    show Steps p.tables e below (s₁.setTop (mkF m 1 #[.val (.long q1), .second, .val (.long q2), .second] [(.long q2)])) _
    refine X0.ldc2Long hx hown (mvT hZ (hw _ (List.mem_of_getElem? (i := 4) rfl))) (g := (mkF m 1 #[.val (.long q1), .second, .val (.long q2), .second] [(.long q2)])) rfl (hb hby d1_1) _ ?_
    show Steps p.tables e below (s₁.setTop (mkF m 4 #[.val (.long q1), .second, .val (.long q2), .second] [(.long (-64 : Int64)), (.long q2)])) _
    refine XS.lcmp X0.here hx rfl (hb hby d1_4) rfl ?_
    show Steps p.tables e below (s₁.setTop (mkF m 5 #[.val (.long q1), .second, .val (.long q2), .second] [(.int (lcmpW q2 (-64 : Int64)))])) _
    refine XS.ifNo X0.here hx rfl (hb hby d1_5) rfl ((if0 _ _).trans (tlt hc5).2.2.2) ?_
    show Steps p.tables e below (s₁.setTop (mkF m 8 #[.val (.long q1), .second, .val (.long q2), .second] [])) _
    refine XS.lloadN X0.here hx rfl (hb hby d1_8) rfl ?_
    show Steps p.tables e below (s₁.setTop (mkF m 9 #[.val (.long q1), .second, .val (.long q2), .second] [(.long q2)])) _
    refine X0.ldc2Long hx hown (mvT hZ (hw _ (List.mem_of_getElem? (i := 5) rfl))) (g := (mkF m 9 #[.val (.long q1), .second, .val (.long q2), .second] [(.long q2)])) rfl (hb hby d1_9) _ ?_
    show Steps p.tables e below (s₁.setTop (mkF m 12 #[.val (.long q1), .second, .val (.long q2), .second] [(.long (64 : Int64)), (.long q2)])) _
    refine XS.lcmp X0.here hx rfl (hb hby d1_12) rfl ?_
    show Steps p.tables e below (s₁.setTop (mkF m 13 #[.val (.long q1), .second, .val (.long q2), .second] [(.int (lcmpW q2 (64 : Int64)))])) _
    refine XS.ifYes X0.here hx rfl (pc0 := 13) (pc' := 18) rfl (hb hby d1_13) rfl ((if0 _ _).trans (tlt hc13).1) (by decide) (by decide) ?_
    show Steps p.tables e below (s₁.setTop (mkF m 18 #[.val (.long q1), .second, .val (.long q2), .second] [])) _
    refine XS.lloadN X0.here hx rfl (hb hby d1_18) rfl ?_
    show Steps p.tables e below (s₁.setTop (mkF m 19 #[.val (.long q1), .second, .val (.long q2), .second] [(.long q2)])) _
    refine XS.lconst X0.here hx rfl (hb hby d1_19) ?_
    show Steps p.tables e below (s₁.setTop (mkF m 20 #[.val (.long q1), .second, .val (.long q2), .second] [(.long (0 : Int64)), (.long q2)])) _
    refine XS.lcmp X0.here hx rfl (hb hby d1_20) rfl ?_
    show Steps p.tables e below (s₁.setTop (mkF m 21 #[.val (.long q1), .second, .val (.long q2), .second] [(.int (lcmpW q2 (0 : Int64)))])) _
    refine XS.ifYes X0.here hx rfl (pc0 := 21) (pc' := 31) rfl (hb hby d1_21) rfl ((if0 _ _).trans (tlt hc21).1) (by decide) (by decide) ?_
    show Steps p.tables e below (s₁.setTop (mkF m 31 #[.val (.long q1), .second, .val (.long q2), .second] [])) _
    refine XS.lloadN X0.here hx rfl (hb hby d1_31) rfl ?_
    show Steps p.tables e below (s₁.setTop (mkF m 32 #[.val (.long q1), .second, .val (.long q2), .second] [(.long q1)])) _
    refine XS.lloadN X0.here hx rfl (hb hby d1_32) rfl ?_
    show Steps p.tables e below (s₁.setTop (mkF m 33 #[.val (.long q1), .second, .val (.long q2), .second] [(.long q2), (.long q1)])) _
    refine XS.lneg X0.here hx rfl (hb hby d1_33) rfl ?_
    show Steps p.tables e below (s₁.setTop (mkF m 34 #[.val (.long q1), .second, .val (.long q2), .second] [(.long (-q2)), (.long q1)])) _
    refine XS.l2i X0.here hx rfl (hb hby d1_34) rfl ?_
    show Steps p.tables e below (s₁.setTop (mkF m 35 #[.val (.long q1), .second, .val (.long q2), .second] [(.int ((-q2).toInt32)), (.long q1)])) _
    refine XS.lushr X0.here hx rfl (hb hby d1_35) rfl ?_
    show Steps p.tables e below (s₁.setTop (mkF m 36 #[.val (.long q1), .second, .val (.long q2), .second] [(.long ((q1.toUInt64 >>> (((-q2).toInt32) &&& 0x3f).toInt64.toUInt64).toInt64))])) _
    exact retL X0 hx Bd.returns (hb hby d1_36) hr
  · show Q1_ftt Z q1 q2 h0 n0 _ s₁.heap _
    rw [e0]
    exact ⟨rfl, N0, rfl⟩
def Q1 (Z : State) (q1 : Int64) (q2 : Int64) (h0 : Heap) (n0 : Nat) (v : Option Value) (h : Heap) (L : List Loc) : Prop := v = some (.long (own_sh q1 q2)) ∧ Fr n0 L ∧ h = h0
theorem rm1 (l : Launch) (Z : State) (a0 : Array Value) (hw : ∀ d ∈ tables_1, d.before a0 Z = true) (ws : List Jvm.Cond) (q1 : Int64) (q2 : Int64) (h0 : Heap) (n0 : Nat) (Z0 : n0 ≤ h0.size) :
    MetFree l (⟨"org/graftloom/lua/LuaValues", "shiftLeft", "(JJ)J"⟩ : MethodName) (head1 (Jvm.Cond.code (⟨"org/graftloom/lua/LuaValues", "shiftLeft", "(JJ)J"⟩ : MethodName) prog_148_method_18_code 4 (some .long) :: ws) ({ frames := 0, cells := 0, slots := 0, locals := 0 } : Room)) (fun a U => a = #[(.long q1), (.long q2)] ∧ Z.Warmed39 U.vm ∧ U.heap = h0) (fun _ _ _ _ _ => True) (fun _ U o U' => ∃ v L, o = .returned v ∧ Q1 Z q1 q2 h0 n0 v U'.heap L ∧ FrameEnd U o U' L ({ frames := 0, cells := 0, slots := 0, locals := 0 } : Room).cells ({ frames := 0, cells := 0, slots := 0, locals := 0 } : Room).slots) := by
  by_cases hc5 : (0 : Int32) < (lcmpW q2 (-64 : Int64))
  · have g5 := (lw_gt _ _).mp hc5
    by_cases hc13 : (lcmpW q2 (64 : Int64)) < (0 : Int32)
    · have g13 := (lw_lt _ _).mp hc13
      by_cases hc21 : (lcmpW q2 (0 : Int64)) < (0 : Int32)
      · have g21 := (lw_lt _ _).mp hc21
        have e : own_sh q1 q2 = ((q1.toUInt64 >>> (((-q2).toInt32) &&& 0x3f).toInt64.toUInt64).toInt64) := by
          unfold own_sh; rw [if_neg (Int64.not_le.mpr g5), if_neg (Int64.not_le.mpr g13), if_pos g21]; rfl
        unfold Q1; rw [e]; exact rm1_ftt l Z a0 hw ws q1 q2 h0 n0 Z0 hc5 hc13 hc21
      · have g21 : ¬ q2 < 0 := fun h => hc21 ((lw_lt _ _).mpr h)
        have e : own_sh q1 q2 = (q1 <<< ((q2.toInt32) &&& 0x3f).toInt64) := by
          unfold own_sh; rw [if_neg (Int64.not_le.mpr g5), if_neg (Int64.not_le.mpr g13), if_neg g21]
        unfold Q1; rw [e]; exact rm1_ftf l Z a0 hw ws q1 q2 h0 n0 Z0 hc5 hc13 hc21
    · have g13 : ¬ q2 < 64 := fun h => hc13 ((lw_lt _ _).mpr h)
      unfold Q1; rw [own_big q1 q2 (Int64.not_lt.mp g13)]; exact rm1_ff l Z a0 hw ws q1 q2 h0 n0 Z0 hc5 hc13
  · have g5 : ¬ -64 < q2 := fun h => hc5 ((lw_gt _ _).mpr h)
    unfold Q1; rw [own_small q1 q2 (Int64.not_lt.mp g5)]; exact rm1_t l Z a0 hw ws q1 q2 h0 n0 Z0 hc5
theorem d2_0 : decode method_2_code 0 = .ok (.lload_n 0, 1) := by decide +kernel
theorem d2_1 : decode method_2_code 1 = .ok (.ldc2_w 7, 3) := by decide +kernel
theorem d2_4 : decode method_2_code 4 = .ok (.land, 1) := by decide +kernel
theorem d2_5 : decode method_2_code 5 = .ok (.ldc2_w 9, 3) := by decide +kernel
theorem d2_8 : decode method_2_code 8 = .ok (.ldiv, 1) := by decide +kernel
theorem d2_9 : decode method_2_code 9 = .ok (.ldc2_w 13, 3) := by decide +kernel
theorem d2_12 : decode method_2_code 12 = .ok (.land, 1) := by decide +kernel
theorem d2_13 : decode method_2_code 13 = .ok (.lreturn, 1) := by decide +kernel
theorem pn_2 : plainName "org/graftloom/lua/LuaValuesShiftLeftPinLaw" = true := by first | (simp [plainName, overriddenIn]; done) | decide +kernel
theorem ef_2 (m : MethodId) (x0 : Int64) : entryFrame m #[(.long x0)] 2 = mkF m 0 #[.val (.long x0), .second] [] := by first | (simp [entryFrame, mkF, argsToLocals, Value.category]; done) | rfl
def Q2 (Z : State) (q1 : Int64) (h0 : Heap) (n0 : Nat) (v : Option Value) (h : Heap) (L : List Loc) : Prop := v = some (.long (((q1 &&& (-2 : Int64)) / (2 : Int64)) &&& (9223372036854775807 : Int64))) ∧ Fr n0 L ∧ h = h0
set_option maxRecDepth 65536 in
set_option maxHeartbeats 40000000 in
theorem rm2 (l : Launch) (Z : State) (a0 : Array Value) (hw : ∀ d ∈ tables_1, d.before a0 Z = true) (ws : List Jvm.Cond) (q1 : Int64) (h0 : Heap) (n0 : Nat) (Z0 : n0 ≤ h0.size)  :
    MetFree l (⟨"org/graftloom/lua/LuaValuesShiftLeftPinLaw", "half", "(J)J"⟩ : MethodName) (head1 (Jvm.Cond.code (⟨"org/graftloom/lua/LuaValuesShiftLeftPinLaw", "half", "(J)J"⟩ : MethodName) method_2_code 2 (some .long) :: ws) ({ frames := 0, cells := 0, slots := 0, locals := 0 } : Room)) (fun a U => a = #[(.long q1)] ∧ Z.Warmed39 U.vm ∧ U.heap = h0) (fun _ _ _ _ _ => True) (fun _ U o U' => ∃ v L, o = .returned v ∧ Q2 Z q1 h0 n0 v U'.heap L ∧ FrameEnd U o U' L ({ frames := 0, cells := 0, slots := 0, locals := 0 } : Room).cells ({ frames := 0, cells := 0, slots := 0, locals := 0 } : Room).slots) := by
  refine MetFree.of_bodySF (plainFor_of_name pn_2) hisR ?_
  intro p e s m args below meth c s₁ Bd hml0 hP hK
  obtain ⟨rfl, hZ, hh⟩ := hP
  have hx := Bd.exec
  have hby := Bd.bytes
  have hml : c.maxLocals = 2 := hml0
  have hown : s.vm.findClass "org/graftloom/lua/LuaValuesShiftLeftPinLaw" = some m.cls := findClass_of_methodNamed Bd.named
  have hnm := (name_of_methodNamed Bd.named Bd.method).1
  have X0 : Stand p l e ({ frames := 0, cells := 0, slots := 0, locals := 0 } : Room) s m #[(.long q1)] below meth c s₁ [] 0 0 := Stand.of_body Bd
  have e0 : s₁.heap = h0 := by rw [← hh, Bd.state]; rfl
  have N0 := Fr.nil n0
  have pre0 : ∀ t, Steps p.tables e below (s₁.setTop (mkF m 0 #[.val (.long q1), .second] [])) t → Steps p.tables e below (s₁.setTop (entryFrame m #[(.long q1)] 2)) t := fun t k => castTop (ef_2 m q1) k

  obtain ⟨fs, hr, hrun, hended, hW, hsame⟩ := X0.leave (v := some (.long (((q1 &&& (-2 : Int64)) / (2 : Int64)) &&& (9223372036854775807 : Int64)))) (fun h => by rw [Bd.returns] at h; cases h)
  refine ⟨_, _, pre0 _ ?_, hrun, hended, _, _, rfl, ?_, ⟨_, rfl⟩, hW, hsame.mono (by decide) (by decide)⟩
  · show Steps p.tables e below (s₁.setTop (mkF m 0 #[.val (.long q1), .second] [])) _
    refine XS.lloadN X0.here hx rfl (hb hby d2_0) rfl ?_
    show Steps p.tables e below (s₁.setTop (mkF m 1 #[.val (.long q1), .second] [(.long q1)])) _
    refine X0.ldc2Long hx hown (mvT hZ (hw _ (List.mem_of_getElem? (i := 13) rfl))) (g := (mkF m 1 #[.val (.long q1), .second] [(.long q1)])) rfl (hb hby d2_1) _ ?_
    show Steps p.tables e below (s₁.setTop (mkF m 4 #[.val (.long q1), .second] [(.long (-2 : Int64)), (.long q1)])) _
    refine XS.land X0.here hx rfl (hb hby d2_4) rfl ?_
    show Steps p.tables e below (s₁.setTop (mkF m 5 #[.val (.long q1), .second] [(.long (q1 &&& (-2 : Int64)))])) _
    refine X0.ldc2Long hx hown (mvT hZ (hw _ (List.mem_of_getElem? (i := 8) rfl))) (g := (mkF m 5 #[.val (.long q1), .second] [(.long (q1 &&& (-2 : Int64)))])) rfl (hb hby d2_5) _ ?_
    show Steps p.tables e below (s₁.setTop (mkF m 8 #[.val (.long q1), .second] [(.long (2 : Int64)), (.long (q1 &&& (-2 : Int64)))])) _
    refine XS.ldiv X0.here hx rfl (hb hby d2_8) rfl (by decide) ?_
    show Steps p.tables e below (s₁.setTop (mkF m 9 #[.val (.long q1), .second] [(.long ((q1 &&& (-2 : Int64)) / (2 : Int64)))])) _
    refine X0.ldc2Long hx hown (mvT hZ (hw _ (List.mem_of_getElem? (i := 14) rfl))) (g := (mkF m 9 #[.val (.long q1), .second] [(.long ((q1 &&& (-2 : Int64)) / (2 : Int64)))])) rfl (hb hby d2_9) _ ?_
    show Steps p.tables e below (s₁.setTop (mkF m 12 #[.val (.long q1), .second] [(.long (9223372036854775807 : Int64)), (.long ((q1 &&& (-2 : Int64)) / (2 : Int64)))])) _
    refine XS.land X0.here hx rfl (hb hby d2_12) rfl ?_
    show Steps p.tables e below (s₁.setTop (mkF m 13 #[.val (.long q1), .second] [(.long (((q1 &&& (-2 : Int64)) / (2 : Int64)) &&& (9223372036854775807 : Int64)))])) _
    exact retL X0 hx Bd.returns (hb hby d2_13) hr
  · show Q2 Z q1 h0 n0 _ s₁.heap _
    rw [e0]
    exact ⟨rfl, N0, rfl⟩
theorem pn_0 : plainName "org/graftloom/lua/LuaValuesShiftLeftPinLaw" = true := by first | (simp [plainName, overriddenIn]; done) | decide +kernel
theorem pd_0_fA_0 : parseMethodDescriptor "(JJ)J" = some ⟨[.long, .long], some .long⟩ := by decide +kernel
theorem ef_0 (m : MethodId) (x0 : Int64) (x1 : Int64) (x2 : Int32) : entryFrame m #[(.long x0), (.long x1), (.int x2)] maxLocals = mkF m 0 #[.val (.long x0), .second, .val (.long x1), .second, .val (.int x2), .unset, .unset, .unset, .unset] [] := by first | (simp [entryFrame, mkF, argsToLocals, Value.category, maxLocals]; done) | rfl
def Q0_fA (Z : State) (q1 : Int64) (q2 : Int64) (p3 : Int32) (h0 : Heap) (n0 : Nat) (v : Option Value) (h : Heap) (L : List Loc) : Prop := v = some (.int (1 : Int32)) ∧ Fr n0 L
set_option maxRecDepth 65536 in
set_option maxHeartbeats 40000000 in
theorem rm0_fA (l : Launch) (Z : State) (a0 : Array Value) (hw : ∀ d ∈ tables_1, d.before a0 Z = true) (ws : List Jvm.Cond) (q1 : Int64) (q2 : Int64) (p3 : Int32) (h0 : Heap) (n0 : Nat) (Z0 : n0 ≤ h0.size) (hc4 : ¬ ((p3 &&& (1 : Int32)) = (0 : Int32))) (hc36 : ¬ ((lcmpW q2 (64 : Int64)) < (0 : Int32))) :
    MetFree l x (head1 (Jvm.Cond.code x code maxLocals ret :: ws) room_1) (fun a U => a = #[(.long q1), (.long q2), (.int p3)] ∧ Z.Warmed39 U.vm ∧ U.heap = h0) (fun _ _ _ _ _ => True) (fun _ U o U' => ∃ v L, o = .returned v ∧ Q0_fA Z q1 q2 p3 h0 n0 v U'.heap L ∧ FrameEnd U o U' L room_1.cells room_1.slots) := by
  refine MetFree.of_bodySF (plainFor_of_name pn_0) hisR ?_
  intro p e s m args below meth c s₁ Bd hml0 hP hK
  obtain ⟨rfl, hZ, hh⟩ := hP
  have hx := Bd.exec
  have hby := Bd.bytes
  have hml : c.maxLocals = 9 := hml0
  have hown : s.vm.findClass "org/graftloom/lua/LuaValuesShiftLeftPinLaw" = some m.cls := findClass_of_methodNamed Bd.named
  have hnm := (name_of_methodNamed Bd.named Bd.method).1
  have X0 : Stand p l e room_1 s m #[(.long q1), (.long q2), (.int p3)] below meth c s₁ [] 0 0 := Stand.of_body Bd
  have e0 : s₁.heap = h0 := by rw [← hh, Bd.state]; rfl
  have N0 := Fr.nil n0
  have pre0 : ∀ t, Steps p.tables e below (s₁.setTop (mkF m 0 #[.val (.long q1), .second, .val (.long q2), .second, .val (.int p3), .unset, .unset, .unset, .unset] [])) t → Steps p.tables e below (s₁.setTop (entryFrame m #[(.long q1), (.long q2), (.int p3)] maxLocals)) t := fun t k => castTop (ef_0 m q1 q2 p3) k
  obtain ⟨_, _, ⟨T4, L4, k4, n4⟩, -, X4, ⟨Lc4, hQ4, l4, y4, z4⟩, st4⟩ := Jvm.LawKit.callS X0 hx (y := (⟨"org/graftloom/lua/LuaValues", "shiftLeft", "(JJ)J"⟩ : MethodName)) hown (mvT hZ (hw _ (List.mem_of_getElem? (i := 0) rfl))) (mvT hZ (hw _ (List.mem_of_getElem? (i := 1) rfl))) (mvT hZ (hw _ (List.mem_of_getElem? (i := 2) rfl))) (mvT hZ (hw _ (List.mem_of_getElem? (i := 3) rfl))) (by decide) (backOf (W := 0) (rm1 l Z a0 hw [] q1 q2 h0 n0 Z0) hZ (hw _ (List.mem_of_getElem? (i := 3) rfl)) (hw _ (List.mem_of_getElem? (i := 2) rfl)) (by decide) (by decide)) (g := (mkF m 25 #[.val (.long q1), .second, .val (.long q2), .second, .val (.int p3), .val (.long q2), .second, .unset, .unset] [(.long q2), (.long q1)])) rfl (by rw [hml]; rfl) (argsL := [(.long q1), (.long q2)]) (rest := []) (lenOf pd_0_fA_0 rfl) rfl (by show 2 * 0 + _ ≤ _; exact Nat.le_of_eq rfl) (hb hby at_25) (fun _ _ => ⟨rfl, e0, (by decide : 0 + 0 ≤ _), (by decide : 0 + 0 ≤ _)⟩)
  dsimp only [Pt.U, Pt.locs, Pt.cells, Pt.slots] at X4 l4 y4 z4 st4 hQ4
  subst l4 y4 z4
  obtain ⟨rfl, N4q, e4q⟩ := hQ4
  have N4 := Fr.app N0 N4q
  obtain ⟨fs, hr, hrun, hended, hW, hsame⟩ := X4.leave (v := some (.int (1 : Int32))) (fun h => by rw [Bd.returns] at h; cases h)
  refine ⟨_, _, pre0 _ ?_, hrun, hended, _, _, rfl, ?_, ⟨_, rfl⟩, hW, hsame.mono (by decide) (by decide)⟩
  · show Steps p.tables e below (s₁.setTop (mkF m 0 #[.val (.long q1), .second, .val (.long q2), .second, .val (.int p3), .unset, .unset, .unset, .unset] [])) _
    refine XS.iload X0.here hx rfl (hb hby at_0) rfl ?_
    show Steps p.tables e below (s₁.setTop (mkF m 2 #[.val (.long q1), .second, .val (.long q2), .second, .val (.int p3), .unset, .unset, .unset, .unset] [(.int p3)])) _
    refine XS.iconst X0.here hx rfl (hb hby at_2) ?_
    show Steps p.tables e below (s₁.setTop (mkF m 3 #[.val (.long q1), .second, .val (.long q2), .second, .val (.int p3), .unset, .unset, .unset, .unset] [(.int (1 : Int32)), (.int p3)])) _
    refine XS.iand X0.here hx rfl (hb hby at_3) rfl ?_
    show Steps p.tables e below (s₁.setTop (mkF m 4 #[.val (.long q1), .second, .val (.long q2), .second, .val (.int p3), .unset, .unset, .unset, .unset] [(.int (p3 &&& (1 : Int32)))])) _
    refine XS.ifNo X0.here hx rfl (hb hby at_4) rfl ((if0 _ _).trans (feq hc4).1) ?_
    show Steps p.tables e below (s₁.setTop (mkF m 7 #[.val (.long q1), .second, .val (.long q2), .second, .val (.int p3), .unset, .unset, .unset, .unset] [])) _
    refine XS.lloadN X0.here hx rfl (hb hby at_7) rfl ?_
    show Steps p.tables e below (s₁.setTop (mkF m 8 #[.val (.long q1), .second, .val (.long q2), .second, .val (.int p3), .unset, .unset, .unset, .unset] [(.long q2)])) _
    refine XS.goto X0.here hx rfl (pc0 := 8) (pc' := 20) rfl (hb hby at_8) (by decide) (by decide) ?_
    show Steps p.tables e below (s₁.setTop (mkF m 20 #[.val (.long q1), .second, .val (.long q2), .second, .val (.int p3), .unset, .unset, .unset, .unset] [(.long q2)])) _
    refine XS.lstore X0.here hx rfl (hb hby at_20) rfl (l' := #[.val (.long q1), .second, .val (.long q2), .second, .val (.int p3), .val (.long q2), .second, .unset, .unset]) rfl ?_
    show Steps p.tables e below (s₁.setTop (mkF m 22 #[.val (.long q1), .second, .val (.long q2), .second, .val (.int p3), .val (.long q2), .second, .unset, .unset] [])) _
    refine XS.lloadN X0.here hx rfl (hb hby at_22) rfl ?_
    show Steps p.tables e below (s₁.setTop (mkF m 23 #[.val (.long q1), .second, .val (.long q2), .second, .val (.int p3), .val (.long q2), .second, .unset, .unset] [(.long q1)])) _
    refine XS.lload X0.here hx rfl (hb hby at_23) rfl ?_
    show Steps p.tables e below (s₁.setTop (mkF m 25 #[.val (.long q1), .second, .val (.long q2), .second, .val (.int p3), .val (.long q2), .second, .unset, .unset] [(.long q2), (.long q1)])) _
    refine st4 _ ?_
    show Steps p.tables e below (T4.setTop (mkF m 28 #[.val (.long q1), .second, .val (.long q2), .second, .val (.int p3), .val (.long q2), .second, .unset, .unset] [(.long (own_sh q1 q2))])) _
    refine XS.lstore X4.here hx rfl (hb hby at_28) rfl (l' := #[.val (.long q1), .second, .val (.long q2), .second, .val (.int p3), .val (.long q2), .second, .val (.long (own_sh q1 q2)), .second]) rfl ?_
    show Steps p.tables e below (T4.setTop (mkF m 30 #[.val (.long q1), .second, .val (.long q2), .second, .val (.int p3), .val (.long q2), .second, .val (.long (own_sh q1 q2)), .second] [])) _
    refine XS.lload X4.here hx rfl (hb hby at_30) rfl ?_
    show Steps p.tables e below (T4.setTop (mkF m 32 #[.val (.long q1), .second, .val (.long q2), .second, .val (.int p3), .val (.long q2), .second, .val (.long (own_sh q1 q2)), .second] [(.long q2)])) _
    refine X4.ldc2Long hx hown (mvT hZ (hw _ (List.mem_of_getElem? (i := 6) rfl))) (g := (mkF m 32 #[.val (.long q1), .second, .val (.long q2), .second, .val (.int p3), .val (.long q2), .second, .val (.long (own_sh q1 q2)), .second] [(.long q2)])) rfl (hb hby at_32) _ ?_
    show Steps p.tables e below (T4.setTop (mkF m 35 #[.val (.long q1), .second, .val (.long q2), .second, .val (.int p3), .val (.long q2), .second, .val (.long (own_sh q1 q2)), .second] [(.long (64 : Int64)), (.long q2)])) _
    refine XS.lcmp X4.here hx rfl (hb hby at_35) rfl ?_
    show Steps p.tables e below (T4.setTop (mkF m 36 #[.val (.long q1), .second, .val (.long q2), .second, .val (.int p3), .val (.long q2), .second, .val (.long (own_sh q1 q2)), .second] [(.int (lcmpW q2 (64 : Int64)))])) _
    refine XS.ifYes X4.here hx rfl (pc0 := 36) (pc' := 48) rfl (hb hby at_36) rfl ((if0 _ _).trans (flt hc36).2.1) (by decide) (by decide) ?_
    show Steps p.tables e below (T4.setTop (mkF m 48 #[.val (.long q1), .second, .val (.long q2), .second, .val (.int p3), .val (.long q2), .second, .val (.long (own_sh q1 q2)), .second] [])) _
    refine XS.lload X4.here hx rfl (hb hby at_48) rfl ?_
    show Steps p.tables e below (T4.setTop (mkF m 50 #[.val (.long q1), .second, .val (.long q2), .second, .val (.int p3), .val (.long q2), .second, .val (.long (own_sh q1 q2)), .second] [(.long (own_sh q1 q2))])) _
    refine XS.lconst X4.here hx rfl (hb hby at_50) ?_
    show Steps p.tables e below (T4.setTop (mkF m 51 #[.val (.long q1), .second, .val (.long q2), .second, .val (.int p3), .val (.long q2), .second, .val (.long (own_sh q1 q2)), .second] [(.long (0 : Int64)), (.long (own_sh q1 q2))])) _
    refine XS.lcmp X4.here hx rfl (hb hby at_51) rfl ?_
    show Steps p.tables e below (T4.setTop (mkF m 52 #[.val (.long q1), .second, .val (.long q2), .second, .val (.int p3), .val (.long q2), .second, .val (.long (own_sh q1 q2)), .second] [(.int (lcmpW (own_sh q1 q2) (0 : Int64)))])) _
    refine XS.ifNo X4.here hx rfl (hb hby at_52) rfl ((if0 _ _).trans (teq ((lw_eq _ _).mpr (own_big _ _ (Int64.not_lt.mp fun h => hc36 ((lw_lt _ _).mpr h))) : (lcmpW (own_sh q1 q2) (0 : Int64)) = (0 : Int32))).2) ?_
    show Steps p.tables e below (T4.setTop (mkF m 55 #[.val (.long q1), .second, .val (.long q2), .second, .val (.int p3), .val (.long q2), .second, .val (.long (own_sh q1 q2)), .second] [])) _
    refine XS.iconst X4.here hx rfl (hb hby at_55) ?_
    show Steps p.tables e below (T4.setTop (mkF m 56 #[.val (.long q1), .second, .val (.long q2), .second, .val (.int p3), .val (.long q2), .second, .val (.long (own_sh q1 q2)), .second] [(.int (1 : Int32))])) _
    refine XS.goto X4.here hx rfl (pc0 := 56) (pc' := 60) rfl (hb hby at_56) (by decide) (by decide) ?_
    show Steps p.tables e below (T4.setTop (mkF m 60 #[.val (.long q1), .second, .val (.long q2), .second, .val (.int p3), .val (.long q2), .second, .val (.long (own_sh q1 q2)), .second] [(.int (1 : Int32))])) _
    exact retN X4 hx (t := .boolean) Bd.returns (by simp) (hb hby at_60) hr
  · show Q0_fA Z q1 q2 p3 h0 n0 _ T4.heap _
    exact ⟨rfl, N4⟩
theorem pd_0_fB_0 : parseMethodDescriptor "(JJ)J" = some ⟨[.long, .long], some .long⟩ := by decide +kernel
def Q0_fB (Z : State) (q1 : Int64) (q2 : Int64) (p3 : Int32) (h0 : Heap) (n0 : Nat) (v : Option Value) (h : Heap) (L : List Loc) : Prop := v = some (.int (1 : Int32)) ∧ Fr n0 L
set_option maxRecDepth 65536 in
set_option maxHeartbeats 40000000 in
theorem rm0_fB (l : Launch) (Z : State) (a0 : Array Value) (hw : ∀ d ∈ tables_1, d.before a0 Z = true) (ws : List Jvm.Cond) (q1 : Int64) (q2 : Int64) (p3 : Int32) (h0 : Heap) (n0 : Nat) (Z0 : n0 ≤ h0.size) (hc4 : ¬ ((p3 &&& (1 : Int32)) = (0 : Int32))) (hc36 : (lcmpW q2 (64 : Int64)) < (0 : Int32)) (hc45 : ¬ ((0 : Int32) < (lcmpW q2 (-64 : Int64)))) :
    MetFree l x (head1 (Jvm.Cond.code x code maxLocals ret :: ws) room_1) (fun a U => a = #[(.long q1), (.long q2), (.int p3)] ∧ Z.Warmed39 U.vm ∧ U.heap = h0) (fun _ _ _ _ _ => True) (fun _ U o U' => ∃ v L, o = .returned v ∧ Q0_fB Z q1 q2 p3 h0 n0 v U'.heap L ∧ FrameEnd U o U' L room_1.cells room_1.slots) := by
  refine MetFree.of_bodySF (plainFor_of_name pn_0) hisR ?_
  intro p e s m args below meth c s₁ Bd hml0 hP hK
  obtain ⟨rfl, hZ, hh⟩ := hP
  have hx := Bd.exec
  have hby := Bd.bytes
  have hml : c.maxLocals = 9 := hml0
  have hown : s.vm.findClass "org/graftloom/lua/LuaValuesShiftLeftPinLaw" = some m.cls := findClass_of_methodNamed Bd.named
  have hnm := (name_of_methodNamed Bd.named Bd.method).1
  have X0 : Stand p l e room_1 s m #[(.long q1), (.long q2), (.int p3)] below meth c s₁ [] 0 0 := Stand.of_body Bd
  have e0 : s₁.heap = h0 := by rw [← hh, Bd.state]; rfl
  have N0 := Fr.nil n0
  have pre0 : ∀ t, Steps p.tables e below (s₁.setTop (mkF m 0 #[.val (.long q1), .second, .val (.long q2), .second, .val (.int p3), .unset, .unset, .unset, .unset] [])) t → Steps p.tables e below (s₁.setTop (entryFrame m #[(.long q1), (.long q2), (.int p3)] maxLocals)) t := fun t k => castTop (ef_0 m q1 q2 p3) k
  obtain ⟨_, _, ⟨T4, L4, k4, n4⟩, -, X4, ⟨Lc4, hQ4, l4, y4, z4⟩, st4⟩ := Jvm.LawKit.callS X0 hx (y := (⟨"org/graftloom/lua/LuaValues", "shiftLeft", "(JJ)J"⟩ : MethodName)) hown (mvT hZ (hw _ (List.mem_of_getElem? (i := 0) rfl))) (mvT hZ (hw _ (List.mem_of_getElem? (i := 1) rfl))) (mvT hZ (hw _ (List.mem_of_getElem? (i := 2) rfl))) (mvT hZ (hw _ (List.mem_of_getElem? (i := 3) rfl))) (by decide) (backOf (W := 0) (rm1 l Z a0 hw [] q1 q2 h0 n0 Z0) hZ (hw _ (List.mem_of_getElem? (i := 3) rfl)) (hw _ (List.mem_of_getElem? (i := 2) rfl)) (by decide) (by decide)) (g := (mkF m 25 #[.val (.long q1), .second, .val (.long q2), .second, .val (.int p3), .val (.long q2), .second, .unset, .unset] [(.long q2), (.long q1)])) rfl (by rw [hml]; rfl) (argsL := [(.long q1), (.long q2)]) (rest := []) (lenOf pd_0_fB_0 rfl) rfl (by show 2 * 0 + _ ≤ _; exact Nat.le_of_eq rfl) (hb hby at_25) (fun _ _ => ⟨rfl, e0, (by decide : 0 + 0 ≤ _), (by decide : 0 + 0 ≤ _)⟩)
  dsimp only [Pt.U, Pt.locs, Pt.cells, Pt.slots] at X4 l4 y4 z4 st4 hQ4
  subst l4 y4 z4
  obtain ⟨rfl, N4q, e4q⟩ := hQ4
  have N4 := Fr.app N0 N4q
  obtain ⟨fs, hr, hrun, hended, hW, hsame⟩ := X4.leave (v := some (.int (1 : Int32))) (fun h => by rw [Bd.returns] at h; cases h)
  refine ⟨_, _, pre0 _ ?_, hrun, hended, _, _, rfl, ?_, ⟨_, rfl⟩, hW, hsame.mono (by decide) (by decide)⟩
  · show Steps p.tables e below (s₁.setTop (mkF m 0 #[.val (.long q1), .second, .val (.long q2), .second, .val (.int p3), .unset, .unset, .unset, .unset] [])) _
    refine XS.iload X0.here hx rfl (hb hby at_0) rfl ?_
    show Steps p.tables e below (s₁.setTop (mkF m 2 #[.val (.long q1), .second, .val (.long q2), .second, .val (.int p3), .unset, .unset, .unset, .unset] [(.int p3)])) _
    refine XS.iconst X0.here hx rfl (hb hby at_2) ?_
    show Steps p.tables e below (s₁.setTop (mkF m 3 #[.val (.long q1), .second, .val (.long q2), .second, .val (.int p3), .unset, .unset, .unset, .unset] [(.int (1 : Int32)), (.int p3)])) _
    refine XS.iand X0.here hx rfl (hb hby at_3) rfl ?_
    show Steps p.tables e below (s₁.setTop (mkF m 4 #[.val (.long q1), .second, .val (.long q2), .second, .val (.int p3), .unset, .unset, .unset, .unset] [(.int (p3 &&& (1 : Int32)))])) _
    refine XS.ifNo X0.here hx rfl (hb hby at_4) rfl ((if0 _ _).trans (feq hc4).1) ?_
    show Steps p.tables e below (s₁.setTop (mkF m 7 #[.val (.long q1), .second, .val (.long q2), .second, .val (.int p3), .unset, .unset, .unset, .unset] [])) _
    refine XS.lloadN X0.here hx rfl (hb hby at_7) rfl ?_
    show Steps p.tables e below (s₁.setTop (mkF m 8 #[.val (.long q1), .second, .val (.long q2), .second, .val (.int p3), .unset, .unset, .unset, .unset] [(.long q2)])) _
    refine XS.goto X0.here hx rfl (pc0 := 8) (pc' := 20) rfl (hb hby at_8) (by decide) (by decide) ?_
    show Steps p.tables e below (s₁.setTop (mkF m 20 #[.val (.long q1), .second, .val (.long q2), .second, .val (.int p3), .unset, .unset, .unset, .unset] [(.long q2)])) _
    refine XS.lstore X0.here hx rfl (hb hby at_20) rfl (l' := #[.val (.long q1), .second, .val (.long q2), .second, .val (.int p3), .val (.long q2), .second, .unset, .unset]) rfl ?_
    show Steps p.tables e below (s₁.setTop (mkF m 22 #[.val (.long q1), .second, .val (.long q2), .second, .val (.int p3), .val (.long q2), .second, .unset, .unset] [])) _
    refine XS.lloadN X0.here hx rfl (hb hby at_22) rfl ?_
    show Steps p.tables e below (s₁.setTop (mkF m 23 #[.val (.long q1), .second, .val (.long q2), .second, .val (.int p3), .val (.long q2), .second, .unset, .unset] [(.long q1)])) _
    refine XS.lload X0.here hx rfl (hb hby at_23) rfl ?_
    show Steps p.tables e below (s₁.setTop (mkF m 25 #[.val (.long q1), .second, .val (.long q2), .second, .val (.int p3), .val (.long q2), .second, .unset, .unset] [(.long q2), (.long q1)])) _
    refine st4 _ ?_
    show Steps p.tables e below (T4.setTop (mkF m 28 #[.val (.long q1), .second, .val (.long q2), .second, .val (.int p3), .val (.long q2), .second, .unset, .unset] [(.long (own_sh q1 q2))])) _
    refine XS.lstore X4.here hx rfl (hb hby at_28) rfl (l' := #[.val (.long q1), .second, .val (.long q2), .second, .val (.int p3), .val (.long q2), .second, .val (.long (own_sh q1 q2)), .second]) rfl ?_
    show Steps p.tables e below (T4.setTop (mkF m 30 #[.val (.long q1), .second, .val (.long q2), .second, .val (.int p3), .val (.long q2), .second, .val (.long (own_sh q1 q2)), .second] [])) _
    refine XS.lload X4.here hx rfl (hb hby at_30) rfl ?_
    show Steps p.tables e below (T4.setTop (mkF m 32 #[.val (.long q1), .second, .val (.long q2), .second, .val (.int p3), .val (.long q2), .second, .val (.long (own_sh q1 q2)), .second] [(.long q2)])) _
    refine X4.ldc2Long hx hown (mvT hZ (hw _ (List.mem_of_getElem? (i := 6) rfl))) (g := (mkF m 32 #[.val (.long q1), .second, .val (.long q2), .second, .val (.int p3), .val (.long q2), .second, .val (.long (own_sh q1 q2)), .second] [(.long q2)])) rfl (hb hby at_32) _ ?_
    show Steps p.tables e below (T4.setTop (mkF m 35 #[.val (.long q1), .second, .val (.long q2), .second, .val (.int p3), .val (.long q2), .second, .val (.long (own_sh q1 q2)), .second] [(.long (64 : Int64)), (.long q2)])) _
    refine XS.lcmp X4.here hx rfl (hb hby at_35) rfl ?_
    show Steps p.tables e below (T4.setTop (mkF m 36 #[.val (.long q1), .second, .val (.long q2), .second, .val (.int p3), .val (.long q2), .second, .val (.long (own_sh q1 q2)), .second] [(.int (lcmpW q2 (64 : Int64)))])) _
    refine XS.ifNo X4.here hx rfl (hb hby at_36) rfl ((if0 _ _).trans (tlt hc36).2.1) ?_
    show Steps p.tables e below (T4.setTop (mkF m 39 #[.val (.long q1), .second, .val (.long q2), .second, .val (.int p3), .val (.long q2), .second, .val (.long (own_sh q1 q2)), .second] [])) _
    refine XS.lload X4.here hx rfl (hb hby at_39) rfl ?_
    show Steps p.tables e below (T4.setTop (mkF m 41 #[.val (.long q1), .second, .val (.long q2), .second, .val (.int p3), .val (.long q2), .second, .val (.long (own_sh q1 q2)), .second] [(.long q2)])) _
    refine X4.ldc2Long hx hown (mvT hZ (hw _ (List.mem_of_getElem? (i := 7) rfl))) (g := (mkF m 41 #[.val (.long q1), .second, .val (.long q2), .second, .val (.int p3), .val (.long q2), .second, .val (.long (own_sh q1 q2)), .second] [(.long q2)])) rfl (hb hby at_41) _ ?_
    show Steps p.tables e below (T4.setTop (mkF m 44 #[.val (.long q1), .second, .val (.long q2), .second, .val (.int p3), .val (.long q2), .second, .val (.long (own_sh q1 q2)), .second] [(.long (-64 : Int64)), (.long q2)])) _
    refine XS.lcmp X4.here hx rfl (hb hby at_44) rfl ?_
    show Steps p.tables e below (T4.setTop (mkF m 45 #[.val (.long q1), .second, .val (.long q2), .second, .val (.int p3), .val (.long q2), .second, .val (.long (own_sh q1 q2)), .second] [(.int (lcmpW q2 (-64 : Int64)))])) _
    refine XS.ifNo X4.here hx rfl (hb hby at_45) rfl ((if0 _ _).trans (flt hc45).2.2.1) ?_
    show Steps p.tables e below (T4.setTop (mkF m 48 #[.val (.long q1), .second, .val (.long q2), .second, .val (.int p3), .val (.long q2), .second, .val (.long (own_sh q1 q2)), .second] [])) _
    refine XS.lload X4.here hx rfl (hb hby at_48) rfl ?_
    show Steps p.tables e below (T4.setTop (mkF m 50 #[.val (.long q1), .second, .val (.long q2), .second, .val (.int p3), .val (.long q2), .second, .val (.long (own_sh q1 q2)), .second] [(.long (own_sh q1 q2))])) _
    refine XS.lconst X4.here hx rfl (hb hby at_50) ?_
    show Steps p.tables e below (T4.setTop (mkF m 51 #[.val (.long q1), .second, .val (.long q2), .second, .val (.int p3), .val (.long q2), .second, .val (.long (own_sh q1 q2)), .second] [(.long (0 : Int64)), (.long (own_sh q1 q2))])) _
    refine XS.lcmp X4.here hx rfl (hb hby at_51) rfl ?_
    show Steps p.tables e below (T4.setTop (mkF m 52 #[.val (.long q1), .second, .val (.long q2), .second, .val (.int p3), .val (.long q2), .second, .val (.long (own_sh q1 q2)), .second] [(.int (lcmpW (own_sh q1 q2) (0 : Int64)))])) _
    refine XS.ifNo X4.here hx rfl (hb hby at_52) rfl ((if0 _ _).trans (teq ((lw_eq _ _).mpr (own_small _ _ (Int64.not_lt.mp fun h => hc45 ((lw_gt _ _).mpr h))) : (lcmpW (own_sh q1 q2) (0 : Int64)) = (0 : Int32))).2) ?_
    show Steps p.tables e below (T4.setTop (mkF m 55 #[.val (.long q1), .second, .val (.long q2), .second, .val (.int p3), .val (.long q2), .second, .val (.long (own_sh q1 q2)), .second] [])) _
    refine XS.iconst X4.here hx rfl (hb hby at_55) ?_
    show Steps p.tables e below (T4.setTop (mkF m 56 #[.val (.long q1), .second, .val (.long q2), .second, .val (.int p3), .val (.long q2), .second, .val (.long (own_sh q1 q2)), .second] [(.int (1 : Int32))])) _
    refine XS.goto X4.here hx rfl (pc0 := 56) (pc' := 60) rfl (hb hby at_56) (by decide) (by decide) ?_
    show Steps p.tables e below (T4.setTop (mkF m 60 #[.val (.long q1), .second, .val (.long q2), .second, .val (.int p3), .val (.long q2), .second, .val (.long (own_sh q1 q2)), .second] [(.int (1 : Int32))])) _
    exact retN X4 hx (t := .boolean) Bd.returns (by simp) (hb hby at_60) hr
  · show Q0_fB Z q1 q2 p3 h0 n0 _ T4.heap _
    exact ⟨rfl, N4⟩
theorem pd_0_fC_0 : parseMethodDescriptor "(JJ)J" = some ⟨[.long, .long], some .long⟩ := by decide +kernel
def Q0_fC (Z : State) (q1 : Int64) (q2 : Int64) (p3 : Int32) (h0 : Heap) (n0 : Nat) (v : Option Value) (h : Heap) (L : List Loc) : Prop := v = some (.int (1 : Int32)) ∧ Fr n0 L
set_option maxRecDepth 65536 in
set_option maxHeartbeats 40000000 in
theorem rm0_fC (l : Launch) (Z : State) (a0 : Array Value) (hw : ∀ d ∈ tables_1, d.before a0 Z = true) (ws : List Jvm.Cond) (q1 : Int64) (q2 : Int64) (p3 : Int32) (h0 : Heap) (n0 : Nat) (Z0 : n0 ≤ h0.size) (hc4 : ¬ ((p3 &&& (1 : Int32)) = (0 : Int32))) (hc36 : (lcmpW q2 (64 : Int64)) < (0 : Int32)) (hc45 : (0 : Int32) < (lcmpW q2 (-64 : Int64))) (hc65 : (lcmpW q2 (0 : Int64)) = (0 : Int32)) :
    MetFree l x (head1 (Jvm.Cond.code x code maxLocals ret :: ws) room_1) (fun a U => a = #[(.long q1), (.long q2), (.int p3)] ∧ Z.Warmed39 U.vm ∧ U.heap = h0) (fun _ _ _ _ _ => True) (fun _ U o U' => ∃ v L, o = .returned v ∧ Q0_fC Z q1 q2 p3 h0 n0 v U'.heap L ∧ FrameEnd U o U' L room_1.cells room_1.slots) := by
  refine MetFree.of_bodySF (plainFor_of_name pn_0) hisR ?_
  intro p e s m args below meth c s₁ Bd hml0 hP hK
  obtain ⟨rfl, hZ, hh⟩ := hP
  have hx := Bd.exec
  have hby := Bd.bytes
  have hml : c.maxLocals = 9 := hml0
  have hown : s.vm.findClass "org/graftloom/lua/LuaValuesShiftLeftPinLaw" = some m.cls := findClass_of_methodNamed Bd.named
  have hnm := (name_of_methodNamed Bd.named Bd.method).1
  have X0 : Stand p l e room_1 s m #[(.long q1), (.long q2), (.int p3)] below meth c s₁ [] 0 0 := Stand.of_body Bd
  have e0 : s₁.heap = h0 := by rw [← hh, Bd.state]; rfl
  have N0 := Fr.nil n0
  have pre0 : ∀ t, Steps p.tables e below (s₁.setTop (mkF m 0 #[.val (.long q1), .second, .val (.long q2), .second, .val (.int p3), .unset, .unset, .unset, .unset] [])) t → Steps p.tables e below (s₁.setTop (entryFrame m #[(.long q1), (.long q2), (.int p3)] maxLocals)) t := fun t k => castTop (ef_0 m q1 q2 p3) k
  obtain ⟨_, _, ⟨T4, L4, k4, n4⟩, -, X4, ⟨Lc4, hQ4, l4, y4, z4⟩, st4⟩ := Jvm.LawKit.callS X0 hx (y := (⟨"org/graftloom/lua/LuaValues", "shiftLeft", "(JJ)J"⟩ : MethodName)) hown (mvT hZ (hw _ (List.mem_of_getElem? (i := 0) rfl))) (mvT hZ (hw _ (List.mem_of_getElem? (i := 1) rfl))) (mvT hZ (hw _ (List.mem_of_getElem? (i := 2) rfl))) (mvT hZ (hw _ (List.mem_of_getElem? (i := 3) rfl))) (by decide) (backOf (W := 0) (rm1 l Z a0 hw [] q1 q2 h0 n0 Z0) hZ (hw _ (List.mem_of_getElem? (i := 3) rfl)) (hw _ (List.mem_of_getElem? (i := 2) rfl)) (by decide) (by decide)) (g := (mkF m 25 #[.val (.long q1), .second, .val (.long q2), .second, .val (.int p3), .val (.long q2), .second, .unset, .unset] [(.long q2), (.long q1)])) rfl (by rw [hml]; rfl) (argsL := [(.long q1), (.long q2)]) (rest := []) (lenOf pd_0_fC_0 rfl) rfl (by show 2 * 0 + _ ≤ _; exact Nat.le_of_eq rfl) (hb hby at_25) (fun _ _ => ⟨rfl, e0, (by decide : 0 + 0 ≤ _), (by decide : 0 + 0 ≤ _)⟩)
  dsimp only [Pt.U, Pt.locs, Pt.cells, Pt.slots] at X4 l4 y4 z4 st4 hQ4
  subst l4 y4 z4
  obtain ⟨rfl, N4q, e4q⟩ := hQ4
  have N4 := Fr.app N0 N4q
  obtain ⟨fs, hr, hrun, hended, hW, hsame⟩ := X4.leave (v := some (.int (1 : Int32))) (fun h => by rw [Bd.returns] at h; cases h)
  refine ⟨_, _, pre0 _ ?_, hrun, hended, _, _, rfl, ?_, ⟨_, rfl⟩, hW, hsame.mono (by decide) (by decide)⟩
  · show Steps p.tables e below (s₁.setTop (mkF m 0 #[.val (.long q1), .second, .val (.long q2), .second, .val (.int p3), .unset, .unset, .unset, .unset] [])) _
    refine XS.iload X0.here hx rfl (hb hby at_0) rfl ?_
    show Steps p.tables e below (s₁.setTop (mkF m 2 #[.val (.long q1), .second, .val (.long q2), .second, .val (.int p3), .unset, .unset, .unset, .unset] [(.int p3)])) _
    refine XS.iconst X0.here hx rfl (hb hby at_2) ?_
    show Steps p.tables e below (s₁.setTop (mkF m 3 #[.val (.long q1), .second, .val (.long q2), .second, .val (.int p3), .unset, .unset, .unset, .unset] [(.int (1 : Int32)), (.int p3)])) _
    refine XS.iand X0.here hx rfl (hb hby at_3) rfl ?_
    show Steps p.tables e below (s₁.setTop (mkF m 4 #[.val (.long q1), .second, .val (.long q2), .second, .val (.int p3), .unset, .unset, .unset, .unset] [(.int (p3 &&& (1 : Int32)))])) _
    refine XS.ifNo X0.here hx rfl (hb hby at_4) rfl ((if0 _ _).trans (feq hc4).1) ?_
    show Steps p.tables e below (s₁.setTop (mkF m 7 #[.val (.long q1), .second, .val (.long q2), .second, .val (.int p3), .unset, .unset, .unset, .unset] [])) _
    refine XS.lloadN X0.here hx rfl (hb hby at_7) rfl ?_
    show Steps p.tables e below (s₁.setTop (mkF m 8 #[.val (.long q1), .second, .val (.long q2), .second, .val (.int p3), .unset, .unset, .unset, .unset] [(.long q2)])) _
    refine XS.goto X0.here hx rfl (pc0 := 8) (pc' := 20) rfl (hb hby at_8) (by decide) (by decide) ?_
    show Steps p.tables e below (s₁.setTop (mkF m 20 #[.val (.long q1), .second, .val (.long q2), .second, .val (.int p3), .unset, .unset, .unset, .unset] [(.long q2)])) _
    refine XS.lstore X0.here hx rfl (hb hby at_20) rfl (l' := #[.val (.long q1), .second, .val (.long q2), .second, .val (.int p3), .val (.long q2), .second, .unset, .unset]) rfl ?_
    show Steps p.tables e below (s₁.setTop (mkF m 22 #[.val (.long q1), .second, .val (.long q2), .second, .val (.int p3), .val (.long q2), .second, .unset, .unset] [])) _
    refine XS.lloadN X0.here hx rfl (hb hby at_22) rfl ?_
    show Steps p.tables e below (s₁.setTop (mkF m 23 #[.val (.long q1), .second, .val (.long q2), .second, .val (.int p3), .val (.long q2), .second, .unset, .unset] [(.long q1)])) _
    refine XS.lload X0.here hx rfl (hb hby at_23) rfl ?_
    show Steps p.tables e below (s₁.setTop (mkF m 25 #[.val (.long q1), .second, .val (.long q2), .second, .val (.int p3), .val (.long q2), .second, .unset, .unset] [(.long q2), (.long q1)])) _
    refine st4 _ ?_
    show Steps p.tables e below (T4.setTop (mkF m 28 #[.val (.long q1), .second, .val (.long q2), .second, .val (.int p3), .val (.long q2), .second, .unset, .unset] [(.long (own_sh q1 q2))])) _
    refine XS.lstore X4.here hx rfl (hb hby at_28) rfl (l' := #[.val (.long q1), .second, .val (.long q2), .second, .val (.int p3), .val (.long q2), .second, .val (.long (own_sh q1 q2)), .second]) rfl ?_
    show Steps p.tables e below (T4.setTop (mkF m 30 #[.val (.long q1), .second, .val (.long q2), .second, .val (.int p3), .val (.long q2), .second, .val (.long (own_sh q1 q2)), .second] [])) _
    refine XS.lload X4.here hx rfl (hb hby at_30) rfl ?_
    show Steps p.tables e below (T4.setTop (mkF m 32 #[.val (.long q1), .second, .val (.long q2), .second, .val (.int p3), .val (.long q2), .second, .val (.long (own_sh q1 q2)), .second] [(.long q2)])) _
    refine X4.ldc2Long hx hown (mvT hZ (hw _ (List.mem_of_getElem? (i := 6) rfl))) (g := (mkF m 32 #[.val (.long q1), .second, .val (.long q2), .second, .val (.int p3), .val (.long q2), .second, .val (.long (own_sh q1 q2)), .second] [(.long q2)])) rfl (hb hby at_32) _ ?_
    show Steps p.tables e below (T4.setTop (mkF m 35 #[.val (.long q1), .second, .val (.long q2), .second, .val (.int p3), .val (.long q2), .second, .val (.long (own_sh q1 q2)), .second] [(.long (64 : Int64)), (.long q2)])) _
    refine XS.lcmp X4.here hx rfl (hb hby at_35) rfl ?_
    show Steps p.tables e below (T4.setTop (mkF m 36 #[.val (.long q1), .second, .val (.long q2), .second, .val (.int p3), .val (.long q2), .second, .val (.long (own_sh q1 q2)), .second] [(.int (lcmpW q2 (64 : Int64)))])) _
    refine XS.ifNo X4.here hx rfl (hb hby at_36) rfl ((if0 _ _).trans (tlt hc36).2.1) ?_
    show Steps p.tables e below (T4.setTop (mkF m 39 #[.val (.long q1), .second, .val (.long q2), .second, .val (.int p3), .val (.long q2), .second, .val (.long (own_sh q1 q2)), .second] [])) _
    refine XS.lload X4.here hx rfl (hb hby at_39) rfl ?_
    show Steps p.tables e below (T4.setTop (mkF m 41 #[.val (.long q1), .second, .val (.long q2), .second, .val (.int p3), .val (.long q2), .second, .val (.long (own_sh q1 q2)), .second] [(.long q2)])) _
    refine X4.ldc2Long hx hown (mvT hZ (hw _ (List.mem_of_getElem? (i := 7) rfl))) (g := (mkF m 41 #[.val (.long q1), .second, .val (.long q2), .second, .val (.int p3), .val (.long q2), .second, .val (.long (own_sh q1 q2)), .second] [(.long q2)])) rfl (hb hby at_41) _ ?_
    show Steps p.tables e below (T4.setTop (mkF m 44 #[.val (.long q1), .second, .val (.long q2), .second, .val (.int p3), .val (.long q2), .second, .val (.long (own_sh q1 q2)), .second] [(.long (-64 : Int64)), (.long q2)])) _
    refine XS.lcmp X4.here hx rfl (hb hby at_44) rfl ?_
    show Steps p.tables e below (T4.setTop (mkF m 45 #[.val (.long q1), .second, .val (.long q2), .second, .val (.int p3), .val (.long q2), .second, .val (.long (own_sh q1 q2)), .second] [(.int (lcmpW q2 (-64 : Int64)))])) _
    refine XS.ifYes X4.here hx rfl (pc0 := 45) (pc' := 61) rfl (hb hby at_45) rfl ((if0 _ _).trans (tlt hc45).2.2.1) (by decide) (by decide) ?_
    show Steps p.tables e below (T4.setTop (mkF m 61 #[.val (.long q1), .second, .val (.long q2), .second, .val (.int p3), .val (.long q2), .second, .val (.long (own_sh q1 q2)), .second] [])) _
    refine XS.lload X4.here hx rfl (hb hby at_61) rfl ?_
    show Steps p.tables e below (T4.setTop (mkF m 63 #[.val (.long q1), .second, .val (.long q2), .second, .val (.int p3), .val (.long q2), .second, .val (.long (own_sh q1 q2)), .second] [(.long q2)])) _
    refine XS.lconst X4.here hx rfl (hb hby at_63) ?_
    show Steps p.tables e below (T4.setTop (mkF m 64 #[.val (.long q1), .second, .val (.long q2), .second, .val (.int p3), .val (.long q2), .second, .val (.long (own_sh q1 q2)), .second] [(.long (0 : Int64)), (.long q2)])) _
    refine XS.lcmp X4.here hx rfl (hb hby at_64) rfl ?_
    show Steps p.tables e below (T4.setTop (mkF m 65 #[.val (.long q1), .second, .val (.long q2), .second, .val (.int p3), .val (.long q2), .second, .val (.long (own_sh q1 q2)), .second] [(.int (lcmpW q2 (0 : Int64)))])) _
    refine XS.ifNo X4.here hx rfl (hb hby at_65) rfl ((if0 _ _).trans (teq hc65).2) ?_
    show Steps p.tables e below (T4.setTop (mkF m 68 #[.val (.long q1), .second, .val (.long q2), .second, .val (.int p3), .val (.long q2), .second, .val (.long (own_sh q1 q2)), .second] [])) _
    refine XS.lload X4.here hx rfl (hb hby at_68) rfl ?_
    show Steps p.tables e below (T4.setTop (mkF m 70 #[.val (.long q1), .second, .val (.long q2), .second, .val (.int p3), .val (.long q2), .second, .val (.long (own_sh q1 q2)), .second] [(.long (own_sh q1 q2))])) _
    refine XS.lloadN X4.here hx rfl (hb hby at_70) rfl ?_
    show Steps p.tables e below (T4.setTop (mkF m 71 #[.val (.long q1), .second, .val (.long q2), .second, .val (.int p3), .val (.long q2), .second, .val (.long (own_sh q1 q2)), .second] [(.long q1), (.long (own_sh q1 q2))])) _
    refine XS.lcmp X4.here hx rfl (hb hby at_71) rfl ?_
    show Steps p.tables e below (T4.setTop (mkF m 72 #[.val (.long q1), .second, .val (.long q2), .second, .val (.int p3), .val (.long q2), .second, .val (.long (own_sh q1 q2)), .second] [(.int (lcmpW (own_sh q1 q2) q1))])) _
    refine XS.ifNo X4.here hx rfl (hb hby at_72) rfl ((if0 _ _).trans (teq ((lw_eq _ _).mpr (by have h := ((lw_eq _ _).mp hc65); rw [h]; exact own_zero q1) : (lcmpW (own_sh q1 q2) q1) = (0 : Int32))).2) ?_
    show Steps p.tables e below (T4.setTop (mkF m 75 #[.val (.long q1), .second, .val (.long q2), .second, .val (.int p3), .val (.long q2), .second, .val (.long (own_sh q1 q2)), .second] [])) _
    refine XS.iconst X4.here hx rfl (hb hby at_75) ?_
    show Steps p.tables e below (T4.setTop (mkF m 76 #[.val (.long q1), .second, .val (.long q2), .second, .val (.int p3), .val (.long q2), .second, .val (.long (own_sh q1 q2)), .second] [(.int (1 : Int32))])) _
    refine XS.goto X4.here hx rfl (pc0 := 76) (pc' := 80) rfl (hb hby at_76) (by decide) (by decide) ?_
    show Steps p.tables e below (T4.setTop (mkF m 80 #[.val (.long q1), .second, .val (.long q2), .second, .val (.int p3), .val (.long q2), .second, .val (.long (own_sh q1 q2)), .second] [(.int (1 : Int32))])) _
    exact retN X4 hx (t := .boolean) Bd.returns (by simp) (hb hby at_80) hr
  · show Q0_fC Z q1 q2 p3 h0 n0 _ T4.heap _
    exact ⟨rfl, N4⟩
theorem pd_0_fD_0 : parseMethodDescriptor "(JJ)J" = some ⟨[.long, .long], some .long⟩ := by decide +kernel
def Q0_fD (Z : State) (q1 : Int64) (q2 : Int64) (p3 : Int32) (h0 : Heap) (n0 : Nat) (v : Option Value) (h : Heap) (L : List Loc) : Prop := v = some (.int (1 : Int32)) ∧ Fr n0 L
set_option maxRecDepth 65536 in
set_option maxHeartbeats 40000000 in
theorem rm0_fD (l : Launch) (Z : State) (a0 : Array Value) (hw : ∀ d ∈ tables_1, d.before a0 Z = true) (ws : List Jvm.Cond) (q1 : Int64) (q2 : Int64) (p3 : Int32) (h0 : Heap) (n0 : Nat) (Z0 : n0 ≤ h0.size) (hc4 : ¬ ((p3 &&& (1 : Int32)) = (0 : Int32))) (hc36 : (lcmpW q2 (64 : Int64)) < (0 : Int32)) (hc45 : (0 : Int32) < (lcmpW q2 (-64 : Int64))) (hc65 : ¬ ((lcmpW q2 (0 : Int64)) = (0 : Int32))) (hc85 : (0 : Int32) < (lcmpW q2 (0 : Int64))) :
    MetFree l x (head1 (Jvm.Cond.code x code maxLocals ret :: ws) room_1) (fun a U => a = #[(.long q1), (.long q2), (.int p3)] ∧ Z.Warmed39 U.vm ∧ U.heap = h0) (fun _ _ _ _ _ => True) (fun _ U o U' => ∃ v L, o = .returned v ∧ Q0_fD Z q1 q2 p3 h0 n0 v U'.heap L ∧ FrameEnd U o U' L room_1.cells room_1.slots) := by
  refine MetFree.of_bodySF (plainFor_of_name pn_0) hisR ?_
  intro p e s m args below meth c s₁ Bd hml0 hP hK
  obtain ⟨rfl, hZ, hh⟩ := hP
  have hx := Bd.exec
  have hby := Bd.bytes
  have hml : c.maxLocals = 9 := hml0
  have hown : s.vm.findClass "org/graftloom/lua/LuaValuesShiftLeftPinLaw" = some m.cls := findClass_of_methodNamed Bd.named
  have hnm := (name_of_methodNamed Bd.named Bd.method).1
  have X0 : Stand p l e room_1 s m #[(.long q1), (.long q2), (.int p3)] below meth c s₁ [] 0 0 := Stand.of_body Bd
  have e0 : s₁.heap = h0 := by rw [← hh, Bd.state]; rfl
  have N0 := Fr.nil n0
  have pre0 : ∀ t, Steps p.tables e below (s₁.setTop (mkF m 0 #[.val (.long q1), .second, .val (.long q2), .second, .val (.int p3), .unset, .unset, .unset, .unset] [])) t → Steps p.tables e below (s₁.setTop (entryFrame m #[(.long q1), (.long q2), (.int p3)] maxLocals)) t := fun t k => castTop (ef_0 m q1 q2 p3) k
  obtain ⟨_, _, ⟨T4, L4, k4, n4⟩, -, X4, ⟨Lc4, hQ4, l4, y4, z4⟩, st4⟩ := Jvm.LawKit.callS X0 hx (y := (⟨"org/graftloom/lua/LuaValues", "shiftLeft", "(JJ)J"⟩ : MethodName)) hown (mvT hZ (hw _ (List.mem_of_getElem? (i := 0) rfl))) (mvT hZ (hw _ (List.mem_of_getElem? (i := 1) rfl))) (mvT hZ (hw _ (List.mem_of_getElem? (i := 2) rfl))) (mvT hZ (hw _ (List.mem_of_getElem? (i := 3) rfl))) (by decide) (backOf (W := 0) (rm1 l Z a0 hw [] q1 q2 h0 n0 Z0) hZ (hw _ (List.mem_of_getElem? (i := 3) rfl)) (hw _ (List.mem_of_getElem? (i := 2) rfl)) (by decide) (by decide)) (g := (mkF m 25 #[.val (.long q1), .second, .val (.long q2), .second, .val (.int p3), .val (.long q2), .second, .unset, .unset] [(.long q2), (.long q1)])) rfl (by rw [hml]; rfl) (argsL := [(.long q1), (.long q2)]) (rest := []) (lenOf pd_0_fD_0 rfl) rfl (by show 2 * 0 + _ ≤ _; exact Nat.le_of_eq rfl) (hb hby at_25) (fun _ _ => ⟨rfl, e0, (by decide : 0 + 0 ≤ _), (by decide : 0 + 0 ≤ _)⟩)
  dsimp only [Pt.U, Pt.locs, Pt.cells, Pt.slots] at X4 l4 y4 z4 st4 hQ4
  subst l4 y4 z4
  obtain ⟨rfl, N4q, e4q⟩ := hQ4
  have N4 := Fr.app N0 N4q
  obtain ⟨_, _, ⟨T5, L5, k5, n5⟩, -, X5, ⟨Lc5, hQ5, l5, y5, z5⟩, st5⟩ := Jvm.LawKit.callS X4 hx (y := (⟨"org/graftloom/lua/LuaValues", "shiftLeft", "(JJ)J"⟩ : MethodName)) hown (mvT hZ (hw _ (List.mem_of_getElem? (i := 0) rfl))) (mvT hZ (hw _ (List.mem_of_getElem? (i := 1) rfl))) (mvT hZ (hw _ (List.mem_of_getElem? (i := 2) rfl))) (mvT hZ (hw _ (List.mem_of_getElem? (i := 3) rfl))) (by decide) (backOf (W := 2) (rm1 l Z a0 hw [] q1 (q2 - (1 : Int64)) h0 n0 Z0) hZ (hw _ (List.mem_of_getElem? (i := 3) rfl)) (hw _ (List.mem_of_getElem? (i := 2) rfl)) (by decide) (by decide)) (g := (mkF m 95 #[.val (.long q1), .second, .val (.long q2), .second, .val (.int p3), .val (.long q2), .second, .val (.long (own_sh q1 q2)), .second] [(.long (q2 - (1 : Int64))), (.long q1), (.long (own_sh q1 q2))])) rfl (by rw [hml]; rfl) (argsL := [(.long q1), (.long (q2 - (1 : Int64)))]) (rest := [(.long (own_sh q1 q2))]) (lenOf pd_0_fD_0 rfl) rfl (by show 2 * 0 + _ ≤ _; exact Nat.le_of_eq rfl) (hb hby at_95) (fun _ _ => ⟨rfl, e4q, (by decide : 0 + 0 ≤ _), (by decide : 0 + 0 ≤ _)⟩)
  dsimp only [Pt.U, Pt.locs, Pt.cells, Pt.slots] at X5 l5 y5 z5 st5 hQ5
  subst l5 y5 z5
  obtain ⟨rfl, N5q, e5q⟩ := hQ5
  have N5 := Fr.app N4 N5q
  obtain ⟨fs, hr, hrun, hended, hW, hsame⟩ := X5.leave (v := some (.int (1 : Int32))) (fun h => by rw [Bd.returns] at h; cases h)
  refine ⟨_, _, pre0 _ ?_, hrun, hended, _, _, rfl, ?_, ⟨_, rfl⟩, hW, hsame.mono (by decide) (by decide)⟩
  · show Steps p.tables e below (s₁.setTop (mkF m 0 #[.val (.long q1), .second, .val (.long q2), .second, .val (.int p3), .unset, .unset, .unset, .unset] [])) _
    refine XS.iload X0.here hx rfl (hb hby at_0) rfl ?_
    show Steps p.tables e below (s₁.setTop (mkF m 2 #[.val (.long q1), .second, .val (.long q2), .second, .val (.int p3), .unset, .unset, .unset, .unset] [(.int p3)])) _
    refine XS.iconst X0.here hx rfl (hb hby at_2) ?_
    show Steps p.tables e below (s₁.setTop (mkF m 3 #[.val (.long q1), .second, .val (.long q2), .second, .val (.int p3), .unset, .unset, .unset, .unset] [(.int (1 : Int32)), (.int p3)])) _
    refine XS.iand X0.here hx rfl (hb hby at_3) rfl ?_
    show Steps p.tables e below (s₁.setTop (mkF m 4 #[.val (.long q1), .second, .val (.long q2), .second, .val (.int p3), .unset, .unset, .unset, .unset] [(.int (p3 &&& (1 : Int32)))])) _
    refine XS.ifNo X0.here hx rfl (hb hby at_4) rfl ((if0 _ _).trans (feq hc4).1) ?_
    show Steps p.tables e below (s₁.setTop (mkF m 7 #[.val (.long q1), .second, .val (.long q2), .second, .val (.int p3), .unset, .unset, .unset, .unset] [])) _
    refine XS.lloadN X0.here hx rfl (hb hby at_7) rfl ?_
    show Steps p.tables e below (s₁.setTop (mkF m 8 #[.val (.long q1), .second, .val (.long q2), .second, .val (.int p3), .unset, .unset, .unset, .unset] [(.long q2)])) _
    refine XS.goto X0.here hx rfl (pc0 := 8) (pc' := 20) rfl (hb hby at_8) (by decide) (by decide) ?_
    show Steps p.tables e below (s₁.setTop (mkF m 20 #[.val (.long q1), .second, .val (.long q2), .second, .val (.int p3), .unset, .unset, .unset, .unset] [(.long q2)])) _
    refine XS.lstore X0.here hx rfl (hb hby at_20) rfl (l' := #[.val (.long q1), .second, .val (.long q2), .second, .val (.int p3), .val (.long q2), .second, .unset, .unset]) rfl ?_
    show Steps p.tables e below (s₁.setTop (mkF m 22 #[.val (.long q1), .second, .val (.long q2), .second, .val (.int p3), .val (.long q2), .second, .unset, .unset] [])) _
    refine XS.lloadN X0.here hx rfl (hb hby at_22) rfl ?_
    show Steps p.tables e below (s₁.setTop (mkF m 23 #[.val (.long q1), .second, .val (.long q2), .second, .val (.int p3), .val (.long q2), .second, .unset, .unset] [(.long q1)])) _
    refine XS.lload X0.here hx rfl (hb hby at_23) rfl ?_
    show Steps p.tables e below (s₁.setTop (mkF m 25 #[.val (.long q1), .second, .val (.long q2), .second, .val (.int p3), .val (.long q2), .second, .unset, .unset] [(.long q2), (.long q1)])) _
    refine st4 _ ?_
    show Steps p.tables e below (T4.setTop (mkF m 28 #[.val (.long q1), .second, .val (.long q2), .second, .val (.int p3), .val (.long q2), .second, .unset, .unset] [(.long (own_sh q1 q2))])) _
    refine XS.lstore X4.here hx rfl (hb hby at_28) rfl (l' := #[.val (.long q1), .second, .val (.long q2), .second, .val (.int p3), .val (.long q2), .second, .val (.long (own_sh q1 q2)), .second]) rfl ?_
    show Steps p.tables e below (T4.setTop (mkF m 30 #[.val (.long q1), .second, .val (.long q2), .second, .val (.int p3), .val (.long q2), .second, .val (.long (own_sh q1 q2)), .second] [])) _
    refine XS.lload X4.here hx rfl (hb hby at_30) rfl ?_
    show Steps p.tables e below (T4.setTop (mkF m 32 #[.val (.long q1), .second, .val (.long q2), .second, .val (.int p3), .val (.long q2), .second, .val (.long (own_sh q1 q2)), .second] [(.long q2)])) _
    refine X4.ldc2Long hx hown (mvT hZ (hw _ (List.mem_of_getElem? (i := 6) rfl))) (g := (mkF m 32 #[.val (.long q1), .second, .val (.long q2), .second, .val (.int p3), .val (.long q2), .second, .val (.long (own_sh q1 q2)), .second] [(.long q2)])) rfl (hb hby at_32) _ ?_
    show Steps p.tables e below (T4.setTop (mkF m 35 #[.val (.long q1), .second, .val (.long q2), .second, .val (.int p3), .val (.long q2), .second, .val (.long (own_sh q1 q2)), .second] [(.long (64 : Int64)), (.long q2)])) _
    refine XS.lcmp X4.here hx rfl (hb hby at_35) rfl ?_
    show Steps p.tables e below (T4.setTop (mkF m 36 #[.val (.long q1), .second, .val (.long q2), .second, .val (.int p3), .val (.long q2), .second, .val (.long (own_sh q1 q2)), .second] [(.int (lcmpW q2 (64 : Int64)))])) _
    refine XS.ifNo X4.here hx rfl (hb hby at_36) rfl ((if0 _ _).trans (tlt hc36).2.1) ?_
    show Steps p.tables e below (T4.setTop (mkF m 39 #[.val (.long q1), .second, .val (.long q2), .second, .val (.int p3), .val (.long q2), .second, .val (.long (own_sh q1 q2)), .second] [])) _
    refine XS.lload X4.here hx rfl (hb hby at_39) rfl ?_
    show Steps p.tables e below (T4.setTop (mkF m 41 #[.val (.long q1), .second, .val (.long q2), .second, .val (.int p3), .val (.long q2), .second, .val (.long (own_sh q1 q2)), .second] [(.long q2)])) _
    refine X4.ldc2Long hx hown (mvT hZ (hw _ (List.mem_of_getElem? (i := 7) rfl))) (g := (mkF m 41 #[.val (.long q1), .second, .val (.long q2), .second, .val (.int p3), .val (.long q2), .second, .val (.long (own_sh q1 q2)), .second] [(.long q2)])) rfl (hb hby at_41) _ ?_
    show Steps p.tables e below (T4.setTop (mkF m 44 #[.val (.long q1), .second, .val (.long q2), .second, .val (.int p3), .val (.long q2), .second, .val (.long (own_sh q1 q2)), .second] [(.long (-64 : Int64)), (.long q2)])) _
    refine XS.lcmp X4.here hx rfl (hb hby at_44) rfl ?_
    show Steps p.tables e below (T4.setTop (mkF m 45 #[.val (.long q1), .second, .val (.long q2), .second, .val (.int p3), .val (.long q2), .second, .val (.long (own_sh q1 q2)), .second] [(.int (lcmpW q2 (-64 : Int64)))])) _
    refine XS.ifYes X4.here hx rfl (pc0 := 45) (pc' := 61) rfl (hb hby at_45) rfl ((if0 _ _).trans (tlt hc45).2.2.1) (by decide) (by decide) ?_
    show Steps p.tables e below (T4.setTop (mkF m 61 #[.val (.long q1), .second, .val (.long q2), .second, .val (.int p3), .val (.long q2), .second, .val (.long (own_sh q1 q2)), .second] [])) _
    refine XS.lload X4.here hx rfl (hb hby at_61) rfl ?_
    show Steps p.tables e below (T4.setTop (mkF m 63 #[.val (.long q1), .second, .val (.long q2), .second, .val (.int p3), .val (.long q2), .second, .val (.long (own_sh q1 q2)), .second] [(.long q2)])) _
    refine XS.lconst X4.here hx rfl (hb hby at_63) ?_
    show Steps p.tables e below (T4.setTop (mkF m 64 #[.val (.long q1), .second, .val (.long q2), .second, .val (.int p3), .val (.long q2), .second, .val (.long (own_sh q1 q2)), .second] [(.long (0 : Int64)), (.long q2)])) _
    refine XS.lcmp X4.here hx rfl (hb hby at_64) rfl ?_
    show Steps p.tables e below (T4.setTop (mkF m 65 #[.val (.long q1), .second, .val (.long q2), .second, .val (.int p3), .val (.long q2), .second, .val (.long (own_sh q1 q2)), .second] [(.int (lcmpW q2 (0 : Int64)))])) _
    refine XS.ifYes X4.here hx rfl (pc0 := 65) (pc' := 81) rfl (hb hby at_65) rfl ((if0 _ _).trans (feq hc65).2) (by decide) (by decide) ?_
    show Steps p.tables e below (T4.setTop (mkF m 81 #[.val (.long q1), .second, .val (.long q2), .second, .val (.int p3), .val (.long q2), .second, .val (.long (own_sh q1 q2)), .second] [])) _
    refine XS.lload X4.here hx rfl (hb hby at_81) rfl ?_
    show Steps p.tables e below (T4.setTop (mkF m 83 #[.val (.long q1), .second, .val (.long q2), .second, .val (.int p3), .val (.long q2), .second, .val (.long (own_sh q1 q2)), .second] [(.long q2)])) _
    refine XS.lconst X4.here hx rfl (hb hby at_83) ?_
    show Steps p.tables e below (T4.setTop (mkF m 84 #[.val (.long q1), .second, .val (.long q2), .second, .val (.int p3), .val (.long q2), .second, .val (.long (own_sh q1 q2)), .second] [(.long (0 : Int64)), (.long q2)])) _
    refine XS.lcmp X4.here hx rfl (hb hby at_84) rfl ?_
    show Steps p.tables e below (T4.setTop (mkF m 85 #[.val (.long q1), .second, .val (.long q2), .second, .val (.int p3), .val (.long q2), .second, .val (.long (own_sh q1 q2)), .second] [(.int (lcmpW q2 (0 : Int64)))])) _
    refine XS.ifNo X4.here hx rfl (hb hby at_85) rfl ((if0 _ _).trans (tlt hc85).2.2.2) ?_
    show Steps p.tables e below (T4.setTop (mkF m 88 #[.val (.long q1), .second, .val (.long q2), .second, .val (.int p3), .val (.long q2), .second, .val (.long (own_sh q1 q2)), .second] [])) _
    refine XS.lload X4.here hx rfl (hb hby at_88) rfl ?_
    show Steps p.tables e below (T4.setTop (mkF m 90 #[.val (.long q1), .second, .val (.long q2), .second, .val (.int p3), .val (.long q2), .second, .val (.long (own_sh q1 q2)), .second] [(.long (own_sh q1 q2))])) _
    refine XS.lloadN X4.here hx rfl (hb hby at_90) rfl ?_
    show Steps p.tables e below (T4.setTop (mkF m 91 #[.val (.long q1), .second, .val (.long q2), .second, .val (.int p3), .val (.long q2), .second, .val (.long (own_sh q1 q2)), .second] [(.long q1), (.long (own_sh q1 q2))])) _
    refine XS.lload X4.here hx rfl (hb hby at_91) rfl ?_
    show Steps p.tables e below (T4.setTop (mkF m 93 #[.val (.long q1), .second, .val (.long q2), .second, .val (.int p3), .val (.long q2), .second, .val (.long (own_sh q1 q2)), .second] [(.long q2), (.long q1), (.long (own_sh q1 q2))])) _
    refine XS.lconst X4.here hx rfl (hb hby at_93) ?_
    show Steps p.tables e below (T4.setTop (mkF m 94 #[.val (.long q1), .second, .val (.long q2), .second, .val (.int p3), .val (.long q2), .second, .val (.long (own_sh q1 q2)), .second] [(.long (1 : Int64)), (.long q2), (.long q1), (.long (own_sh q1 q2))])) _
    refine XS.lsub X4.here hx rfl (hb hby at_94) rfl ?_
    show Steps p.tables e below (T4.setTop (mkF m 95 #[.val (.long q1), .second, .val (.long q2), .second, .val (.int p3), .val (.long q2), .second, .val (.long (own_sh q1 q2)), .second] [(.long (q2 - (1 : Int64))), (.long q1), (.long (own_sh q1 q2))])) _
    refine st5 _ ?_
    show Steps p.tables e below (T5.setTop (mkF m 98 #[.val (.long q1), .second, .val (.long q2), .second, .val (.int p3), .val (.long q2), .second, .val (.long (own_sh q1 q2)), .second] [(.long (own_sh q1 (q2 - (1 : Int64)))), (.long (own_sh q1 q2))])) _
    refine X5.ldc2Long hx hown (mvT hZ (hw _ (List.mem_of_getElem? (i := 8) rfl))) (g := (mkF m 98 #[.val (.long q1), .second, .val (.long q2), .second, .val (.int p3), .val (.long q2), .second, .val (.long (own_sh q1 q2)), .second] [(.long (own_sh q1 (q2 - (1 : Int64)))), (.long (own_sh q1 q2))])) rfl (hb hby at_98) _ ?_
    show Steps p.tables e below (T5.setTop (mkF m 101 #[.val (.long q1), .second, .val (.long q2), .second, .val (.int p3), .val (.long q2), .second, .val (.long (own_sh q1 q2)), .second] [(.long (2 : Int64)), (.long (own_sh q1 (q2 - (1 : Int64)))), (.long (own_sh q1 q2))])) _
    refine XS.lmul X5.here hx rfl (hb hby at_101) rfl ?_
    show Steps p.tables e below (T5.setTop (mkF m 102 #[.val (.long q1), .second, .val (.long q2), .second, .val (.int p3), .val (.long q2), .second, .val (.long (own_sh q1 q2)), .second] [(.long ((own_sh q1 (q2 - (1 : Int64))) * (2 : Int64))), (.long (own_sh q1 q2))])) _
    refine XS.lcmp X5.here hx rfl (hb hby at_102) rfl ?_
    show Steps p.tables e below (T5.setTop (mkF m 103 #[.val (.long q1), .second, .val (.long q2), .second, .val (.int p3), .val (.long q2), .second, .val (.long (own_sh q1 q2)), .second] [(.int (lcmpW (own_sh q1 q2) ((own_sh q1 (q2 - (1 : Int64))) * (2 : Int64))))])) _
    refine XS.ifNo X5.here hx rfl (hb hby at_103) rfl ((if0 _ _).trans (teq ((lw_eq _ _).mpr (own_D _ _ ((lw_gt _ _).mp hc85) ((lw_lt _ _).mp hc36)) : (lcmpW (own_sh q1 q2) ((own_sh q1 (q2 - (1 : Int64))) * (2 : Int64))) = (0 : Int32))).2) ?_
    show Steps p.tables e below (T5.setTop (mkF m 106 #[.val (.long q1), .second, .val (.long q2), .second, .val (.int p3), .val (.long q2), .second, .val (.long (own_sh q1 q2)), .second] [])) _
    refine XS.iconst X5.here hx rfl (hb hby at_106) ?_
    show Steps p.tables e below (T5.setTop (mkF m 107 #[.val (.long q1), .second, .val (.long q2), .second, .val (.int p3), .val (.long q2), .second, .val (.long (own_sh q1 q2)), .second] [(.int (1 : Int32))])) _
    refine XS.goto X5.here hx rfl (pc0 := 107) (pc' := 111) rfl (hb hby at_107) (by decide) (by decide) ?_
    show Steps p.tables e below (T5.setTop (mkF m 111 #[.val (.long q1), .second, .val (.long q2), .second, .val (.int p3), .val (.long q2), .second, .val (.long (own_sh q1 q2)), .second] [(.int (1 : Int32))])) _
    exact retN X5 hx (t := .boolean) Bd.returns (by simp) (hb hby at_111) hr
  · show Q0_fD Z q1 q2 p3 h0 n0 _ T5.heap _
    exact ⟨rfl, N5⟩
theorem pd_0_fE_0 : parseMethodDescriptor "(JJ)J" = some ⟨[.long, .long], some .long⟩ := by decide +kernel
theorem pd_0_fE_1 : parseMethodDescriptor "(J)J" = some ⟨[.long], some .long⟩ := by decide +kernel
def Q0_fE (Z : State) (q1 : Int64) (q2 : Int64) (p3 : Int32) (h0 : Heap) (n0 : Nat) (v : Option Value) (h : Heap) (L : List Loc) : Prop := v = some (.int (1 : Int32)) ∧ Fr n0 L
set_option maxRecDepth 65536 in
set_option maxHeartbeats 40000000 in
theorem rm0_fE (l : Launch) (Z : State) (a0 : Array Value) (hw : ∀ d ∈ tables_1, d.before a0 Z = true) (ws : List Jvm.Cond) (q1 : Int64) (q2 : Int64) (p3 : Int32) (h0 : Heap) (n0 : Nat) (Z0 : n0 ≤ h0.size) (hc4 : ¬ ((p3 &&& (1 : Int32)) = (0 : Int32))) (hc36 : (lcmpW q2 (64 : Int64)) < (0 : Int32)) (hc45 : (0 : Int32) < (lcmpW q2 (-64 : Int64))) (hc65 : ¬ ((lcmpW q2 (0 : Int64)) = (0 : Int32))) (hc85 : ¬ ((0 : Int32) < (lcmpW q2 (0 : Int64)))) :
    MetFree l x (head1 (Jvm.Cond.code x code maxLocals ret :: ws) room_1) (fun a U => a = #[(.long q1), (.long q2), (.int p3)] ∧ Z.Warmed39 U.vm ∧ U.heap = h0) (fun _ _ _ _ _ => True) (fun _ U o U' => ∃ v L, o = .returned v ∧ Q0_fE Z q1 q2 p3 h0 n0 v U'.heap L ∧ FrameEnd U o U' L room_1.cells room_1.slots) := by
  refine MetFree.of_bodySF (plainFor_of_name pn_0) hisR ?_
  intro p e s m args below meth c s₁ Bd hml0 hP hK
  obtain ⟨rfl, hZ, hh⟩ := hP
  have hx := Bd.exec
  have hby := Bd.bytes
  have hml : c.maxLocals = 9 := hml0
  have hown : s.vm.findClass "org/graftloom/lua/LuaValuesShiftLeftPinLaw" = some m.cls := findClass_of_methodNamed Bd.named
  have hnm := (name_of_methodNamed Bd.named Bd.method).1
  have X0 : Stand p l e room_1 s m #[(.long q1), (.long q2), (.int p3)] below meth c s₁ [] 0 0 := Stand.of_body Bd
  have e0 : s₁.heap = h0 := by rw [← hh, Bd.state]; rfl
  have N0 := Fr.nil n0
  have pre0 : ∀ t, Steps p.tables e below (s₁.setTop (mkF m 0 #[.val (.long q1), .second, .val (.long q2), .second, .val (.int p3), .unset, .unset, .unset, .unset] [])) t → Steps p.tables e below (s₁.setTop (entryFrame m #[(.long q1), (.long q2), (.int p3)] maxLocals)) t := fun t k => castTop (ef_0 m q1 q2 p3) k
  obtain ⟨_, _, ⟨T4, L4, k4, n4⟩, -, X4, ⟨Lc4, hQ4, l4, y4, z4⟩, st4⟩ := Jvm.LawKit.callS X0 hx (y := (⟨"org/graftloom/lua/LuaValues", "shiftLeft", "(JJ)J"⟩ : MethodName)) hown (mvT hZ (hw _ (List.mem_of_getElem? (i := 0) rfl))) (mvT hZ (hw _ (List.mem_of_getElem? (i := 1) rfl))) (mvT hZ (hw _ (List.mem_of_getElem? (i := 2) rfl))) (mvT hZ (hw _ (List.mem_of_getElem? (i := 3) rfl))) (by decide) (backOf (W := 0) (rm1 l Z a0 hw [] q1 q2 h0 n0 Z0) hZ (hw _ (List.mem_of_getElem? (i := 3) rfl)) (hw _ (List.mem_of_getElem? (i := 2) rfl)) (by decide) (by decide)) (g := (mkF m 25 #[.val (.long q1), .second, .val (.long q2), .second, .val (.int p3), .val (.long q2), .second, .unset, .unset] [(.long q2), (.long q1)])) rfl (by rw [hml]; rfl) (argsL := [(.long q1), (.long q2)]) (rest := []) (lenOf pd_0_fE_0 rfl) rfl (by show 2 * 0 + _ ≤ _; exact Nat.le_of_eq rfl) (hb hby at_25) (fun _ _ => ⟨rfl, e0, (by decide : 0 + 0 ≤ _), (by decide : 0 + 0 ≤ _)⟩)
  dsimp only [Pt.U, Pt.locs, Pt.cells, Pt.slots] at X4 l4 y4 z4 st4 hQ4
  subst l4 y4 z4
  obtain ⟨rfl, N4q, e4q⟩ := hQ4
  have N4 := Fr.app N0 N4q
  obtain ⟨_, _, ⟨T5, L5, k5, n5⟩, -, X5, ⟨Lc5, hQ5, l5, y5, z5⟩, st5⟩ := Jvm.LawKit.callS X4 hx (y := (⟨"org/graftloom/lua/LuaValues", "shiftLeft", "(JJ)J"⟩ : MethodName)) hown (mvT hZ (hw _ (List.mem_of_getElem? (i := 0) rfl))) (mvT hZ (hw _ (List.mem_of_getElem? (i := 1) rfl))) (mvT hZ (hw _ (List.mem_of_getElem? (i := 2) rfl))) (mvT hZ (hw _ (List.mem_of_getElem? (i := 3) rfl))) (by decide) (backOf (W := 2) (rm1 l Z a0 hw [] q1 (q2 + (1 : Int64)) h0 n0 Z0) hZ (hw _ (List.mem_of_getElem? (i := 3) rfl)) (hw _ (List.mem_of_getElem? (i := 2) rfl)) (by decide) (by decide)) (g := (mkF m 119 #[.val (.long q1), .second, .val (.long q2), .second, .val (.int p3), .val (.long q2), .second, .val (.long (own_sh q1 q2)), .second] [(.long (q2 + (1 : Int64))), (.long q1), (.long (own_sh q1 q2))])) rfl (by rw [hml]; rfl) (argsL := [(.long q1), (.long (q2 + (1 : Int64)))]) (rest := [(.long (own_sh q1 q2))]) (lenOf pd_0_fE_0 rfl) rfl (by show 2 * 0 + _ ≤ _; exact Nat.le_of_eq rfl) (hb hby at_119) (fun _ _ => ⟨rfl, e4q, (by decide : 0 + 0 ≤ _), (by decide : 0 + 0 ≤ _)⟩)
  dsimp only [Pt.U, Pt.locs, Pt.cells, Pt.slots] at X5 l5 y5 z5 st5 hQ5
  subst l5 y5 z5
  obtain ⟨rfl, N5q, e5q⟩ := hQ5
  have N5 := Fr.app N4 N5q
  obtain ⟨_, _, ⟨T6, L6, k6, n6⟩, -, X6, ⟨Lc6, hQ6, l6, y6, z6⟩, st6⟩ := Jvm.LawKit.callS X5 hx (y := (⟨"org/graftloom/lua/LuaValuesShiftLeftPinLaw", "half", "(J)J"⟩ : MethodName)) hown (mvT hZ (hw _ (List.mem_of_getElem? (i := 9) rfl))) (mvT hZ (hw _ (List.mem_of_getElem? (i := 10) rfl))) (mvT hZ (hw _ (List.mem_of_getElem? (i := 11) rfl))) (mvT hZ (hw _ (List.mem_of_getElem? (i := 12) rfl))) (by decide) (backOf (W := 2) (rm2 l Z a0 hw [] (own_sh q1 (q2 + (1 : Int64))) h0 n0 Z0) hZ (hw _ (List.mem_of_getElem? (i := 12) rfl)) (hw _ (List.mem_of_getElem? (i := 11) rfl)) (by decide) (by decide)) (g := (mkF m 122 #[.val (.long q1), .second, .val (.long q2), .second, .val (.int p3), .val (.long q2), .second, .val (.long (own_sh q1 q2)), .second] [(.long (own_sh q1 (q2 + (1 : Int64)))), (.long (own_sh q1 q2))])) rfl (by rw [hml]; rfl) (argsL := [(.long (own_sh q1 (q2 + (1 : Int64))))]) (rest := [(.long (own_sh q1 q2))]) (lenOf pd_0_fE_1 rfl) rfl (by show 2 * 0 + _ ≤ _; exact Nat.le_of_eq rfl) (hb hby at_122) (fun _ _ => ⟨rfl, e5q, (by decide : 0 + 0 ≤ _), (by decide : 0 + 0 ≤ _)⟩)
  dsimp only [Pt.U, Pt.locs, Pt.cells, Pt.slots] at X6 l6 y6 z6 st6 hQ6
  subst l6 y6 z6
  obtain ⟨rfl, N6q, e6q⟩ := hQ6
  have N6 := Fr.app N5 N6q
  obtain ⟨fs, hr, hrun, hended, hW, hsame⟩ := X6.leave (v := some (.int (1 : Int32))) (fun h => by rw [Bd.returns] at h; cases h)
  refine ⟨_, _, pre0 _ ?_, hrun, hended, _, _, rfl, ?_, ⟨_, rfl⟩, hW, hsame.mono (by decide) (by decide)⟩
  · show Steps p.tables e below (s₁.setTop (mkF m 0 #[.val (.long q1), .second, .val (.long q2), .second, .val (.int p3), .unset, .unset, .unset, .unset] [])) _
    refine XS.iload X0.here hx rfl (hb hby at_0) rfl ?_
    show Steps p.tables e below (s₁.setTop (mkF m 2 #[.val (.long q1), .second, .val (.long q2), .second, .val (.int p3), .unset, .unset, .unset, .unset] [(.int p3)])) _
    refine XS.iconst X0.here hx rfl (hb hby at_2) ?_
    show Steps p.tables e below (s₁.setTop (mkF m 3 #[.val (.long q1), .second, .val (.long q2), .second, .val (.int p3), .unset, .unset, .unset, .unset] [(.int (1 : Int32)), (.int p3)])) _
    refine XS.iand X0.here hx rfl (hb hby at_3) rfl ?_
    show Steps p.tables e below (s₁.setTop (mkF m 4 #[.val (.long q1), .second, .val (.long q2), .second, .val (.int p3), .unset, .unset, .unset, .unset] [(.int (p3 &&& (1 : Int32)))])) _
    refine XS.ifNo X0.here hx rfl (hb hby at_4) rfl ((if0 _ _).trans (feq hc4).1) ?_
    show Steps p.tables e below (s₁.setTop (mkF m 7 #[.val (.long q1), .second, .val (.long q2), .second, .val (.int p3), .unset, .unset, .unset, .unset] [])) _
    refine XS.lloadN X0.here hx rfl (hb hby at_7) rfl ?_
    show Steps p.tables e below (s₁.setTop (mkF m 8 #[.val (.long q1), .second, .val (.long q2), .second, .val (.int p3), .unset, .unset, .unset, .unset] [(.long q2)])) _
    refine XS.goto X0.here hx rfl (pc0 := 8) (pc' := 20) rfl (hb hby at_8) (by decide) (by decide) ?_
    show Steps p.tables e below (s₁.setTop (mkF m 20 #[.val (.long q1), .second, .val (.long q2), .second, .val (.int p3), .unset, .unset, .unset, .unset] [(.long q2)])) _
    refine XS.lstore X0.here hx rfl (hb hby at_20) rfl (l' := #[.val (.long q1), .second, .val (.long q2), .second, .val (.int p3), .val (.long q2), .second, .unset, .unset]) rfl ?_
    show Steps p.tables e below (s₁.setTop (mkF m 22 #[.val (.long q1), .second, .val (.long q2), .second, .val (.int p3), .val (.long q2), .second, .unset, .unset] [])) _
    refine XS.lloadN X0.here hx rfl (hb hby at_22) rfl ?_
    show Steps p.tables e below (s₁.setTop (mkF m 23 #[.val (.long q1), .second, .val (.long q2), .second, .val (.int p3), .val (.long q2), .second, .unset, .unset] [(.long q1)])) _
    refine XS.lload X0.here hx rfl (hb hby at_23) rfl ?_
    show Steps p.tables e below (s₁.setTop (mkF m 25 #[.val (.long q1), .second, .val (.long q2), .second, .val (.int p3), .val (.long q2), .second, .unset, .unset] [(.long q2), (.long q1)])) _
    refine st4 _ ?_
    show Steps p.tables e below (T4.setTop (mkF m 28 #[.val (.long q1), .second, .val (.long q2), .second, .val (.int p3), .val (.long q2), .second, .unset, .unset] [(.long (own_sh q1 q2))])) _
    refine XS.lstore X4.here hx rfl (hb hby at_28) rfl (l' := #[.val (.long q1), .second, .val (.long q2), .second, .val (.int p3), .val (.long q2), .second, .val (.long (own_sh q1 q2)), .second]) rfl ?_
    show Steps p.tables e below (T4.setTop (mkF m 30 #[.val (.long q1), .second, .val (.long q2), .second, .val (.int p3), .val (.long q2), .second, .val (.long (own_sh q1 q2)), .second] [])) _
    refine XS.lload X4.here hx rfl (hb hby at_30) rfl ?_
    show Steps p.tables e below (T4.setTop (mkF m 32 #[.val (.long q1), .second, .val (.long q2), .second, .val (.int p3), .val (.long q2), .second, .val (.long (own_sh q1 q2)), .second] [(.long q2)])) _
    refine X4.ldc2Long hx hown (mvT hZ (hw _ (List.mem_of_getElem? (i := 6) rfl))) (g := (mkF m 32 #[.val (.long q1), .second, .val (.long q2), .second, .val (.int p3), .val (.long q2), .second, .val (.long (own_sh q1 q2)), .second] [(.long q2)])) rfl (hb hby at_32) _ ?_
    show Steps p.tables e below (T4.setTop (mkF m 35 #[.val (.long q1), .second, .val (.long q2), .second, .val (.int p3), .val (.long q2), .second, .val (.long (own_sh q1 q2)), .second] [(.long (64 : Int64)), (.long q2)])) _
    refine XS.lcmp X4.here hx rfl (hb hby at_35) rfl ?_
    show Steps p.tables e below (T4.setTop (mkF m 36 #[.val (.long q1), .second, .val (.long q2), .second, .val (.int p3), .val (.long q2), .second, .val (.long (own_sh q1 q2)), .second] [(.int (lcmpW q2 (64 : Int64)))])) _
    refine XS.ifNo X4.here hx rfl (hb hby at_36) rfl ((if0 _ _).trans (tlt hc36).2.1) ?_
    show Steps p.tables e below (T4.setTop (mkF m 39 #[.val (.long q1), .second, .val (.long q2), .second, .val (.int p3), .val (.long q2), .second, .val (.long (own_sh q1 q2)), .second] [])) _
    refine XS.lload X4.here hx rfl (hb hby at_39) rfl ?_
    show Steps p.tables e below (T4.setTop (mkF m 41 #[.val (.long q1), .second, .val (.long q2), .second, .val (.int p3), .val (.long q2), .second, .val (.long (own_sh q1 q2)), .second] [(.long q2)])) _
    refine X4.ldc2Long hx hown (mvT hZ (hw _ (List.mem_of_getElem? (i := 7) rfl))) (g := (mkF m 41 #[.val (.long q1), .second, .val (.long q2), .second, .val (.int p3), .val (.long q2), .second, .val (.long (own_sh q1 q2)), .second] [(.long q2)])) rfl (hb hby at_41) _ ?_
    show Steps p.tables e below (T4.setTop (mkF m 44 #[.val (.long q1), .second, .val (.long q2), .second, .val (.int p3), .val (.long q2), .second, .val (.long (own_sh q1 q2)), .second] [(.long (-64 : Int64)), (.long q2)])) _
    refine XS.lcmp X4.here hx rfl (hb hby at_44) rfl ?_
    show Steps p.tables e below (T4.setTop (mkF m 45 #[.val (.long q1), .second, .val (.long q2), .second, .val (.int p3), .val (.long q2), .second, .val (.long (own_sh q1 q2)), .second] [(.int (lcmpW q2 (-64 : Int64)))])) _
    refine XS.ifYes X4.here hx rfl (pc0 := 45) (pc' := 61) rfl (hb hby at_45) rfl ((if0 _ _).trans (tlt hc45).2.2.1) (by decide) (by decide) ?_
    show Steps p.tables e below (T4.setTop (mkF m 61 #[.val (.long q1), .second, .val (.long q2), .second, .val (.int p3), .val (.long q2), .second, .val (.long (own_sh q1 q2)), .second] [])) _
    refine XS.lload X4.here hx rfl (hb hby at_61) rfl ?_
    show Steps p.tables e below (T4.setTop (mkF m 63 #[.val (.long q1), .second, .val (.long q2), .second, .val (.int p3), .val (.long q2), .second, .val (.long (own_sh q1 q2)), .second] [(.long q2)])) _
    refine XS.lconst X4.here hx rfl (hb hby at_63) ?_
    show Steps p.tables e below (T4.setTop (mkF m 64 #[.val (.long q1), .second, .val (.long q2), .second, .val (.int p3), .val (.long q2), .second, .val (.long (own_sh q1 q2)), .second] [(.long (0 : Int64)), (.long q2)])) _
    refine XS.lcmp X4.here hx rfl (hb hby at_64) rfl ?_
    show Steps p.tables e below (T4.setTop (mkF m 65 #[.val (.long q1), .second, .val (.long q2), .second, .val (.int p3), .val (.long q2), .second, .val (.long (own_sh q1 q2)), .second] [(.int (lcmpW q2 (0 : Int64)))])) _
    refine XS.ifYes X4.here hx rfl (pc0 := 65) (pc' := 81) rfl (hb hby at_65) rfl ((if0 _ _).trans (feq hc65).2) (by decide) (by decide) ?_
    show Steps p.tables e below (T4.setTop (mkF m 81 #[.val (.long q1), .second, .val (.long q2), .second, .val (.int p3), .val (.long q2), .second, .val (.long (own_sh q1 q2)), .second] [])) _
    refine XS.lload X4.here hx rfl (hb hby at_81) rfl ?_
    show Steps p.tables e below (T4.setTop (mkF m 83 #[.val (.long q1), .second, .val (.long q2), .second, .val (.int p3), .val (.long q2), .second, .val (.long (own_sh q1 q2)), .second] [(.long q2)])) _
    refine XS.lconst X4.here hx rfl (hb hby at_83) ?_
    show Steps p.tables e below (T4.setTop (mkF m 84 #[.val (.long q1), .second, .val (.long q2), .second, .val (.int p3), .val (.long q2), .second, .val (.long (own_sh q1 q2)), .second] [(.long (0 : Int64)), (.long q2)])) _
    refine XS.lcmp X4.here hx rfl (hb hby at_84) rfl ?_
    show Steps p.tables e below (T4.setTop (mkF m 85 #[.val (.long q1), .second, .val (.long q2), .second, .val (.int p3), .val (.long q2), .second, .val (.long (own_sh q1 q2)), .second] [(.int (lcmpW q2 (0 : Int64)))])) _
    refine XS.ifYes X4.here hx rfl (pc0 := 85) (pc' := 112) rfl (hb hby at_85) rfl ((if0 _ _).trans (flt hc85).2.2.2) (by decide) (by decide) ?_
    show Steps p.tables e below (T4.setTop (mkF m 112 #[.val (.long q1), .second, .val (.long q2), .second, .val (.int p3), .val (.long q2), .second, .val (.long (own_sh q1 q2)), .second] [])) _
    refine XS.lload X4.here hx rfl (hb hby at_112) rfl ?_
    show Steps p.tables e below (T4.setTop (mkF m 114 #[.val (.long q1), .second, .val (.long q2), .second, .val (.int p3), .val (.long q2), .second, .val (.long (own_sh q1 q2)), .second] [(.long (own_sh q1 q2))])) _
    refine XS.lloadN X4.here hx rfl (hb hby at_114) rfl ?_
    show Steps p.tables e below (T4.setTop (mkF m 115 #[.val (.long q1), .second, .val (.long q2), .second, .val (.int p3), .val (.long q2), .second, .val (.long (own_sh q1 q2)), .second] [(.long q1), (.long (own_sh q1 q2))])) _
    refine XS.lload X4.here hx rfl (hb hby at_115) rfl ?_
    show Steps p.tables e below (T4.setTop (mkF m 117 #[.val (.long q1), .second, .val (.long q2), .second, .val (.int p3), .val (.long q2), .second, .val (.long (own_sh q1 q2)), .second] [(.long q2), (.long q1), (.long (own_sh q1 q2))])) _
    refine XS.lconst X4.here hx rfl (hb hby at_117) ?_
    show Steps p.tables e below (T4.setTop (mkF m 118 #[.val (.long q1), .second, .val (.long q2), .second, .val (.int p3), .val (.long q2), .second, .val (.long (own_sh q1 q2)), .second] [(.long (1 : Int64)), (.long q2), (.long q1), (.long (own_sh q1 q2))])) _
    refine XS.ladd X4.here hx rfl (hb hby at_118) rfl ?_
    show Steps p.tables e below (T4.setTop (mkF m 119 #[.val (.long q1), .second, .val (.long q2), .second, .val (.int p3), .val (.long q2), .second, .val (.long (own_sh q1 q2)), .second] [(.long (q2 + (1 : Int64))), (.long q1), (.long (own_sh q1 q2))])) _
    refine st5 _ ?_
    show Steps p.tables e below (T5.setTop (mkF m 122 #[.val (.long q1), .second, .val (.long q2), .second, .val (.int p3), .val (.long q2), .second, .val (.long (own_sh q1 q2)), .second] [(.long (own_sh q1 (q2 + (1 : Int64)))), (.long (own_sh q1 q2))])) _
    refine st6 _ ?_
    show Steps p.tables e below (T6.setTop (mkF m 125 #[.val (.long q1), .second, .val (.long q2), .second, .val (.int p3), .val (.long q2), .second, .val (.long (own_sh q1 q2)), .second] [(.long ((((own_sh q1 (q2 + (1 : Int64))) &&& (-2 : Int64)) / (2 : Int64)) &&& (9223372036854775807 : Int64))), (.long (own_sh q1 q2))])) _
    refine XS.lcmp X6.here hx rfl (hb hby at_125) rfl ?_
    show Steps p.tables e below (T6.setTop (mkF m 126 #[.val (.long q1), .second, .val (.long q2), .second, .val (.int p3), .val (.long q2), .second, .val (.long (own_sh q1 q2)), .second] [(.int (lcmpW (own_sh q1 q2) ((((own_sh q1 (q2 + (1 : Int64))) &&& (-2 : Int64)) / (2 : Int64)) &&& (9223372036854775807 : Int64))))])) _
    refine XS.ifNo X6.here hx rfl (hb hby at_126) rfl ((if0 _ _).trans (teq ((lw_eq _ _).mpr (own_E _ _ (own_lt0 hc65 hc85) ((lw_gt _ _).mp hc45)) : (lcmpW (own_sh q1 q2) ((((own_sh q1 (q2 + (1 : Int64))) &&& (-2 : Int64)) / (2 : Int64)) &&& (9223372036854775807 : Int64))) = (0 : Int32))).2) ?_
    show Steps p.tables e below (T6.setTop (mkF m 129 #[.val (.long q1), .second, .val (.long q2), .second, .val (.int p3), .val (.long q2), .second, .val (.long (own_sh q1 q2)), .second] [])) _
    refine XS.iconst X6.here hx rfl (hb hby at_129) ?_
    show Steps p.tables e below (T6.setTop (mkF m 130 #[.val (.long q1), .second, .val (.long q2), .second, .val (.int p3), .val (.long q2), .second, .val (.long (own_sh q1 q2)), .second] [(.int (1 : Int32))])) _
    refine XS.goto X6.here hx rfl (pc0 := 130) (pc' := 134) rfl (hb hby at_130) (by decide) (by decide) ?_
    show Steps p.tables e below (T6.setTop (mkF m 134 #[.val (.long q1), .second, .val (.long q2), .second, .val (.int p3), .val (.long q2), .second, .val (.long (own_sh q1 q2)), .second] [(.int (1 : Int32))])) _
    exact retN X6 hx (t := .boolean) Bd.returns (by simp) (hb hby at_134) hr
  · show Q0_fE Z q1 q2 p3 h0 n0 _ T6.heap _
    exact ⟨rfl, N6⟩
theorem pd_0_tA_0 : parseMethodDescriptor "(JJ)J" = some ⟨[.long, .long], some .long⟩ := by decide +kernel
def Q0_tA (Z : State) (q1 : Int64) (q2 : Int64) (p3 : Int32) (h0 : Heap) (n0 : Nat) (v : Option Value) (h : Heap) (L : List Loc) : Prop := v = some (.int (1 : Int32)) ∧ Fr n0 L
set_option maxRecDepth 65536 in
set_option maxHeartbeats 40000000 in
theorem rm0_tA (l : Launch) (Z : State) (a0 : Array Value) (hw : ∀ d ∈ tables_1, d.before a0 Z = true) (ws : List Jvm.Cond) (q1 : Int64) (q2 : Int64) (p3 : Int32) (h0 : Heap) (n0 : Nat) (Z0 : n0 ≤ h0.size) (hc4 : (p3 &&& (1 : Int32)) = (0 : Int32)) (hc36 : ¬ ((lcmpW ((own_rem (p3 >>> ((1 : Int32) &&& 31)) (130 : Int32)).toInt64) (64 : Int64)) < (0 : Int32))) :
    MetFree l x (head1 (Jvm.Cond.code x code maxLocals ret :: ws) room_1) (fun a U => a = #[(.long q1), (.long q2), (.int p3)] ∧ Z.Warmed39 U.vm ∧ U.heap = h0) (fun _ _ _ _ _ => True) (fun _ U o U' => ∃ v L, o = .returned v ∧ Q0_tA Z q1 q2 p3 h0 n0 v U'.heap L ∧ FrameEnd U o U' L room_1.cells room_1.slots) := by
  refine MetFree.of_bodySF (plainFor_of_name pn_0) hisR ?_
  intro p e s m args below meth c s₁ Bd hml0 hP hK
  obtain ⟨rfl, hZ, hh⟩ := hP
  have hx := Bd.exec
  have hby := Bd.bytes
  have hml : c.maxLocals = 9 := hml0
  have hown : s.vm.findClass "org/graftloom/lua/LuaValuesShiftLeftPinLaw" = some m.cls := findClass_of_methodNamed Bd.named
  have hnm := (name_of_methodNamed Bd.named Bd.method).1
  have X0 : Stand p l e room_1 s m #[(.long q1), (.long q2), (.int p3)] below meth c s₁ [] 0 0 := Stand.of_body Bd
  have e0 : s₁.heap = h0 := by rw [← hh, Bd.state]; rfl
  have N0 := Fr.nil n0
  have pre0 : ∀ t, Steps p.tables e below (s₁.setTop (mkF m 0 #[.val (.long q1), .second, .val (.long q2), .second, .val (.int p3), .unset, .unset, .unset, .unset] [])) t → Steps p.tables e below (s₁.setTop (entryFrame m #[(.long q1), (.long q2), (.int p3)] maxLocals)) t := fun t k => castTop (ef_0 m q1 q2 p3) k
  obtain ⟨_, _, ⟨T4, L4, k4, n4⟩, -, X4, ⟨Lc4, hQ4, l4, y4, z4⟩, st4⟩ := Jvm.LawKit.callS X0 hx (y := (⟨"org/graftloom/lua/LuaValues", "shiftLeft", "(JJ)J"⟩ : MethodName)) hown (mvT hZ (hw _ (List.mem_of_getElem? (i := 0) rfl))) (mvT hZ (hw _ (List.mem_of_getElem? (i := 1) rfl))) (mvT hZ (hw _ (List.mem_of_getElem? (i := 2) rfl))) (mvT hZ (hw _ (List.mem_of_getElem? (i := 3) rfl))) (by decide) (backOf (W := 0) (rm1 l Z a0 hw [] q1 ((own_rem (p3 >>> ((1 : Int32) &&& 31)) (130 : Int32)).toInt64) h0 n0 Z0) hZ (hw _ (List.mem_of_getElem? (i := 3) rfl)) (hw _ (List.mem_of_getElem? (i := 2) rfl)) (by decide) (by decide)) (g := (mkF m 25 #[.val (.long q1), .second, .val (.long q2), .second, .val (.int p3), .val (.long ((own_rem (p3 >>> ((1 : Int32) &&& 31)) (130 : Int32)).toInt64)), .second, .unset, .unset] [(.long ((own_rem (p3 >>> ((1 : Int32) &&& 31)) (130 : Int32)).toInt64)), (.long q1)])) rfl (by rw [hml]; rfl) (argsL := [(.long q1), (.long ((own_rem (p3 >>> ((1 : Int32) &&& 31)) (130 : Int32)).toInt64))]) (rest := []) (lenOf pd_0_tA_0 rfl) rfl (by show 2 * 0 + _ ≤ _; exact Nat.le_of_eq rfl) (hb hby at_25) (fun _ _ => ⟨rfl, e0, (by decide : 0 + 0 ≤ _), (by decide : 0 + 0 ≤ _)⟩)
  dsimp only [Pt.U, Pt.locs, Pt.cells, Pt.slots] at X4 l4 y4 z4 st4 hQ4
  subst l4 y4 z4
  obtain ⟨rfl, N4q, e4q⟩ := hQ4
  have N4 := Fr.app N0 N4q
  obtain ⟨fs, hr, hrun, hended, hW, hsame⟩ := X4.leave (v := some (.int (1 : Int32))) (fun h => by rw [Bd.returns] at h; cases h)
  refine ⟨_, _, pre0 _ ?_, hrun, hended, _, _, rfl, ?_, ⟨_, rfl⟩, hW, hsame.mono (by decide) (by decide)⟩
  · show Steps p.tables e below (s₁.setTop (mkF m 0 #[.val (.long q1), .second, .val (.long q2), .second, .val (.int p3), .unset, .unset, .unset, .unset] [])) _
    refine XS.iload X0.here hx rfl (hb hby at_0) rfl ?_
    show Steps p.tables e below (s₁.setTop (mkF m 2 #[.val (.long q1), .second, .val (.long q2), .second, .val (.int p3), .unset, .unset, .unset, .unset] [(.int p3)])) _
    refine XS.iconst X0.here hx rfl (hb hby at_2) ?_
    show Steps p.tables e below (s₁.setTop (mkF m 3 #[.val (.long q1), .second, .val (.long q2), .second, .val (.int p3), .unset, .unset, .unset, .unset] [(.int (1 : Int32)), (.int p3)])) _
    refine XS.iand X0.here hx rfl (hb hby at_3) rfl ?_
    show Steps p.tables e below (s₁.setTop (mkF m 4 #[.val (.long q1), .second, .val (.long q2), .second, .val (.int p3), .unset, .unset, .unset, .unset] [(.int (p3 &&& (1 : Int32)))])) _
    refine XS.ifYes X0.here hx rfl (pc0 := 4) (pc' := 11) rfl (hb hby at_4) rfl ((if0 _ _).trans (teq hc4).1) (by decide) (by decide) ?_
    show Steps p.tables e below (s₁.setTop (mkF m 11 #[.val (.long q1), .second, .val (.long q2), .second, .val (.int p3), .unset, .unset, .unset, .unset] [])) _
    refine XS.iload X0.here hx rfl (hb hby at_11) rfl ?_
    show Steps p.tables e below (s₁.setTop (mkF m 13 #[.val (.long q1), .second, .val (.long q2), .second, .val (.int p3), .unset, .unset, .unset, .unset] [(.int p3)])) _
    refine XS.iconst X0.here hx rfl (hb hby at_13) ?_
    show Steps p.tables e below (s₁.setTop (mkF m 14 #[.val (.long q1), .second, .val (.long q2), .second, .val (.int p3), .unset, .unset, .unset, .unset] [(.int (1 : Int32)), (.int p3)])) _
    refine XS.ishr X0.here hx rfl (hb hby at_14) rfl ?_
    show Steps p.tables e below (s₁.setTop (mkF m 15 #[.val (.long q1), .second, .val (.long q2), .second, .val (.int p3), .unset, .unset, .unset, .unset] [(.int (p3 >>> ((1 : Int32) &&& 31)))])) _
    refine XS.sipush X0.here hx rfl (hb hby at_15) ?_
    show Steps p.tables e below (s₁.setTop (mkF m 18 #[.val (.long q1), .second, .val (.long q2), .second, .val (.int p3), .unset, .unset, .unset, .unset] [(.int (130 : Int32)), (.int (p3 >>> ((1 : Int32) &&& 31)))])) _
    refine XS.irem X0.here hx rfl (hb hby at_18) rfl (by decide) ?_
    show Steps p.tables e below (s₁.setTop (mkF m 19 #[.val (.long q1), .second, .val (.long q2), .second, .val (.int p3), .unset, .unset, .unset, .unset] [(.int (own_rem (p3 >>> ((1 : Int32) &&& 31)) (130 : Int32)))])) _
    refine XS.i2l X0.here hx rfl (hb hby at_19) rfl ?_
    show Steps p.tables e below (s₁.setTop (mkF m 20 #[.val (.long q1), .second, .val (.long q2), .second, .val (.int p3), .unset, .unset, .unset, .unset] [(.long ((own_rem (p3 >>> ((1 : Int32) &&& 31)) (130 : Int32)).toInt64))])) _
    refine XS.lstore X0.here hx rfl (hb hby at_20) rfl (l' := #[.val (.long q1), .second, .val (.long q2), .second, .val (.int p3), .val (.long ((own_rem (p3 >>> ((1 : Int32) &&& 31)) (130 : Int32)).toInt64)), .second, .unset, .unset]) rfl ?_
    show Steps p.tables e below (s₁.setTop (mkF m 22 #[.val (.long q1), .second, .val (.long q2), .second, .val (.int p3), .val (.long ((own_rem (p3 >>> ((1 : Int32) &&& 31)) (130 : Int32)).toInt64)), .second, .unset, .unset] [])) _
    refine XS.lloadN X0.here hx rfl (hb hby at_22) rfl ?_
    show Steps p.tables e below (s₁.setTop (mkF m 23 #[.val (.long q1), .second, .val (.long q2), .second, .val (.int p3), .val (.long ((own_rem (p3 >>> ((1 : Int32) &&& 31)) (130 : Int32)).toInt64)), .second, .unset, .unset] [(.long q1)])) _
    refine XS.lload X0.here hx rfl (hb hby at_23) rfl ?_
    show Steps p.tables e below (s₁.setTop (mkF m 25 #[.val (.long q1), .second, .val (.long q2), .second, .val (.int p3), .val (.long ((own_rem (p3 >>> ((1 : Int32) &&& 31)) (130 : Int32)).toInt64)), .second, .unset, .unset] [(.long ((own_rem (p3 >>> ((1 : Int32) &&& 31)) (130 : Int32)).toInt64)), (.long q1)])) _
    refine st4 _ ?_
    show Steps p.tables e below (T4.setTop (mkF m 28 #[.val (.long q1), .second, .val (.long q2), .second, .val (.int p3), .val (.long ((own_rem (p3 >>> ((1 : Int32) &&& 31)) (130 : Int32)).toInt64)), .second, .unset, .unset] [(.long (own_sh q1 ((own_rem (p3 >>> ((1 : Int32) &&& 31)) (130 : Int32)).toInt64)))])) _
    refine XS.lstore X4.here hx rfl (hb hby at_28) rfl (l' := #[.val (.long q1), .second, .val (.long q2), .second, .val (.int p3), .val (.long ((own_rem (p3 >>> ((1 : Int32) &&& 31)) (130 : Int32)).toInt64)), .second, .val (.long (own_sh q1 ((own_rem (p3 >>> ((1 : Int32) &&& 31)) (130 : Int32)).toInt64))), .second]) rfl ?_
    show Steps p.tables e below (T4.setTop (mkF m 30 #[.val (.long q1), .second, .val (.long q2), .second, .val (.int p3), .val (.long ((own_rem (p3 >>> ((1 : Int32) &&& 31)) (130 : Int32)).toInt64)), .second, .val (.long (own_sh q1 ((own_rem (p3 >>> ((1 : Int32) &&& 31)) (130 : Int32)).toInt64))), .second] [])) _
    refine XS.lload X4.here hx rfl (hb hby at_30) rfl ?_
    show Steps p.tables e below (T4.setTop (mkF m 32 #[.val (.long q1), .second, .val (.long q2), .second, .val (.int p3), .val (.long ((own_rem (p3 >>> ((1 : Int32) &&& 31)) (130 : Int32)).toInt64)), .second, .val (.long (own_sh q1 ((own_rem (p3 >>> ((1 : Int32) &&& 31)) (130 : Int32)).toInt64))), .second] [(.long ((own_rem (p3 >>> ((1 : Int32) &&& 31)) (130 : Int32)).toInt64))])) _
    refine X4.ldc2Long hx hown (mvT hZ (hw _ (List.mem_of_getElem? (i := 6) rfl))) (g := (mkF m 32 #[.val (.long q1), .second, .val (.long q2), .second, .val (.int p3), .val (.long ((own_rem (p3 >>> ((1 : Int32) &&& 31)) (130 : Int32)).toInt64)), .second, .val (.long (own_sh q1 ((own_rem (p3 >>> ((1 : Int32) &&& 31)) (130 : Int32)).toInt64))), .second] [(.long ((own_rem (p3 >>> ((1 : Int32) &&& 31)) (130 : Int32)).toInt64))])) rfl (hb hby at_32) _ ?_
    show Steps p.tables e below (T4.setTop (mkF m 35 #[.val (.long q1), .second, .val (.long q2), .second, .val (.int p3), .val (.long ((own_rem (p3 >>> ((1 : Int32) &&& 31)) (130 : Int32)).toInt64)), .second, .val (.long (own_sh q1 ((own_rem (p3 >>> ((1 : Int32) &&& 31)) (130 : Int32)).toInt64))), .second] [(.long (64 : Int64)), (.long ((own_rem (p3 >>> ((1 : Int32) &&& 31)) (130 : Int32)).toInt64))])) _
    refine XS.lcmp X4.here hx rfl (hb hby at_35) rfl ?_
    show Steps p.tables e below (T4.setTop (mkF m 36 #[.val (.long q1), .second, .val (.long q2), .second, .val (.int p3), .val (.long ((own_rem (p3 >>> ((1 : Int32) &&& 31)) (130 : Int32)).toInt64)), .second, .val (.long (own_sh q1 ((own_rem (p3 >>> ((1 : Int32) &&& 31)) (130 : Int32)).toInt64))), .second] [(.int (lcmpW ((own_rem (p3 >>> ((1 : Int32) &&& 31)) (130 : Int32)).toInt64) (64 : Int64)))])) _
    refine XS.ifYes X4.here hx rfl (pc0 := 36) (pc' := 48) rfl (hb hby at_36) rfl ((if0 _ _).trans (flt hc36).2.1) (by decide) (by decide) ?_
    show Steps p.tables e below (T4.setTop (mkF m 48 #[.val (.long q1), .second, .val (.long q2), .second, .val (.int p3), .val (.long ((own_rem (p3 >>> ((1 : Int32) &&& 31)) (130 : Int32)).toInt64)), .second, .val (.long (own_sh q1 ((own_rem (p3 >>> ((1 : Int32) &&& 31)) (130 : Int32)).toInt64))), .second] [])) _
    refine XS.lload X4.here hx rfl (hb hby at_48) rfl ?_
    show Steps p.tables e below (T4.setTop (mkF m 50 #[.val (.long q1), .second, .val (.long q2), .second, .val (.int p3), .val (.long ((own_rem (p3 >>> ((1 : Int32) &&& 31)) (130 : Int32)).toInt64)), .second, .val (.long (own_sh q1 ((own_rem (p3 >>> ((1 : Int32) &&& 31)) (130 : Int32)).toInt64))), .second] [(.long (own_sh q1 ((own_rem (p3 >>> ((1 : Int32) &&& 31)) (130 : Int32)).toInt64)))])) _
    refine XS.lconst X4.here hx rfl (hb hby at_50) ?_
    show Steps p.tables e below (T4.setTop (mkF m 51 #[.val (.long q1), .second, .val (.long q2), .second, .val (.int p3), .val (.long ((own_rem (p3 >>> ((1 : Int32) &&& 31)) (130 : Int32)).toInt64)), .second, .val (.long (own_sh q1 ((own_rem (p3 >>> ((1 : Int32) &&& 31)) (130 : Int32)).toInt64))), .second] [(.long (0 : Int64)), (.long (own_sh q1 ((own_rem (p3 >>> ((1 : Int32) &&& 31)) (130 : Int32)).toInt64)))])) _
    refine XS.lcmp X4.here hx rfl (hb hby at_51) rfl ?_
    show Steps p.tables e below (T4.setTop (mkF m 52 #[.val (.long q1), .second, .val (.long q2), .second, .val (.int p3), .val (.long ((own_rem (p3 >>> ((1 : Int32) &&& 31)) (130 : Int32)).toInt64)), .second, .val (.long (own_sh q1 ((own_rem (p3 >>> ((1 : Int32) &&& 31)) (130 : Int32)).toInt64))), .second] [(.int (lcmpW (own_sh q1 ((own_rem (p3 >>> ((1 : Int32) &&& 31)) (130 : Int32)).toInt64)) (0 : Int64)))])) _
    refine XS.ifNo X4.here hx rfl (hb hby at_52) rfl ((if0 _ _).trans (teq ((lw_eq _ _).mpr (own_big _ _ (Int64.not_lt.mp fun h => hc36 ((lw_lt _ _).mpr h))) : (lcmpW (own_sh q1 ((own_rem (p3 >>> ((1 : Int32) &&& 31)) (130 : Int32)).toInt64)) (0 : Int64)) = (0 : Int32))).2) ?_
    show Steps p.tables e below (T4.setTop (mkF m 55 #[.val (.long q1), .second, .val (.long q2), .second, .val (.int p3), .val (.long ((own_rem (p3 >>> ((1 : Int32) &&& 31)) (130 : Int32)).toInt64)), .second, .val (.long (own_sh q1 ((own_rem (p3 >>> ((1 : Int32) &&& 31)) (130 : Int32)).toInt64))), .second] [])) _
    refine XS.iconst X4.here hx rfl (hb hby at_55) ?_
    show Steps p.tables e below (T4.setTop (mkF m 56 #[.val (.long q1), .second, .val (.long q2), .second, .val (.int p3), .val (.long ((own_rem (p3 >>> ((1 : Int32) &&& 31)) (130 : Int32)).toInt64)), .second, .val (.long (own_sh q1 ((own_rem (p3 >>> ((1 : Int32) &&& 31)) (130 : Int32)).toInt64))), .second] [(.int (1 : Int32))])) _
    refine XS.goto X4.here hx rfl (pc0 := 56) (pc' := 60) rfl (hb hby at_56) (by decide) (by decide) ?_
    show Steps p.tables e below (T4.setTop (mkF m 60 #[.val (.long q1), .second, .val (.long q2), .second, .val (.int p3), .val (.long ((own_rem (p3 >>> ((1 : Int32) &&& 31)) (130 : Int32)).toInt64)), .second, .val (.long (own_sh q1 ((own_rem (p3 >>> ((1 : Int32) &&& 31)) (130 : Int32)).toInt64))), .second] [(.int (1 : Int32))])) _
    exact retN X4 hx (t := .boolean) Bd.returns (by simp) (hb hby at_60) hr
  · show Q0_tA Z q1 q2 p3 h0 n0 _ T4.heap _
    exact ⟨rfl, N4⟩
theorem pd_0_tB_0 : parseMethodDescriptor "(JJ)J" = some ⟨[.long, .long], some .long⟩ := by decide +kernel
def Q0_tB (Z : State) (q1 : Int64) (q2 : Int64) (p3 : Int32) (h0 : Heap) (n0 : Nat) (v : Option Value) (h : Heap) (L : List Loc) : Prop := v = some (.int (1 : Int32)) ∧ Fr n0 L
set_option maxRecDepth 65536 in
set_option maxHeartbeats 40000000 in
theorem rm0_tB (l : Launch) (Z : State) (a0 : Array Value) (hw : ∀ d ∈ tables_1, d.before a0 Z = true) (ws : List Jvm.Cond) (q1 : Int64) (q2 : Int64) (p3 : Int32) (h0 : Heap) (n0 : Nat) (Z0 : n0 ≤ h0.size) (hc4 : (p3 &&& (1 : Int32)) = (0 : Int32)) (hc36 : (lcmpW ((own_rem (p3 >>> ((1 : Int32) &&& 31)) (130 : Int32)).toInt64) (64 : Int64)) < (0 : Int32)) (hc45 : ¬ ((0 : Int32) < (lcmpW ((own_rem (p3 >>> ((1 : Int32) &&& 31)) (130 : Int32)).toInt64) (-64 : Int64)))) :
    MetFree l x (head1 (Jvm.Cond.code x code maxLocals ret :: ws) room_1) (fun a U => a = #[(.long q1), (.long q2), (.int p3)] ∧ Z.Warmed39 U.vm ∧ U.heap = h0) (fun _ _ _ _ _ => True) (fun _ U o U' => ∃ v L, o = .returned v ∧ Q0_tB Z q1 q2 p3 h0 n0 v U'.heap L ∧ FrameEnd U o U' L room_1.cells room_1.slots) := by
  refine MetFree.of_bodySF (plainFor_of_name pn_0) hisR ?_
  intro p e s m args below meth c s₁ Bd hml0 hP hK
  obtain ⟨rfl, hZ, hh⟩ := hP
  have hx := Bd.exec
  have hby := Bd.bytes
  have hml : c.maxLocals = 9 := hml0
  have hown : s.vm.findClass "org/graftloom/lua/LuaValuesShiftLeftPinLaw" = some m.cls := findClass_of_methodNamed Bd.named
  have hnm := (name_of_methodNamed Bd.named Bd.method).1
  have X0 : Stand p l e room_1 s m #[(.long q1), (.long q2), (.int p3)] below meth c s₁ [] 0 0 := Stand.of_body Bd
  have e0 : s₁.heap = h0 := by rw [← hh, Bd.state]; rfl
  have N0 := Fr.nil n0
  have pre0 : ∀ t, Steps p.tables e below (s₁.setTop (mkF m 0 #[.val (.long q1), .second, .val (.long q2), .second, .val (.int p3), .unset, .unset, .unset, .unset] [])) t → Steps p.tables e below (s₁.setTop (entryFrame m #[(.long q1), (.long q2), (.int p3)] maxLocals)) t := fun t k => castTop (ef_0 m q1 q2 p3) k
  obtain ⟨_, _, ⟨T4, L4, k4, n4⟩, -, X4, ⟨Lc4, hQ4, l4, y4, z4⟩, st4⟩ := Jvm.LawKit.callS X0 hx (y := (⟨"org/graftloom/lua/LuaValues", "shiftLeft", "(JJ)J"⟩ : MethodName)) hown (mvT hZ (hw _ (List.mem_of_getElem? (i := 0) rfl))) (mvT hZ (hw _ (List.mem_of_getElem? (i := 1) rfl))) (mvT hZ (hw _ (List.mem_of_getElem? (i := 2) rfl))) (mvT hZ (hw _ (List.mem_of_getElem? (i := 3) rfl))) (by decide) (backOf (W := 0) (rm1 l Z a0 hw [] q1 ((own_rem (p3 >>> ((1 : Int32) &&& 31)) (130 : Int32)).toInt64) h0 n0 Z0) hZ (hw _ (List.mem_of_getElem? (i := 3) rfl)) (hw _ (List.mem_of_getElem? (i := 2) rfl)) (by decide) (by decide)) (g := (mkF m 25 #[.val (.long q1), .second, .val (.long q2), .second, .val (.int p3), .val (.long ((own_rem (p3 >>> ((1 : Int32) &&& 31)) (130 : Int32)).toInt64)), .second, .unset, .unset] [(.long ((own_rem (p3 >>> ((1 : Int32) &&& 31)) (130 : Int32)).toInt64)), (.long q1)])) rfl (by rw [hml]; rfl) (argsL := [(.long q1), (.long ((own_rem (p3 >>> ((1 : Int32) &&& 31)) (130 : Int32)).toInt64))]) (rest := []) (lenOf pd_0_tB_0 rfl) rfl (by show 2 * 0 + _ ≤ _; exact Nat.le_of_eq rfl) (hb hby at_25) (fun _ _ => ⟨rfl, e0, (by decide : 0 + 0 ≤ _), (by decide : 0 + 0 ≤ _)⟩)
  dsimp only [Pt.U, Pt.locs, Pt.cells, Pt.slots] at X4 l4 y4 z4 st4 hQ4
  subst l4 y4 z4
  obtain ⟨rfl, N4q, e4q⟩ := hQ4
  have N4 := Fr.app N0 N4q
  obtain ⟨fs, hr, hrun, hended, hW, hsame⟩ := X4.leave (v := some (.int (1 : Int32))) (fun h => by rw [Bd.returns] at h; cases h)
  refine ⟨_, _, pre0 _ ?_, hrun, hended, _, _, rfl, ?_, ⟨_, rfl⟩, hW, hsame.mono (by decide) (by decide)⟩
  · show Steps p.tables e below (s₁.setTop (mkF m 0 #[.val (.long q1), .second, .val (.long q2), .second, .val (.int p3), .unset, .unset, .unset, .unset] [])) _
    refine XS.iload X0.here hx rfl (hb hby at_0) rfl ?_
    show Steps p.tables e below (s₁.setTop (mkF m 2 #[.val (.long q1), .second, .val (.long q2), .second, .val (.int p3), .unset, .unset, .unset, .unset] [(.int p3)])) _
    refine XS.iconst X0.here hx rfl (hb hby at_2) ?_
    show Steps p.tables e below (s₁.setTop (mkF m 3 #[.val (.long q1), .second, .val (.long q2), .second, .val (.int p3), .unset, .unset, .unset, .unset] [(.int (1 : Int32)), (.int p3)])) _
    refine XS.iand X0.here hx rfl (hb hby at_3) rfl ?_
    show Steps p.tables e below (s₁.setTop (mkF m 4 #[.val (.long q1), .second, .val (.long q2), .second, .val (.int p3), .unset, .unset, .unset, .unset] [(.int (p3 &&& (1 : Int32)))])) _
    refine XS.ifYes X0.here hx rfl (pc0 := 4) (pc' := 11) rfl (hb hby at_4) rfl ((if0 _ _).trans (teq hc4).1) (by decide) (by decide) ?_
    show Steps p.tables e below (s₁.setTop (mkF m 11 #[.val (.long q1), .second, .val (.long q2), .second, .val (.int p3), .unset, .unset, .unset, .unset] [])) _
    refine XS.iload X0.here hx rfl (hb hby at_11) rfl ?_
    show Steps p.tables e below (s₁.setTop (mkF m 13 #[.val (.long q1), .second, .val (.long q2), .second, .val (.int p3), .unset, .unset, .unset, .unset] [(.int p3)])) _
    refine XS.iconst X0.here hx rfl (hb hby at_13) ?_
    show Steps p.tables e below (s₁.setTop (mkF m 14 #[.val (.long q1), .second, .val (.long q2), .second, .val (.int p3), .unset, .unset, .unset, .unset] [(.int (1 : Int32)), (.int p3)])) _
    refine XS.ishr X0.here hx rfl (hb hby at_14) rfl ?_
    show Steps p.tables e below (s₁.setTop (mkF m 15 #[.val (.long q1), .second, .val (.long q2), .second, .val (.int p3), .unset, .unset, .unset, .unset] [(.int (p3 >>> ((1 : Int32) &&& 31)))])) _
    refine XS.sipush X0.here hx rfl (hb hby at_15) ?_
    show Steps p.tables e below (s₁.setTop (mkF m 18 #[.val (.long q1), .second, .val (.long q2), .second, .val (.int p3), .unset, .unset, .unset, .unset] [(.int (130 : Int32)), (.int (p3 >>> ((1 : Int32) &&& 31)))])) _
    refine XS.irem X0.here hx rfl (hb hby at_18) rfl (by decide) ?_
    show Steps p.tables e below (s₁.setTop (mkF m 19 #[.val (.long q1), .second, .val (.long q2), .second, .val (.int p3), .unset, .unset, .unset, .unset] [(.int (own_rem (p3 >>> ((1 : Int32) &&& 31)) (130 : Int32)))])) _
    refine XS.i2l X0.here hx rfl (hb hby at_19) rfl ?_
    show Steps p.tables e below (s₁.setTop (mkF m 20 #[.val (.long q1), .second, .val (.long q2), .second, .val (.int p3), .unset, .unset, .unset, .unset] [(.long ((own_rem (p3 >>> ((1 : Int32) &&& 31)) (130 : Int32)).toInt64))])) _
    refine XS.lstore X0.here hx rfl (hb hby at_20) rfl (l' := #[.val (.long q1), .second, .val (.long q2), .second, .val (.int p3), .val (.long ((own_rem (p3 >>> ((1 : Int32) &&& 31)) (130 : Int32)).toInt64)), .second, .unset, .unset]) rfl ?_
    show Steps p.tables e below (s₁.setTop (mkF m 22 #[.val (.long q1), .second, .val (.long q2), .second, .val (.int p3), .val (.long ((own_rem (p3 >>> ((1 : Int32) &&& 31)) (130 : Int32)).toInt64)), .second, .unset, .unset] [])) _
    refine XS.lloadN X0.here hx rfl (hb hby at_22) rfl ?_
    show Steps p.tables e below (s₁.setTop (mkF m 23 #[.val (.long q1), .second, .val (.long q2), .second, .val (.int p3), .val (.long ((own_rem (p3 >>> ((1 : Int32) &&& 31)) (130 : Int32)).toInt64)), .second, .unset, .unset] [(.long q1)])) _
    refine XS.lload X0.here hx rfl (hb hby at_23) rfl ?_
    show Steps p.tables e below (s₁.setTop (mkF m 25 #[.val (.long q1), .second, .val (.long q2), .second, .val (.int p3), .val (.long ((own_rem (p3 >>> ((1 : Int32) &&& 31)) (130 : Int32)).toInt64)), .second, .unset, .unset] [(.long ((own_rem (p3 >>> ((1 : Int32) &&& 31)) (130 : Int32)).toInt64)), (.long q1)])) _
    refine st4 _ ?_
    show Steps p.tables e below (T4.setTop (mkF m 28 #[.val (.long q1), .second, .val (.long q2), .second, .val (.int p3), .val (.long ((own_rem (p3 >>> ((1 : Int32) &&& 31)) (130 : Int32)).toInt64)), .second, .unset, .unset] [(.long (own_sh q1 ((own_rem (p3 >>> ((1 : Int32) &&& 31)) (130 : Int32)).toInt64)))])) _
    refine XS.lstore X4.here hx rfl (hb hby at_28) rfl (l' := #[.val (.long q1), .second, .val (.long q2), .second, .val (.int p3), .val (.long ((own_rem (p3 >>> ((1 : Int32) &&& 31)) (130 : Int32)).toInt64)), .second, .val (.long (own_sh q1 ((own_rem (p3 >>> ((1 : Int32) &&& 31)) (130 : Int32)).toInt64))), .second]) rfl ?_
    show Steps p.tables e below (T4.setTop (mkF m 30 #[.val (.long q1), .second, .val (.long q2), .second, .val (.int p3), .val (.long ((own_rem (p3 >>> ((1 : Int32) &&& 31)) (130 : Int32)).toInt64)), .second, .val (.long (own_sh q1 ((own_rem (p3 >>> ((1 : Int32) &&& 31)) (130 : Int32)).toInt64))), .second] [])) _
    refine XS.lload X4.here hx rfl (hb hby at_30) rfl ?_
    show Steps p.tables e below (T4.setTop (mkF m 32 #[.val (.long q1), .second, .val (.long q2), .second, .val (.int p3), .val (.long ((own_rem (p3 >>> ((1 : Int32) &&& 31)) (130 : Int32)).toInt64)), .second, .val (.long (own_sh q1 ((own_rem (p3 >>> ((1 : Int32) &&& 31)) (130 : Int32)).toInt64))), .second] [(.long ((own_rem (p3 >>> ((1 : Int32) &&& 31)) (130 : Int32)).toInt64))])) _
    refine X4.ldc2Long hx hown (mvT hZ (hw _ (List.mem_of_getElem? (i := 6) rfl))) (g := (mkF m 32 #[.val (.long q1), .second, .val (.long q2), .second, .val (.int p3), .val (.long ((own_rem (p3 >>> ((1 : Int32) &&& 31)) (130 : Int32)).toInt64)), .second, .val (.long (own_sh q1 ((own_rem (p3 >>> ((1 : Int32) &&& 31)) (130 : Int32)).toInt64))), .second] [(.long ((own_rem (p3 >>> ((1 : Int32) &&& 31)) (130 : Int32)).toInt64))])) rfl (hb hby at_32) _ ?_
    show Steps p.tables e below (T4.setTop (mkF m 35 #[.val (.long q1), .second, .val (.long q2), .second, .val (.int p3), .val (.long ((own_rem (p3 >>> ((1 : Int32) &&& 31)) (130 : Int32)).toInt64)), .second, .val (.long (own_sh q1 ((own_rem (p3 >>> ((1 : Int32) &&& 31)) (130 : Int32)).toInt64))), .second] [(.long (64 : Int64)), (.long ((own_rem (p3 >>> ((1 : Int32) &&& 31)) (130 : Int32)).toInt64))])) _
    refine XS.lcmp X4.here hx rfl (hb hby at_35) rfl ?_
    show Steps p.tables e below (T4.setTop (mkF m 36 #[.val (.long q1), .second, .val (.long q2), .second, .val (.int p3), .val (.long ((own_rem (p3 >>> ((1 : Int32) &&& 31)) (130 : Int32)).toInt64)), .second, .val (.long (own_sh q1 ((own_rem (p3 >>> ((1 : Int32) &&& 31)) (130 : Int32)).toInt64))), .second] [(.int (lcmpW ((own_rem (p3 >>> ((1 : Int32) &&& 31)) (130 : Int32)).toInt64) (64 : Int64)))])) _
    refine XS.ifNo X4.here hx rfl (hb hby at_36) rfl ((if0 _ _).trans (tlt hc36).2.1) ?_
    show Steps p.tables e below (T4.setTop (mkF m 39 #[.val (.long q1), .second, .val (.long q2), .second, .val (.int p3), .val (.long ((own_rem (p3 >>> ((1 : Int32) &&& 31)) (130 : Int32)).toInt64)), .second, .val (.long (own_sh q1 ((own_rem (p3 >>> ((1 : Int32) &&& 31)) (130 : Int32)).toInt64))), .second] [])) _
    refine XS.lload X4.here hx rfl (hb hby at_39) rfl ?_
    show Steps p.tables e below (T4.setTop (mkF m 41 #[.val (.long q1), .second, .val (.long q2), .second, .val (.int p3), .val (.long ((own_rem (p3 >>> ((1 : Int32) &&& 31)) (130 : Int32)).toInt64)), .second, .val (.long (own_sh q1 ((own_rem (p3 >>> ((1 : Int32) &&& 31)) (130 : Int32)).toInt64))), .second] [(.long ((own_rem (p3 >>> ((1 : Int32) &&& 31)) (130 : Int32)).toInt64))])) _
    refine X4.ldc2Long hx hown (mvT hZ (hw _ (List.mem_of_getElem? (i := 7) rfl))) (g := (mkF m 41 #[.val (.long q1), .second, .val (.long q2), .second, .val (.int p3), .val (.long ((own_rem (p3 >>> ((1 : Int32) &&& 31)) (130 : Int32)).toInt64)), .second, .val (.long (own_sh q1 ((own_rem (p3 >>> ((1 : Int32) &&& 31)) (130 : Int32)).toInt64))), .second] [(.long ((own_rem (p3 >>> ((1 : Int32) &&& 31)) (130 : Int32)).toInt64))])) rfl (hb hby at_41) _ ?_
    show Steps p.tables e below (T4.setTop (mkF m 44 #[.val (.long q1), .second, .val (.long q2), .second, .val (.int p3), .val (.long ((own_rem (p3 >>> ((1 : Int32) &&& 31)) (130 : Int32)).toInt64)), .second, .val (.long (own_sh q1 ((own_rem (p3 >>> ((1 : Int32) &&& 31)) (130 : Int32)).toInt64))), .second] [(.long (-64 : Int64)), (.long ((own_rem (p3 >>> ((1 : Int32) &&& 31)) (130 : Int32)).toInt64))])) _
    refine XS.lcmp X4.here hx rfl (hb hby at_44) rfl ?_
    show Steps p.tables e below (T4.setTop (mkF m 45 #[.val (.long q1), .second, .val (.long q2), .second, .val (.int p3), .val (.long ((own_rem (p3 >>> ((1 : Int32) &&& 31)) (130 : Int32)).toInt64)), .second, .val (.long (own_sh q1 ((own_rem (p3 >>> ((1 : Int32) &&& 31)) (130 : Int32)).toInt64))), .second] [(.int (lcmpW ((own_rem (p3 >>> ((1 : Int32) &&& 31)) (130 : Int32)).toInt64) (-64 : Int64)))])) _
    refine XS.ifNo X4.here hx rfl (hb hby at_45) rfl ((if0 _ _).trans (flt hc45).2.2.1) ?_
    show Steps p.tables e below (T4.setTop (mkF m 48 #[.val (.long q1), .second, .val (.long q2), .second, .val (.int p3), .val (.long ((own_rem (p3 >>> ((1 : Int32) &&& 31)) (130 : Int32)).toInt64)), .second, .val (.long (own_sh q1 ((own_rem (p3 >>> ((1 : Int32) &&& 31)) (130 : Int32)).toInt64))), .second] [])) _
    refine XS.lload X4.here hx rfl (hb hby at_48) rfl ?_
    show Steps p.tables e below (T4.setTop (mkF m 50 #[.val (.long q1), .second, .val (.long q2), .second, .val (.int p3), .val (.long ((own_rem (p3 >>> ((1 : Int32) &&& 31)) (130 : Int32)).toInt64)), .second, .val (.long (own_sh q1 ((own_rem (p3 >>> ((1 : Int32) &&& 31)) (130 : Int32)).toInt64))), .second] [(.long (own_sh q1 ((own_rem (p3 >>> ((1 : Int32) &&& 31)) (130 : Int32)).toInt64)))])) _
    refine XS.lconst X4.here hx rfl (hb hby at_50) ?_
    show Steps p.tables e below (T4.setTop (mkF m 51 #[.val (.long q1), .second, .val (.long q2), .second, .val (.int p3), .val (.long ((own_rem (p3 >>> ((1 : Int32) &&& 31)) (130 : Int32)).toInt64)), .second, .val (.long (own_sh q1 ((own_rem (p3 >>> ((1 : Int32) &&& 31)) (130 : Int32)).toInt64))), .second] [(.long (0 : Int64)), (.long (own_sh q1 ((own_rem (p3 >>> ((1 : Int32) &&& 31)) (130 : Int32)).toInt64)))])) _
    refine XS.lcmp X4.here hx rfl (hb hby at_51) rfl ?_
    show Steps p.tables e below (T4.setTop (mkF m 52 #[.val (.long q1), .second, .val (.long q2), .second, .val (.int p3), .val (.long ((own_rem (p3 >>> ((1 : Int32) &&& 31)) (130 : Int32)).toInt64)), .second, .val (.long (own_sh q1 ((own_rem (p3 >>> ((1 : Int32) &&& 31)) (130 : Int32)).toInt64))), .second] [(.int (lcmpW (own_sh q1 ((own_rem (p3 >>> ((1 : Int32) &&& 31)) (130 : Int32)).toInt64)) (0 : Int64)))])) _
    refine XS.ifNo X4.here hx rfl (hb hby at_52) rfl ((if0 _ _).trans (teq ((lw_eq _ _).mpr (own_small _ _ (Int64.not_lt.mp fun h => hc45 ((lw_gt _ _).mpr h))) : (lcmpW (own_sh q1 ((own_rem (p3 >>> ((1 : Int32) &&& 31)) (130 : Int32)).toInt64)) (0 : Int64)) = (0 : Int32))).2) ?_
    show Steps p.tables e below (T4.setTop (mkF m 55 #[.val (.long q1), .second, .val (.long q2), .second, .val (.int p3), .val (.long ((own_rem (p3 >>> ((1 : Int32) &&& 31)) (130 : Int32)).toInt64)), .second, .val (.long (own_sh q1 ((own_rem (p3 >>> ((1 : Int32) &&& 31)) (130 : Int32)).toInt64))), .second] [])) _
    refine XS.iconst X4.here hx rfl (hb hby at_55) ?_
    show Steps p.tables e below (T4.setTop (mkF m 56 #[.val (.long q1), .second, .val (.long q2), .second, .val (.int p3), .val (.long ((own_rem (p3 >>> ((1 : Int32) &&& 31)) (130 : Int32)).toInt64)), .second, .val (.long (own_sh q1 ((own_rem (p3 >>> ((1 : Int32) &&& 31)) (130 : Int32)).toInt64))), .second] [(.int (1 : Int32))])) _
    refine XS.goto X4.here hx rfl (pc0 := 56) (pc' := 60) rfl (hb hby at_56) (by decide) (by decide) ?_
    show Steps p.tables e below (T4.setTop (mkF m 60 #[.val (.long q1), .second, .val (.long q2), .second, .val (.int p3), .val (.long ((own_rem (p3 >>> ((1 : Int32) &&& 31)) (130 : Int32)).toInt64)), .second, .val (.long (own_sh q1 ((own_rem (p3 >>> ((1 : Int32) &&& 31)) (130 : Int32)).toInt64))), .second] [(.int (1 : Int32))])) _
    exact retN X4 hx (t := .boolean) Bd.returns (by simp) (hb hby at_60) hr
  · show Q0_tB Z q1 q2 p3 h0 n0 _ T4.heap _
    exact ⟨rfl, N4⟩
theorem pd_0_tC_0 : parseMethodDescriptor "(JJ)J" = some ⟨[.long, .long], some .long⟩ := by decide +kernel
def Q0_tC (Z : State) (q1 : Int64) (q2 : Int64) (p3 : Int32) (h0 : Heap) (n0 : Nat) (v : Option Value) (h : Heap) (L : List Loc) : Prop := v = some (.int (1 : Int32)) ∧ Fr n0 L
set_option maxRecDepth 65536 in
set_option maxHeartbeats 40000000 in
theorem rm0_tC (l : Launch) (Z : State) (a0 : Array Value) (hw : ∀ d ∈ tables_1, d.before a0 Z = true) (ws : List Jvm.Cond) (q1 : Int64) (q2 : Int64) (p3 : Int32) (h0 : Heap) (n0 : Nat) (Z0 : n0 ≤ h0.size) (hc4 : (p3 &&& (1 : Int32)) = (0 : Int32)) (hc36 : (lcmpW ((own_rem (p3 >>> ((1 : Int32) &&& 31)) (130 : Int32)).toInt64) (64 : Int64)) < (0 : Int32)) (hc45 : (0 : Int32) < (lcmpW ((own_rem (p3 >>> ((1 : Int32) &&& 31)) (130 : Int32)).toInt64) (-64 : Int64))) (hc65 : (lcmpW ((own_rem (p3 >>> ((1 : Int32) &&& 31)) (130 : Int32)).toInt64) (0 : Int64)) = (0 : Int32)) :
    MetFree l x (head1 (Jvm.Cond.code x code maxLocals ret :: ws) room_1) (fun a U => a = #[(.long q1), (.long q2), (.int p3)] ∧ Z.Warmed39 U.vm ∧ U.heap = h0) (fun _ _ _ _ _ => True) (fun _ U o U' => ∃ v L, o = .returned v ∧ Q0_tC Z q1 q2 p3 h0 n0 v U'.heap L ∧ FrameEnd U o U' L room_1.cells room_1.slots) := by
  refine MetFree.of_bodySF (plainFor_of_name pn_0) hisR ?_
  intro p e s m args below meth c s₁ Bd hml0 hP hK
  obtain ⟨rfl, hZ, hh⟩ := hP
  have hx := Bd.exec
  have hby := Bd.bytes
  have hml : c.maxLocals = 9 := hml0
  have hown : s.vm.findClass "org/graftloom/lua/LuaValuesShiftLeftPinLaw" = some m.cls := findClass_of_methodNamed Bd.named
  have hnm := (name_of_methodNamed Bd.named Bd.method).1
  have X0 : Stand p l e room_1 s m #[(.long q1), (.long q2), (.int p3)] below meth c s₁ [] 0 0 := Stand.of_body Bd
  have e0 : s₁.heap = h0 := by rw [← hh, Bd.state]; rfl
  have N0 := Fr.nil n0
  have pre0 : ∀ t, Steps p.tables e below (s₁.setTop (mkF m 0 #[.val (.long q1), .second, .val (.long q2), .second, .val (.int p3), .unset, .unset, .unset, .unset] [])) t → Steps p.tables e below (s₁.setTop (entryFrame m #[(.long q1), (.long q2), (.int p3)] maxLocals)) t := fun t k => castTop (ef_0 m q1 q2 p3) k
  obtain ⟨_, _, ⟨T4, L4, k4, n4⟩, -, X4, ⟨Lc4, hQ4, l4, y4, z4⟩, st4⟩ := Jvm.LawKit.callS X0 hx (y := (⟨"org/graftloom/lua/LuaValues", "shiftLeft", "(JJ)J"⟩ : MethodName)) hown (mvT hZ (hw _ (List.mem_of_getElem? (i := 0) rfl))) (mvT hZ (hw _ (List.mem_of_getElem? (i := 1) rfl))) (mvT hZ (hw _ (List.mem_of_getElem? (i := 2) rfl))) (mvT hZ (hw _ (List.mem_of_getElem? (i := 3) rfl))) (by decide) (backOf (W := 0) (rm1 l Z a0 hw [] q1 ((own_rem (p3 >>> ((1 : Int32) &&& 31)) (130 : Int32)).toInt64) h0 n0 Z0) hZ (hw _ (List.mem_of_getElem? (i := 3) rfl)) (hw _ (List.mem_of_getElem? (i := 2) rfl)) (by decide) (by decide)) (g := (mkF m 25 #[.val (.long q1), .second, .val (.long q2), .second, .val (.int p3), .val (.long ((own_rem (p3 >>> ((1 : Int32) &&& 31)) (130 : Int32)).toInt64)), .second, .unset, .unset] [(.long ((own_rem (p3 >>> ((1 : Int32) &&& 31)) (130 : Int32)).toInt64)), (.long q1)])) rfl (by rw [hml]; rfl) (argsL := [(.long q1), (.long ((own_rem (p3 >>> ((1 : Int32) &&& 31)) (130 : Int32)).toInt64))]) (rest := []) (lenOf pd_0_tC_0 rfl) rfl (by show 2 * 0 + _ ≤ _; exact Nat.le_of_eq rfl) (hb hby at_25) (fun _ _ => ⟨rfl, e0, (by decide : 0 + 0 ≤ _), (by decide : 0 + 0 ≤ _)⟩)
  dsimp only [Pt.U, Pt.locs, Pt.cells, Pt.slots] at X4 l4 y4 z4 st4 hQ4
  subst l4 y4 z4
  obtain ⟨rfl, N4q, e4q⟩ := hQ4
  have N4 := Fr.app N0 N4q
  obtain ⟨fs, hr, hrun, hended, hW, hsame⟩ := X4.leave (v := some (.int (1 : Int32))) (fun h => by rw [Bd.returns] at h; cases h)
  refine ⟨_, _, pre0 _ ?_, hrun, hended, _, _, rfl, ?_, ⟨_, rfl⟩, hW, hsame.mono (by decide) (by decide)⟩
  · show Steps p.tables e below (s₁.setTop (mkF m 0 #[.val (.long q1), .second, .val (.long q2), .second, .val (.int p3), .unset, .unset, .unset, .unset] [])) _
    refine XS.iload X0.here hx rfl (hb hby at_0) rfl ?_
    show Steps p.tables e below (s₁.setTop (mkF m 2 #[.val (.long q1), .second, .val (.long q2), .second, .val (.int p3), .unset, .unset, .unset, .unset] [(.int p3)])) _
    refine XS.iconst X0.here hx rfl (hb hby at_2) ?_
    show Steps p.tables e below (s₁.setTop (mkF m 3 #[.val (.long q1), .second, .val (.long q2), .second, .val (.int p3), .unset, .unset, .unset, .unset] [(.int (1 : Int32)), (.int p3)])) _
    refine XS.iand X0.here hx rfl (hb hby at_3) rfl ?_
    show Steps p.tables e below (s₁.setTop (mkF m 4 #[.val (.long q1), .second, .val (.long q2), .second, .val (.int p3), .unset, .unset, .unset, .unset] [(.int (p3 &&& (1 : Int32)))])) _
    refine XS.ifYes X0.here hx rfl (pc0 := 4) (pc' := 11) rfl (hb hby at_4) rfl ((if0 _ _).trans (teq hc4).1) (by decide) (by decide) ?_
    show Steps p.tables e below (s₁.setTop (mkF m 11 #[.val (.long q1), .second, .val (.long q2), .second, .val (.int p3), .unset, .unset, .unset, .unset] [])) _
    refine XS.iload X0.here hx rfl (hb hby at_11) rfl ?_
    show Steps p.tables e below (s₁.setTop (mkF m 13 #[.val (.long q1), .second, .val (.long q2), .second, .val (.int p3), .unset, .unset, .unset, .unset] [(.int p3)])) _
    refine XS.iconst X0.here hx rfl (hb hby at_13) ?_
    show Steps p.tables e below (s₁.setTop (mkF m 14 #[.val (.long q1), .second, .val (.long q2), .second, .val (.int p3), .unset, .unset, .unset, .unset] [(.int (1 : Int32)), (.int p3)])) _
    refine XS.ishr X0.here hx rfl (hb hby at_14) rfl ?_
    show Steps p.tables e below (s₁.setTop (mkF m 15 #[.val (.long q1), .second, .val (.long q2), .second, .val (.int p3), .unset, .unset, .unset, .unset] [(.int (p3 >>> ((1 : Int32) &&& 31)))])) _
    refine XS.sipush X0.here hx rfl (hb hby at_15) ?_
    show Steps p.tables e below (s₁.setTop (mkF m 18 #[.val (.long q1), .second, .val (.long q2), .second, .val (.int p3), .unset, .unset, .unset, .unset] [(.int (130 : Int32)), (.int (p3 >>> ((1 : Int32) &&& 31)))])) _
    refine XS.irem X0.here hx rfl (hb hby at_18) rfl (by decide) ?_
    show Steps p.tables e below (s₁.setTop (mkF m 19 #[.val (.long q1), .second, .val (.long q2), .second, .val (.int p3), .unset, .unset, .unset, .unset] [(.int (own_rem (p3 >>> ((1 : Int32) &&& 31)) (130 : Int32)))])) _
    refine XS.i2l X0.here hx rfl (hb hby at_19) rfl ?_
    show Steps p.tables e below (s₁.setTop (mkF m 20 #[.val (.long q1), .second, .val (.long q2), .second, .val (.int p3), .unset, .unset, .unset, .unset] [(.long ((own_rem (p3 >>> ((1 : Int32) &&& 31)) (130 : Int32)).toInt64))])) _
    refine XS.lstore X0.here hx rfl (hb hby at_20) rfl (l' := #[.val (.long q1), .second, .val (.long q2), .second, .val (.int p3), .val (.long ((own_rem (p3 >>> ((1 : Int32) &&& 31)) (130 : Int32)).toInt64)), .second, .unset, .unset]) rfl ?_
    show Steps p.tables e below (s₁.setTop (mkF m 22 #[.val (.long q1), .second, .val (.long q2), .second, .val (.int p3), .val (.long ((own_rem (p3 >>> ((1 : Int32) &&& 31)) (130 : Int32)).toInt64)), .second, .unset, .unset] [])) _
    refine XS.lloadN X0.here hx rfl (hb hby at_22) rfl ?_
    show Steps p.tables e below (s₁.setTop (mkF m 23 #[.val (.long q1), .second, .val (.long q2), .second, .val (.int p3), .val (.long ((own_rem (p3 >>> ((1 : Int32) &&& 31)) (130 : Int32)).toInt64)), .second, .unset, .unset] [(.long q1)])) _
    refine XS.lload X0.here hx rfl (hb hby at_23) rfl ?_
    show Steps p.tables e below (s₁.setTop (mkF m 25 #[.val (.long q1), .second, .val (.long q2), .second, .val (.int p3), .val (.long ((own_rem (p3 >>> ((1 : Int32) &&& 31)) (130 : Int32)).toInt64)), .second, .unset, .unset] [(.long ((own_rem (p3 >>> ((1 : Int32) &&& 31)) (130 : Int32)).toInt64)), (.long q1)])) _
    refine st4 _ ?_
    show Steps p.tables e below (T4.setTop (mkF m 28 #[.val (.long q1), .second, .val (.long q2), .second, .val (.int p3), .val (.long ((own_rem (p3 >>> ((1 : Int32) &&& 31)) (130 : Int32)).toInt64)), .second, .unset, .unset] [(.long (own_sh q1 ((own_rem (p3 >>> ((1 : Int32) &&& 31)) (130 : Int32)).toInt64)))])) _
    refine XS.lstore X4.here hx rfl (hb hby at_28) rfl (l' := #[.val (.long q1), .second, .val (.long q2), .second, .val (.int p3), .val (.long ((own_rem (p3 >>> ((1 : Int32) &&& 31)) (130 : Int32)).toInt64)), .second, .val (.long (own_sh q1 ((own_rem (p3 >>> ((1 : Int32) &&& 31)) (130 : Int32)).toInt64))), .second]) rfl ?_
    show Steps p.tables e below (T4.setTop (mkF m 30 #[.val (.long q1), .second, .val (.long q2), .second, .val (.int p3), .val (.long ((own_rem (p3 >>> ((1 : Int32) &&& 31)) (130 : Int32)).toInt64)), .second, .val (.long (own_sh q1 ((own_rem (p3 >>> ((1 : Int32) &&& 31)) (130 : Int32)).toInt64))), .second] [])) _
    refine XS.lload X4.here hx rfl (hb hby at_30) rfl ?_
    show Steps p.tables e below (T4.setTop (mkF m 32 #[.val (.long q1), .second, .val (.long q2), .second, .val (.int p3), .val (.long ((own_rem (p3 >>> ((1 : Int32) &&& 31)) (130 : Int32)).toInt64)), .second, .val (.long (own_sh q1 ((own_rem (p3 >>> ((1 : Int32) &&& 31)) (130 : Int32)).toInt64))), .second] [(.long ((own_rem (p3 >>> ((1 : Int32) &&& 31)) (130 : Int32)).toInt64))])) _
    refine X4.ldc2Long hx hown (mvT hZ (hw _ (List.mem_of_getElem? (i := 6) rfl))) (g := (mkF m 32 #[.val (.long q1), .second, .val (.long q2), .second, .val (.int p3), .val (.long ((own_rem (p3 >>> ((1 : Int32) &&& 31)) (130 : Int32)).toInt64)), .second, .val (.long (own_sh q1 ((own_rem (p3 >>> ((1 : Int32) &&& 31)) (130 : Int32)).toInt64))), .second] [(.long ((own_rem (p3 >>> ((1 : Int32) &&& 31)) (130 : Int32)).toInt64))])) rfl (hb hby at_32) _ ?_
    show Steps p.tables e below (T4.setTop (mkF m 35 #[.val (.long q1), .second, .val (.long q2), .second, .val (.int p3), .val (.long ((own_rem (p3 >>> ((1 : Int32) &&& 31)) (130 : Int32)).toInt64)), .second, .val (.long (own_sh q1 ((own_rem (p3 >>> ((1 : Int32) &&& 31)) (130 : Int32)).toInt64))), .second] [(.long (64 : Int64)), (.long ((own_rem (p3 >>> ((1 : Int32) &&& 31)) (130 : Int32)).toInt64))])) _
    refine XS.lcmp X4.here hx rfl (hb hby at_35) rfl ?_
    show Steps p.tables e below (T4.setTop (mkF m 36 #[.val (.long q1), .second, .val (.long q2), .second, .val (.int p3), .val (.long ((own_rem (p3 >>> ((1 : Int32) &&& 31)) (130 : Int32)).toInt64)), .second, .val (.long (own_sh q1 ((own_rem (p3 >>> ((1 : Int32) &&& 31)) (130 : Int32)).toInt64))), .second] [(.int (lcmpW ((own_rem (p3 >>> ((1 : Int32) &&& 31)) (130 : Int32)).toInt64) (64 : Int64)))])) _
    refine XS.ifNo X4.here hx rfl (hb hby at_36) rfl ((if0 _ _).trans (tlt hc36).2.1) ?_
    show Steps p.tables e below (T4.setTop (mkF m 39 #[.val (.long q1), .second, .val (.long q2), .second, .val (.int p3), .val (.long ((own_rem (p3 >>> ((1 : Int32) &&& 31)) (130 : Int32)).toInt64)), .second, .val (.long (own_sh q1 ((own_rem (p3 >>> ((1 : Int32) &&& 31)) (130 : Int32)).toInt64))), .second] [])) _
    refine XS.lload X4.here hx rfl (hb hby at_39) rfl ?_
    show Steps p.tables e below (T4.setTop (mkF m 41 #[.val (.long q1), .second, .val (.long q2), .second, .val (.int p3), .val (.long ((own_rem (p3 >>> ((1 : Int32) &&& 31)) (130 : Int32)).toInt64)), .second, .val (.long (own_sh q1 ((own_rem (p3 >>> ((1 : Int32) &&& 31)) (130 : Int32)).toInt64))), .second] [(.long ((own_rem (p3 >>> ((1 : Int32) &&& 31)) (130 : Int32)).toInt64))])) _
    refine X4.ldc2Long hx hown (mvT hZ (hw _ (List.mem_of_getElem? (i := 7) rfl))) (g := (mkF m 41 #[.val (.long q1), .second, .val (.long q2), .second, .val (.int p3), .val (.long ((own_rem (p3 >>> ((1 : Int32) &&& 31)) (130 : Int32)).toInt64)), .second, .val (.long (own_sh q1 ((own_rem (p3 >>> ((1 : Int32) &&& 31)) (130 : Int32)).toInt64))), .second] [(.long ((own_rem (p3 >>> ((1 : Int32) &&& 31)) (130 : Int32)).toInt64))])) rfl (hb hby at_41) _ ?_
    show Steps p.tables e below (T4.setTop (mkF m 44 #[.val (.long q1), .second, .val (.long q2), .second, .val (.int p3), .val (.long ((own_rem (p3 >>> ((1 : Int32) &&& 31)) (130 : Int32)).toInt64)), .second, .val (.long (own_sh q1 ((own_rem (p3 >>> ((1 : Int32) &&& 31)) (130 : Int32)).toInt64))), .second] [(.long (-64 : Int64)), (.long ((own_rem (p3 >>> ((1 : Int32) &&& 31)) (130 : Int32)).toInt64))])) _
    refine XS.lcmp X4.here hx rfl (hb hby at_44) rfl ?_
    show Steps p.tables e below (T4.setTop (mkF m 45 #[.val (.long q1), .second, .val (.long q2), .second, .val (.int p3), .val (.long ((own_rem (p3 >>> ((1 : Int32) &&& 31)) (130 : Int32)).toInt64)), .second, .val (.long (own_sh q1 ((own_rem (p3 >>> ((1 : Int32) &&& 31)) (130 : Int32)).toInt64))), .second] [(.int (lcmpW ((own_rem (p3 >>> ((1 : Int32) &&& 31)) (130 : Int32)).toInt64) (-64 : Int64)))])) _
    refine XS.ifYes X4.here hx rfl (pc0 := 45) (pc' := 61) rfl (hb hby at_45) rfl ((if0 _ _).trans (tlt hc45).2.2.1) (by decide) (by decide) ?_
    show Steps p.tables e below (T4.setTop (mkF m 61 #[.val (.long q1), .second, .val (.long q2), .second, .val (.int p3), .val (.long ((own_rem (p3 >>> ((1 : Int32) &&& 31)) (130 : Int32)).toInt64)), .second, .val (.long (own_sh q1 ((own_rem (p3 >>> ((1 : Int32) &&& 31)) (130 : Int32)).toInt64))), .second] [])) _
    refine XS.lload X4.here hx rfl (hb hby at_61) rfl ?_
    show Steps p.tables e below (T4.setTop (mkF m 63 #[.val (.long q1), .second, .val (.long q2), .second, .val (.int p3), .val (.long ((own_rem (p3 >>> ((1 : Int32) &&& 31)) (130 : Int32)).toInt64)), .second, .val (.long (own_sh q1 ((own_rem (p3 >>> ((1 : Int32) &&& 31)) (130 : Int32)).toInt64))), .second] [(.long ((own_rem (p3 >>> ((1 : Int32) &&& 31)) (130 : Int32)).toInt64))])) _
    refine XS.lconst X4.here hx rfl (hb hby at_63) ?_
    show Steps p.tables e below (T4.setTop (mkF m 64 #[.val (.long q1), .second, .val (.long q2), .second, .val (.int p3), .val (.long ((own_rem (p3 >>> ((1 : Int32) &&& 31)) (130 : Int32)).toInt64)), .second, .val (.long (own_sh q1 ((own_rem (p3 >>> ((1 : Int32) &&& 31)) (130 : Int32)).toInt64))), .second] [(.long (0 : Int64)), (.long ((own_rem (p3 >>> ((1 : Int32) &&& 31)) (130 : Int32)).toInt64))])) _
    refine XS.lcmp X4.here hx rfl (hb hby at_64) rfl ?_
    show Steps p.tables e below (T4.setTop (mkF m 65 #[.val (.long q1), .second, .val (.long q2), .second, .val (.int p3), .val (.long ((own_rem (p3 >>> ((1 : Int32) &&& 31)) (130 : Int32)).toInt64)), .second, .val (.long (own_sh q1 ((own_rem (p3 >>> ((1 : Int32) &&& 31)) (130 : Int32)).toInt64))), .second] [(.int (lcmpW ((own_rem (p3 >>> ((1 : Int32) &&& 31)) (130 : Int32)).toInt64) (0 : Int64)))])) _
    refine XS.ifNo X4.here hx rfl (hb hby at_65) rfl ((if0 _ _).trans (teq hc65).2) ?_
    show Steps p.tables e below (T4.setTop (mkF m 68 #[.val (.long q1), .second, .val (.long q2), .second, .val (.int p3), .val (.long ((own_rem (p3 >>> ((1 : Int32) &&& 31)) (130 : Int32)).toInt64)), .second, .val (.long (own_sh q1 ((own_rem (p3 >>> ((1 : Int32) &&& 31)) (130 : Int32)).toInt64))), .second] [])) _
    refine XS.lload X4.here hx rfl (hb hby at_68) rfl ?_
    show Steps p.tables e below (T4.setTop (mkF m 70 #[.val (.long q1), .second, .val (.long q2), .second, .val (.int p3), .val (.long ((own_rem (p3 >>> ((1 : Int32) &&& 31)) (130 : Int32)).toInt64)), .second, .val (.long (own_sh q1 ((own_rem (p3 >>> ((1 : Int32) &&& 31)) (130 : Int32)).toInt64))), .second] [(.long (own_sh q1 ((own_rem (p3 >>> ((1 : Int32) &&& 31)) (130 : Int32)).toInt64)))])) _
    refine XS.lloadN X4.here hx rfl (hb hby at_70) rfl ?_
    show Steps p.tables e below (T4.setTop (mkF m 71 #[.val (.long q1), .second, .val (.long q2), .second, .val (.int p3), .val (.long ((own_rem (p3 >>> ((1 : Int32) &&& 31)) (130 : Int32)).toInt64)), .second, .val (.long (own_sh q1 ((own_rem (p3 >>> ((1 : Int32) &&& 31)) (130 : Int32)).toInt64))), .second] [(.long q1), (.long (own_sh q1 ((own_rem (p3 >>> ((1 : Int32) &&& 31)) (130 : Int32)).toInt64)))])) _
    refine XS.lcmp X4.here hx rfl (hb hby at_71) rfl ?_
    show Steps p.tables e below (T4.setTop (mkF m 72 #[.val (.long q1), .second, .val (.long q2), .second, .val (.int p3), .val (.long ((own_rem (p3 >>> ((1 : Int32) &&& 31)) (130 : Int32)).toInt64)), .second, .val (.long (own_sh q1 ((own_rem (p3 >>> ((1 : Int32) &&& 31)) (130 : Int32)).toInt64))), .second] [(.int (lcmpW (own_sh q1 ((own_rem (p3 >>> ((1 : Int32) &&& 31)) (130 : Int32)).toInt64)) q1))])) _
    refine XS.ifNo X4.here hx rfl (hb hby at_72) rfl ((if0 _ _).trans (teq ((lw_eq _ _).mpr (by have h := ((lw_eq _ _).mp hc65); rw [h]; exact own_zero q1) : (lcmpW (own_sh q1 ((own_rem (p3 >>> ((1 : Int32) &&& 31)) (130 : Int32)).toInt64)) q1) = (0 : Int32))).2) ?_
    show Steps p.tables e below (T4.setTop (mkF m 75 #[.val (.long q1), .second, .val (.long q2), .second, .val (.int p3), .val (.long ((own_rem (p3 >>> ((1 : Int32) &&& 31)) (130 : Int32)).toInt64)), .second, .val (.long (own_sh q1 ((own_rem (p3 >>> ((1 : Int32) &&& 31)) (130 : Int32)).toInt64))), .second] [])) _
    refine XS.iconst X4.here hx rfl (hb hby at_75) ?_
    show Steps p.tables e below (T4.setTop (mkF m 76 #[.val (.long q1), .second, .val (.long q2), .second, .val (.int p3), .val (.long ((own_rem (p3 >>> ((1 : Int32) &&& 31)) (130 : Int32)).toInt64)), .second, .val (.long (own_sh q1 ((own_rem (p3 >>> ((1 : Int32) &&& 31)) (130 : Int32)).toInt64))), .second] [(.int (1 : Int32))])) _
    refine XS.goto X4.here hx rfl (pc0 := 76) (pc' := 80) rfl (hb hby at_76) (by decide) (by decide) ?_
    show Steps p.tables e below (T4.setTop (mkF m 80 #[.val (.long q1), .second, .val (.long q2), .second, .val (.int p3), .val (.long ((own_rem (p3 >>> ((1 : Int32) &&& 31)) (130 : Int32)).toInt64)), .second, .val (.long (own_sh q1 ((own_rem (p3 >>> ((1 : Int32) &&& 31)) (130 : Int32)).toInt64))), .second] [(.int (1 : Int32))])) _
    exact retN X4 hx (t := .boolean) Bd.returns (by simp) (hb hby at_80) hr
  · show Q0_tC Z q1 q2 p3 h0 n0 _ T4.heap _
    exact ⟨rfl, N4⟩
theorem pd_0_tD_0 : parseMethodDescriptor "(JJ)J" = some ⟨[.long, .long], some .long⟩ := by decide +kernel
def Q0_tD (Z : State) (q1 : Int64) (q2 : Int64) (p3 : Int32) (h0 : Heap) (n0 : Nat) (v : Option Value) (h : Heap) (L : List Loc) : Prop := v = some (.int (1 : Int32)) ∧ Fr n0 L
set_option maxRecDepth 65536 in
set_option maxHeartbeats 40000000 in
theorem rm0_tD (l : Launch) (Z : State) (a0 : Array Value) (hw : ∀ d ∈ tables_1, d.before a0 Z = true) (ws : List Jvm.Cond) (q1 : Int64) (q2 : Int64) (p3 : Int32) (h0 : Heap) (n0 : Nat) (Z0 : n0 ≤ h0.size) (hc4 : (p3 &&& (1 : Int32)) = (0 : Int32)) (hc36 : (lcmpW ((own_rem (p3 >>> ((1 : Int32) &&& 31)) (130 : Int32)).toInt64) (64 : Int64)) < (0 : Int32)) (hc45 : (0 : Int32) < (lcmpW ((own_rem (p3 >>> ((1 : Int32) &&& 31)) (130 : Int32)).toInt64) (-64 : Int64))) (hc65 : ¬ ((lcmpW ((own_rem (p3 >>> ((1 : Int32) &&& 31)) (130 : Int32)).toInt64) (0 : Int64)) = (0 : Int32))) (hc85 : (0 : Int32) < (lcmpW ((own_rem (p3 >>> ((1 : Int32) &&& 31)) (130 : Int32)).toInt64) (0 : Int64))) :
    MetFree l x (head1 (Jvm.Cond.code x code maxLocals ret :: ws) room_1) (fun a U => a = #[(.long q1), (.long q2), (.int p3)] ∧ Z.Warmed39 U.vm ∧ U.heap = h0) (fun _ _ _ _ _ => True) (fun _ U o U' => ∃ v L, o = .returned v ∧ Q0_tD Z q1 q2 p3 h0 n0 v U'.heap L ∧ FrameEnd U o U' L room_1.cells room_1.slots) := by
  refine MetFree.of_bodySF (plainFor_of_name pn_0) hisR ?_
  intro p e s m args below meth c s₁ Bd hml0 hP hK
  obtain ⟨rfl, hZ, hh⟩ := hP
  have hx := Bd.exec
  have hby := Bd.bytes
  have hml : c.maxLocals = 9 := hml0
  have hown : s.vm.findClass "org/graftloom/lua/LuaValuesShiftLeftPinLaw" = some m.cls := findClass_of_methodNamed Bd.named
  have hnm := (name_of_methodNamed Bd.named Bd.method).1
  have X0 : Stand p l e room_1 s m #[(.long q1), (.long q2), (.int p3)] below meth c s₁ [] 0 0 := Stand.of_body Bd
  have e0 : s₁.heap = h0 := by rw [← hh, Bd.state]; rfl
  have N0 := Fr.nil n0
  have pre0 : ∀ t, Steps p.tables e below (s₁.setTop (mkF m 0 #[.val (.long q1), .second, .val (.long q2), .second, .val (.int p3), .unset, .unset, .unset, .unset] [])) t → Steps p.tables e below (s₁.setTop (entryFrame m #[(.long q1), (.long q2), (.int p3)] maxLocals)) t := fun t k => castTop (ef_0 m q1 q2 p3) k
  obtain ⟨_, _, ⟨T4, L4, k4, n4⟩, -, X4, ⟨Lc4, hQ4, l4, y4, z4⟩, st4⟩ := Jvm.LawKit.callS X0 hx (y := (⟨"org/graftloom/lua/LuaValues", "shiftLeft", "(JJ)J"⟩ : MethodName)) hown (mvT hZ (hw _ (List.mem_of_getElem? (i := 0) rfl))) (mvT hZ (hw _ (List.mem_of_getElem? (i := 1) rfl))) (mvT hZ (hw _ (List.mem_of_getElem? (i := 2) rfl))) (mvT hZ (hw _ (List.mem_of_getElem? (i := 3) rfl))) (by decide) (backOf (W := 0) (rm1 l Z a0 hw [] q1 ((own_rem (p3 >>> ((1 : Int32) &&& 31)) (130 : Int32)).toInt64) h0 n0 Z0) hZ (hw _ (List.mem_of_getElem? (i := 3) rfl)) (hw _ (List.mem_of_getElem? (i := 2) rfl)) (by decide) (by decide)) (g := (mkF m 25 #[.val (.long q1), .second, .val (.long q2), .second, .val (.int p3), .val (.long ((own_rem (p3 >>> ((1 : Int32) &&& 31)) (130 : Int32)).toInt64)), .second, .unset, .unset] [(.long ((own_rem (p3 >>> ((1 : Int32) &&& 31)) (130 : Int32)).toInt64)), (.long q1)])) rfl (by rw [hml]; rfl) (argsL := [(.long q1), (.long ((own_rem (p3 >>> ((1 : Int32) &&& 31)) (130 : Int32)).toInt64))]) (rest := []) (lenOf pd_0_tD_0 rfl) rfl (by show 2 * 0 + _ ≤ _; exact Nat.le_of_eq rfl) (hb hby at_25) (fun _ _ => ⟨rfl, e0, (by decide : 0 + 0 ≤ _), (by decide : 0 + 0 ≤ _)⟩)
  dsimp only [Pt.U, Pt.locs, Pt.cells, Pt.slots] at X4 l4 y4 z4 st4 hQ4
  subst l4 y4 z4
  obtain ⟨rfl, N4q, e4q⟩ := hQ4
  have N4 := Fr.app N0 N4q
  obtain ⟨_, _, ⟨T5, L5, k5, n5⟩, -, X5, ⟨Lc5, hQ5, l5, y5, z5⟩, st5⟩ := Jvm.LawKit.callS X4 hx (y := (⟨"org/graftloom/lua/LuaValues", "shiftLeft", "(JJ)J"⟩ : MethodName)) hown (mvT hZ (hw _ (List.mem_of_getElem? (i := 0) rfl))) (mvT hZ (hw _ (List.mem_of_getElem? (i := 1) rfl))) (mvT hZ (hw _ (List.mem_of_getElem? (i := 2) rfl))) (mvT hZ (hw _ (List.mem_of_getElem? (i := 3) rfl))) (by decide) (backOf (W := 2) (rm1 l Z a0 hw [] q1 (((own_rem (p3 >>> ((1 : Int32) &&& 31)) (130 : Int32)).toInt64) - (1 : Int64)) h0 n0 Z0) hZ (hw _ (List.mem_of_getElem? (i := 3) rfl)) (hw _ (List.mem_of_getElem? (i := 2) rfl)) (by decide) (by decide)) (g := (mkF m 95 #[.val (.long q1), .second, .val (.long q2), .second, .val (.int p3), .val (.long ((own_rem (p3 >>> ((1 : Int32) &&& 31)) (130 : Int32)).toInt64)), .second, .val (.long (own_sh q1 ((own_rem (p3 >>> ((1 : Int32) &&& 31)) (130 : Int32)).toInt64))), .second] [(.long (((own_rem (p3 >>> ((1 : Int32) &&& 31)) (130 : Int32)).toInt64) - (1 : Int64))), (.long q1), (.long (own_sh q1 ((own_rem (p3 >>> ((1 : Int32) &&& 31)) (130 : Int32)).toInt64)))])) rfl (by rw [hml]; rfl) (argsL := [(.long q1), (.long (((own_rem (p3 >>> ((1 : Int32) &&& 31)) (130 : Int32)).toInt64) - (1 : Int64)))]) (rest := [(.long (own_sh q1 ((own_rem (p3 >>> ((1 : Int32) &&& 31)) (130 : Int32)).toInt64)))]) (lenOf pd_0_tD_0 rfl) rfl (by show 2 * 0 + _ ≤ _; exact Nat.le_of_eq rfl) (hb hby at_95) (fun _ _ => ⟨rfl, e4q, (by decide : 0 + 0 ≤ _), (by decide : 0 + 0 ≤ _)⟩)
  dsimp only [Pt.U, Pt.locs, Pt.cells, Pt.slots] at X5 l5 y5 z5 st5 hQ5
  subst l5 y5 z5
  obtain ⟨rfl, N5q, e5q⟩ := hQ5
  have N5 := Fr.app N4 N5q
  obtain ⟨fs, hr, hrun, hended, hW, hsame⟩ := X5.leave (v := some (.int (1 : Int32))) (fun h => by rw [Bd.returns] at h; cases h)
  refine ⟨_, _, pre0 _ ?_, hrun, hended, _, _, rfl, ?_, ⟨_, rfl⟩, hW, hsame.mono (by decide) (by decide)⟩
  · show Steps p.tables e below (s₁.setTop (mkF m 0 #[.val (.long q1), .second, .val (.long q2), .second, .val (.int p3), .unset, .unset, .unset, .unset] [])) _
    refine XS.iload X0.here hx rfl (hb hby at_0) rfl ?_
    show Steps p.tables e below (s₁.setTop (mkF m 2 #[.val (.long q1), .second, .val (.long q2), .second, .val (.int p3), .unset, .unset, .unset, .unset] [(.int p3)])) _
    refine XS.iconst X0.here hx rfl (hb hby at_2) ?_
    show Steps p.tables e below (s₁.setTop (mkF m 3 #[.val (.long q1), .second, .val (.long q2), .second, .val (.int p3), .unset, .unset, .unset, .unset] [(.int (1 : Int32)), (.int p3)])) _
    refine XS.iand X0.here hx rfl (hb hby at_3) rfl ?_
    show Steps p.tables e below (s₁.setTop (mkF m 4 #[.val (.long q1), .second, .val (.long q2), .second, .val (.int p3), .unset, .unset, .unset, .unset] [(.int (p3 &&& (1 : Int32)))])) _
    refine XS.ifYes X0.here hx rfl (pc0 := 4) (pc' := 11) rfl (hb hby at_4) rfl ((if0 _ _).trans (teq hc4).1) (by decide) (by decide) ?_
    show Steps p.tables e below (s₁.setTop (mkF m 11 #[.val (.long q1), .second, .val (.long q2), .second, .val (.int p3), .unset, .unset, .unset, .unset] [])) _
    refine XS.iload X0.here hx rfl (hb hby at_11) rfl ?_
    show Steps p.tables e below (s₁.setTop (mkF m 13 #[.val (.long q1), .second, .val (.long q2), .second, .val (.int p3), .unset, .unset, .unset, .unset] [(.int p3)])) _
    refine XS.iconst X0.here hx rfl (hb hby at_13) ?_
    show Steps p.tables e below (s₁.setTop (mkF m 14 #[.val (.long q1), .second, .val (.long q2), .second, .val (.int p3), .unset, .unset, .unset, .unset] [(.int (1 : Int32)), (.int p3)])) _
    refine XS.ishr X0.here hx rfl (hb hby at_14) rfl ?_
    show Steps p.tables e below (s₁.setTop (mkF m 15 #[.val (.long q1), .second, .val (.long q2), .second, .val (.int p3), .unset, .unset, .unset, .unset] [(.int (p3 >>> ((1 : Int32) &&& 31)))])) _
    refine XS.sipush X0.here hx rfl (hb hby at_15) ?_
    show Steps p.tables e below (s₁.setTop (mkF m 18 #[.val (.long q1), .second, .val (.long q2), .second, .val (.int p3), .unset, .unset, .unset, .unset] [(.int (130 : Int32)), (.int (p3 >>> ((1 : Int32) &&& 31)))])) _
    refine XS.irem X0.here hx rfl (hb hby at_18) rfl (by decide) ?_
    show Steps p.tables e below (s₁.setTop (mkF m 19 #[.val (.long q1), .second, .val (.long q2), .second, .val (.int p3), .unset, .unset, .unset, .unset] [(.int (own_rem (p3 >>> ((1 : Int32) &&& 31)) (130 : Int32)))])) _
    refine XS.i2l X0.here hx rfl (hb hby at_19) rfl ?_
    show Steps p.tables e below (s₁.setTop (mkF m 20 #[.val (.long q1), .second, .val (.long q2), .second, .val (.int p3), .unset, .unset, .unset, .unset] [(.long ((own_rem (p3 >>> ((1 : Int32) &&& 31)) (130 : Int32)).toInt64))])) _
    refine XS.lstore X0.here hx rfl (hb hby at_20) rfl (l' := #[.val (.long q1), .second, .val (.long q2), .second, .val (.int p3), .val (.long ((own_rem (p3 >>> ((1 : Int32) &&& 31)) (130 : Int32)).toInt64)), .second, .unset, .unset]) rfl ?_
    show Steps p.tables e below (s₁.setTop (mkF m 22 #[.val (.long q1), .second, .val (.long q2), .second, .val (.int p3), .val (.long ((own_rem (p3 >>> ((1 : Int32) &&& 31)) (130 : Int32)).toInt64)), .second, .unset, .unset] [])) _
    refine XS.lloadN X0.here hx rfl (hb hby at_22) rfl ?_
    show Steps p.tables e below (s₁.setTop (mkF m 23 #[.val (.long q1), .second, .val (.long q2), .second, .val (.int p3), .val (.long ((own_rem (p3 >>> ((1 : Int32) &&& 31)) (130 : Int32)).toInt64)), .second, .unset, .unset] [(.long q1)])) _
    refine XS.lload X0.here hx rfl (hb hby at_23) rfl ?_
    show Steps p.tables e below (s₁.setTop (mkF m 25 #[.val (.long q1), .second, .val (.long q2), .second, .val (.int p3), .val (.long ((own_rem (p3 >>> ((1 : Int32) &&& 31)) (130 : Int32)).toInt64)), .second, .unset, .unset] [(.long ((own_rem (p3 >>> ((1 : Int32) &&& 31)) (130 : Int32)).toInt64)), (.long q1)])) _
    refine st4 _ ?_
    show Steps p.tables e below (T4.setTop (mkF m 28 #[.val (.long q1), .second, .val (.long q2), .second, .val (.int p3), .val (.long ((own_rem (p3 >>> ((1 : Int32) &&& 31)) (130 : Int32)).toInt64)), .second, .unset, .unset] [(.long (own_sh q1 ((own_rem (p3 >>> ((1 : Int32) &&& 31)) (130 : Int32)).toInt64)))])) _
    refine XS.lstore X4.here hx rfl (hb hby at_28) rfl (l' := #[.val (.long q1), .second, .val (.long q2), .second, .val (.int p3), .val (.long ((own_rem (p3 >>> ((1 : Int32) &&& 31)) (130 : Int32)).toInt64)), .second, .val (.long (own_sh q1 ((own_rem (p3 >>> ((1 : Int32) &&& 31)) (130 : Int32)).toInt64))), .second]) rfl ?_
    show Steps p.tables e below (T4.setTop (mkF m 30 #[.val (.long q1), .second, .val (.long q2), .second, .val (.int p3), .val (.long ((own_rem (p3 >>> ((1 : Int32) &&& 31)) (130 : Int32)).toInt64)), .second, .val (.long (own_sh q1 ((own_rem (p3 >>> ((1 : Int32) &&& 31)) (130 : Int32)).toInt64))), .second] [])) _
    refine XS.lload X4.here hx rfl (hb hby at_30) rfl ?_
    show Steps p.tables e below (T4.setTop (mkF m 32 #[.val (.long q1), .second, .val (.long q2), .second, .val (.int p3), .val (.long ((own_rem (p3 >>> ((1 : Int32) &&& 31)) (130 : Int32)).toInt64)), .second, .val (.long (own_sh q1 ((own_rem (p3 >>> ((1 : Int32) &&& 31)) (130 : Int32)).toInt64))), .second] [(.long ((own_rem (p3 >>> ((1 : Int32) &&& 31)) (130 : Int32)).toInt64))])) _
    refine X4.ldc2Long hx hown (mvT hZ (hw _ (List.mem_of_getElem? (i := 6) rfl))) (g := (mkF m 32 #[.val (.long q1), .second, .val (.long q2), .second, .val (.int p3), .val (.long ((own_rem (p3 >>> ((1 : Int32) &&& 31)) (130 : Int32)).toInt64)), .second, .val (.long (own_sh q1 ((own_rem (p3 >>> ((1 : Int32) &&& 31)) (130 : Int32)).toInt64))), .second] [(.long ((own_rem (p3 >>> ((1 : Int32) &&& 31)) (130 : Int32)).toInt64))])) rfl (hb hby at_32) _ ?_
    show Steps p.tables e below (T4.setTop (mkF m 35 #[.val (.long q1), .second, .val (.long q2), .second, .val (.int p3), .val (.long ((own_rem (p3 >>> ((1 : Int32) &&& 31)) (130 : Int32)).toInt64)), .second, .val (.long (own_sh q1 ((own_rem (p3 >>> ((1 : Int32) &&& 31)) (130 : Int32)).toInt64))), .second] [(.long (64 : Int64)), (.long ((own_rem (p3 >>> ((1 : Int32) &&& 31)) (130 : Int32)).toInt64))])) _
    refine XS.lcmp X4.here hx rfl (hb hby at_35) rfl ?_
    show Steps p.tables e below (T4.setTop (mkF m 36 #[.val (.long q1), .second, .val (.long q2), .second, .val (.int p3), .val (.long ((own_rem (p3 >>> ((1 : Int32) &&& 31)) (130 : Int32)).toInt64)), .second, .val (.long (own_sh q1 ((own_rem (p3 >>> ((1 : Int32) &&& 31)) (130 : Int32)).toInt64))), .second] [(.int (lcmpW ((own_rem (p3 >>> ((1 : Int32) &&& 31)) (130 : Int32)).toInt64) (64 : Int64)))])) _
    refine XS.ifNo X4.here hx rfl (hb hby at_36) rfl ((if0 _ _).trans (tlt hc36).2.1) ?_
    show Steps p.tables e below (T4.setTop (mkF m 39 #[.val (.long q1), .second, .val (.long q2), .second, .val (.int p3), .val (.long ((own_rem (p3 >>> ((1 : Int32) &&& 31)) (130 : Int32)).toInt64)), .second, .val (.long (own_sh q1 ((own_rem (p3 >>> ((1 : Int32) &&& 31)) (130 : Int32)).toInt64))), .second] [])) _
    refine XS.lload X4.here hx rfl (hb hby at_39) rfl ?_
    show Steps p.tables e below (T4.setTop (mkF m 41 #[.val (.long q1), .second, .val (.long q2), .second, .val (.int p3), .val (.long ((own_rem (p3 >>> ((1 : Int32) &&& 31)) (130 : Int32)).toInt64)), .second, .val (.long (own_sh q1 ((own_rem (p3 >>> ((1 : Int32) &&& 31)) (130 : Int32)).toInt64))), .second] [(.long ((own_rem (p3 >>> ((1 : Int32) &&& 31)) (130 : Int32)).toInt64))])) _
    refine X4.ldc2Long hx hown (mvT hZ (hw _ (List.mem_of_getElem? (i := 7) rfl))) (g := (mkF m 41 #[.val (.long q1), .second, .val (.long q2), .second, .val (.int p3), .val (.long ((own_rem (p3 >>> ((1 : Int32) &&& 31)) (130 : Int32)).toInt64)), .second, .val (.long (own_sh q1 ((own_rem (p3 >>> ((1 : Int32) &&& 31)) (130 : Int32)).toInt64))), .second] [(.long ((own_rem (p3 >>> ((1 : Int32) &&& 31)) (130 : Int32)).toInt64))])) rfl (hb hby at_41) _ ?_
    show Steps p.tables e below (T4.setTop (mkF m 44 #[.val (.long q1), .second, .val (.long q2), .second, .val (.int p3), .val (.long ((own_rem (p3 >>> ((1 : Int32) &&& 31)) (130 : Int32)).toInt64)), .second, .val (.long (own_sh q1 ((own_rem (p3 >>> ((1 : Int32) &&& 31)) (130 : Int32)).toInt64))), .second] [(.long (-64 : Int64)), (.long ((own_rem (p3 >>> ((1 : Int32) &&& 31)) (130 : Int32)).toInt64))])) _
    refine XS.lcmp X4.here hx rfl (hb hby at_44) rfl ?_
    show Steps p.tables e below (T4.setTop (mkF m 45 #[.val (.long q1), .second, .val (.long q2), .second, .val (.int p3), .val (.long ((own_rem (p3 >>> ((1 : Int32) &&& 31)) (130 : Int32)).toInt64)), .second, .val (.long (own_sh q1 ((own_rem (p3 >>> ((1 : Int32) &&& 31)) (130 : Int32)).toInt64))), .second] [(.int (lcmpW ((own_rem (p3 >>> ((1 : Int32) &&& 31)) (130 : Int32)).toInt64) (-64 : Int64)))])) _
    refine XS.ifYes X4.here hx rfl (pc0 := 45) (pc' := 61) rfl (hb hby at_45) rfl ((if0 _ _).trans (tlt hc45).2.2.1) (by decide) (by decide) ?_
    show Steps p.tables e below (T4.setTop (mkF m 61 #[.val (.long q1), .second, .val (.long q2), .second, .val (.int p3), .val (.long ((own_rem (p3 >>> ((1 : Int32) &&& 31)) (130 : Int32)).toInt64)), .second, .val (.long (own_sh q1 ((own_rem (p3 >>> ((1 : Int32) &&& 31)) (130 : Int32)).toInt64))), .second] [])) _
    refine XS.lload X4.here hx rfl (hb hby at_61) rfl ?_
    show Steps p.tables e below (T4.setTop (mkF m 63 #[.val (.long q1), .second, .val (.long q2), .second, .val (.int p3), .val (.long ((own_rem (p3 >>> ((1 : Int32) &&& 31)) (130 : Int32)).toInt64)), .second, .val (.long (own_sh q1 ((own_rem (p3 >>> ((1 : Int32) &&& 31)) (130 : Int32)).toInt64))), .second] [(.long ((own_rem (p3 >>> ((1 : Int32) &&& 31)) (130 : Int32)).toInt64))])) _
    refine XS.lconst X4.here hx rfl (hb hby at_63) ?_
    show Steps p.tables e below (T4.setTop (mkF m 64 #[.val (.long q1), .second, .val (.long q2), .second, .val (.int p3), .val (.long ((own_rem (p3 >>> ((1 : Int32) &&& 31)) (130 : Int32)).toInt64)), .second, .val (.long (own_sh q1 ((own_rem (p3 >>> ((1 : Int32) &&& 31)) (130 : Int32)).toInt64))), .second] [(.long (0 : Int64)), (.long ((own_rem (p3 >>> ((1 : Int32) &&& 31)) (130 : Int32)).toInt64))])) _
    refine XS.lcmp X4.here hx rfl (hb hby at_64) rfl ?_
    show Steps p.tables e below (T4.setTop (mkF m 65 #[.val (.long q1), .second, .val (.long q2), .second, .val (.int p3), .val (.long ((own_rem (p3 >>> ((1 : Int32) &&& 31)) (130 : Int32)).toInt64)), .second, .val (.long (own_sh q1 ((own_rem (p3 >>> ((1 : Int32) &&& 31)) (130 : Int32)).toInt64))), .second] [(.int (lcmpW ((own_rem (p3 >>> ((1 : Int32) &&& 31)) (130 : Int32)).toInt64) (0 : Int64)))])) _
    refine XS.ifYes X4.here hx rfl (pc0 := 65) (pc' := 81) rfl (hb hby at_65) rfl ((if0 _ _).trans (feq hc65).2) (by decide) (by decide) ?_
    show Steps p.tables e below (T4.setTop (mkF m 81 #[.val (.long q1), .second, .val (.long q2), .second, .val (.int p3), .val (.long ((own_rem (p3 >>> ((1 : Int32) &&& 31)) (130 : Int32)).toInt64)), .second, .val (.long (own_sh q1 ((own_rem (p3 >>> ((1 : Int32) &&& 31)) (130 : Int32)).toInt64))), .second] [])) _
    refine XS.lload X4.here hx rfl (hb hby at_81) rfl ?_
    show Steps p.tables e below (T4.setTop (mkF m 83 #[.val (.long q1), .second, .val (.long q2), .second, .val (.int p3), .val (.long ((own_rem (p3 >>> ((1 : Int32) &&& 31)) (130 : Int32)).toInt64)), .second, .val (.long (own_sh q1 ((own_rem (p3 >>> ((1 : Int32) &&& 31)) (130 : Int32)).toInt64))), .second] [(.long ((own_rem (p3 >>> ((1 : Int32) &&& 31)) (130 : Int32)).toInt64))])) _
    refine XS.lconst X4.here hx rfl (hb hby at_83) ?_
    show Steps p.tables e below (T4.setTop (mkF m 84 #[.val (.long q1), .second, .val (.long q2), .second, .val (.int p3), .val (.long ((own_rem (p3 >>> ((1 : Int32) &&& 31)) (130 : Int32)).toInt64)), .second, .val (.long (own_sh q1 ((own_rem (p3 >>> ((1 : Int32) &&& 31)) (130 : Int32)).toInt64))), .second] [(.long (0 : Int64)), (.long ((own_rem (p3 >>> ((1 : Int32) &&& 31)) (130 : Int32)).toInt64))])) _
    refine XS.lcmp X4.here hx rfl (hb hby at_84) rfl ?_
    show Steps p.tables e below (T4.setTop (mkF m 85 #[.val (.long q1), .second, .val (.long q2), .second, .val (.int p3), .val (.long ((own_rem (p3 >>> ((1 : Int32) &&& 31)) (130 : Int32)).toInt64)), .second, .val (.long (own_sh q1 ((own_rem (p3 >>> ((1 : Int32) &&& 31)) (130 : Int32)).toInt64))), .second] [(.int (lcmpW ((own_rem (p3 >>> ((1 : Int32) &&& 31)) (130 : Int32)).toInt64) (0 : Int64)))])) _
    refine XS.ifNo X4.here hx rfl (hb hby at_85) rfl ((if0 _ _).trans (tlt hc85).2.2.2) ?_
    show Steps p.tables e below (T4.setTop (mkF m 88 #[.val (.long q1), .second, .val (.long q2), .second, .val (.int p3), .val (.long ((own_rem (p3 >>> ((1 : Int32) &&& 31)) (130 : Int32)).toInt64)), .second, .val (.long (own_sh q1 ((own_rem (p3 >>> ((1 : Int32) &&& 31)) (130 : Int32)).toInt64))), .second] [])) _
    refine XS.lload X4.here hx rfl (hb hby at_88) rfl ?_
    show Steps p.tables e below (T4.setTop (mkF m 90 #[.val (.long q1), .second, .val (.long q2), .second, .val (.int p3), .val (.long ((own_rem (p3 >>> ((1 : Int32) &&& 31)) (130 : Int32)).toInt64)), .second, .val (.long (own_sh q1 ((own_rem (p3 >>> ((1 : Int32) &&& 31)) (130 : Int32)).toInt64))), .second] [(.long (own_sh q1 ((own_rem (p3 >>> ((1 : Int32) &&& 31)) (130 : Int32)).toInt64)))])) _
    refine XS.lloadN X4.here hx rfl (hb hby at_90) rfl ?_
    show Steps p.tables e below (T4.setTop (mkF m 91 #[.val (.long q1), .second, .val (.long q2), .second, .val (.int p3), .val (.long ((own_rem (p3 >>> ((1 : Int32) &&& 31)) (130 : Int32)).toInt64)), .second, .val (.long (own_sh q1 ((own_rem (p3 >>> ((1 : Int32) &&& 31)) (130 : Int32)).toInt64))), .second] [(.long q1), (.long (own_sh q1 ((own_rem (p3 >>> ((1 : Int32) &&& 31)) (130 : Int32)).toInt64)))])) _
    refine XS.lload X4.here hx rfl (hb hby at_91) rfl ?_
    show Steps p.tables e below (T4.setTop (mkF m 93 #[.val (.long q1), .second, .val (.long q2), .second, .val (.int p3), .val (.long ((own_rem (p3 >>> ((1 : Int32) &&& 31)) (130 : Int32)).toInt64)), .second, .val (.long (own_sh q1 ((own_rem (p3 >>> ((1 : Int32) &&& 31)) (130 : Int32)).toInt64))), .second] [(.long ((own_rem (p3 >>> ((1 : Int32) &&& 31)) (130 : Int32)).toInt64)), (.long q1), (.long (own_sh q1 ((own_rem (p3 >>> ((1 : Int32) &&& 31)) (130 : Int32)).toInt64)))])) _
    refine XS.lconst X4.here hx rfl (hb hby at_93) ?_
    show Steps p.tables e below (T4.setTop (mkF m 94 #[.val (.long q1), .second, .val (.long q2), .second, .val (.int p3), .val (.long ((own_rem (p3 >>> ((1 : Int32) &&& 31)) (130 : Int32)).toInt64)), .second, .val (.long (own_sh q1 ((own_rem (p3 >>> ((1 : Int32) &&& 31)) (130 : Int32)).toInt64))), .second] [(.long (1 : Int64)), (.long ((own_rem (p3 >>> ((1 : Int32) &&& 31)) (130 : Int32)).toInt64)), (.long q1), (.long (own_sh q1 ((own_rem (p3 >>> ((1 : Int32) &&& 31)) (130 : Int32)).toInt64)))])) _
    refine XS.lsub X4.here hx rfl (hb hby at_94) rfl ?_
    show Steps p.tables e below (T4.setTop (mkF m 95 #[.val (.long q1), .second, .val (.long q2), .second, .val (.int p3), .val (.long ((own_rem (p3 >>> ((1 : Int32) &&& 31)) (130 : Int32)).toInt64)), .second, .val (.long (own_sh q1 ((own_rem (p3 >>> ((1 : Int32) &&& 31)) (130 : Int32)).toInt64))), .second] [(.long (((own_rem (p3 >>> ((1 : Int32) &&& 31)) (130 : Int32)).toInt64) - (1 : Int64))), (.long q1), (.long (own_sh q1 ((own_rem (p3 >>> ((1 : Int32) &&& 31)) (130 : Int32)).toInt64)))])) _
    refine st5 _ ?_
    show Steps p.tables e below (T5.setTop (mkF m 98 #[.val (.long q1), .second, .val (.long q2), .second, .val (.int p3), .val (.long ((own_rem (p3 >>> ((1 : Int32) &&& 31)) (130 : Int32)).toInt64)), .second, .val (.long (own_sh q1 ((own_rem (p3 >>> ((1 : Int32) &&& 31)) (130 : Int32)).toInt64))), .second] [(.long (own_sh q1 (((own_rem (p3 >>> ((1 : Int32) &&& 31)) (130 : Int32)).toInt64) - (1 : Int64)))), (.long (own_sh q1 ((own_rem (p3 >>> ((1 : Int32) &&& 31)) (130 : Int32)).toInt64)))])) _
    refine X5.ldc2Long hx hown (mvT hZ (hw _ (List.mem_of_getElem? (i := 8) rfl))) (g := (mkF m 98 #[.val (.long q1), .second, .val (.long q2), .second, .val (.int p3), .val (.long ((own_rem (p3 >>> ((1 : Int32) &&& 31)) (130 : Int32)).toInt64)), .second, .val (.long (own_sh q1 ((own_rem (p3 >>> ((1 : Int32) &&& 31)) (130 : Int32)).toInt64))), .second] [(.long (own_sh q1 (((own_rem (p3 >>> ((1 : Int32) &&& 31)) (130 : Int32)).toInt64) - (1 : Int64)))), (.long (own_sh q1 ((own_rem (p3 >>> ((1 : Int32) &&& 31)) (130 : Int32)).toInt64)))])) rfl (hb hby at_98) _ ?_
    show Steps p.tables e below (T5.setTop (mkF m 101 #[.val (.long q1), .second, .val (.long q2), .second, .val (.int p3), .val (.long ((own_rem (p3 >>> ((1 : Int32) &&& 31)) (130 : Int32)).toInt64)), .second, .val (.long (own_sh q1 ((own_rem (p3 >>> ((1 : Int32) &&& 31)) (130 : Int32)).toInt64))), .second] [(.long (2 : Int64)), (.long (own_sh q1 (((own_rem (p3 >>> ((1 : Int32) &&& 31)) (130 : Int32)).toInt64) - (1 : Int64)))), (.long (own_sh q1 ((own_rem (p3 >>> ((1 : Int32) &&& 31)) (130 : Int32)).toInt64)))])) _
    refine XS.lmul X5.here hx rfl (hb hby at_101) rfl ?_
    show Steps p.tables e below (T5.setTop (mkF m 102 #[.val (.long q1), .second, .val (.long q2), .second, .val (.int p3), .val (.long ((own_rem (p3 >>> ((1 : Int32) &&& 31)) (130 : Int32)).toInt64)), .second, .val (.long (own_sh q1 ((own_rem (p3 >>> ((1 : Int32) &&& 31)) (130 : Int32)).toInt64))), .second] [(.long ((own_sh q1 (((own_rem (p3 >>> ((1 : Int32) &&& 31)) (130 : Int32)).toInt64) - (1 : Int64))) * (2 : Int64))), (.long (own_sh q1 ((own_rem (p3 >>> ((1 : Int32) &&& 31)) (130 : Int32)).toInt64)))])) _
    refine XS.lcmp X5.here hx rfl (hb hby at_102) rfl ?_
    show Steps p.tables e below (T5.setTop (mkF m 103 #[.val (.long q1), .second, .val (.long q2), .second, .val (.int p3), .val (.long ((own_rem (p3 >>> ((1 : Int32) &&& 31)) (130 : Int32)).toInt64)), .second, .val (.long (own_sh q1 ((own_rem (p3 >>> ((1 : Int32) &&& 31)) (130 : Int32)).toInt64))), .second] [(.int (lcmpW (own_sh q1 ((own_rem (p3 >>> ((1 : Int32) &&& 31)) (130 : Int32)).toInt64)) ((own_sh q1 (((own_rem (p3 >>> ((1 : Int32) &&& 31)) (130 : Int32)).toInt64) - (1 : Int64))) * (2 : Int64))))])) _
    refine XS.ifNo X5.here hx rfl (hb hby at_103) rfl ((if0 _ _).trans (teq ((lw_eq _ _).mpr (own_D _ _ ((lw_gt _ _).mp hc85) ((lw_lt _ _).mp hc36)) : (lcmpW (own_sh q1 ((own_rem (p3 >>> ((1 : Int32) &&& 31)) (130 : Int32)).toInt64)) ((own_sh q1 (((own_rem (p3 >>> ((1 : Int32) &&& 31)) (130 : Int32)).toInt64) - (1 : Int64))) * (2 : Int64))) = (0 : Int32))).2) ?_
    show Steps p.tables e below (T5.setTop (mkF m 106 #[.val (.long q1), .second, .val (.long q2), .second, .val (.int p3), .val (.long ((own_rem (p3 >>> ((1 : Int32) &&& 31)) (130 : Int32)).toInt64)), .second, .val (.long (own_sh q1 ((own_rem (p3 >>> ((1 : Int32) &&& 31)) (130 : Int32)).toInt64))), .second] [])) _
    refine XS.iconst X5.here hx rfl (hb hby at_106) ?_
    show Steps p.tables e below (T5.setTop (mkF m 107 #[.val (.long q1), .second, .val (.long q2), .second, .val (.int p3), .val (.long ((own_rem (p3 >>> ((1 : Int32) &&& 31)) (130 : Int32)).toInt64)), .second, .val (.long (own_sh q1 ((own_rem (p3 >>> ((1 : Int32) &&& 31)) (130 : Int32)).toInt64))), .second] [(.int (1 : Int32))])) _
    refine XS.goto X5.here hx rfl (pc0 := 107) (pc' := 111) rfl (hb hby at_107) (by decide) (by decide) ?_
    show Steps p.tables e below (T5.setTop (mkF m 111 #[.val (.long q1), .second, .val (.long q2), .second, .val (.int p3), .val (.long ((own_rem (p3 >>> ((1 : Int32) &&& 31)) (130 : Int32)).toInt64)), .second, .val (.long (own_sh q1 ((own_rem (p3 >>> ((1 : Int32) &&& 31)) (130 : Int32)).toInt64))), .second] [(.int (1 : Int32))])) _
    exact retN X5 hx (t := .boolean) Bd.returns (by simp) (hb hby at_111) hr
  · show Q0_tD Z q1 q2 p3 h0 n0 _ T5.heap _
    exact ⟨rfl, N5⟩
theorem pd_0_tE_0 : parseMethodDescriptor "(JJ)J" = some ⟨[.long, .long], some .long⟩ := by decide +kernel
theorem pd_0_tE_1 : parseMethodDescriptor "(J)J" = some ⟨[.long], some .long⟩ := by decide +kernel
def Q0_tE (Z : State) (q1 : Int64) (q2 : Int64) (p3 : Int32) (h0 : Heap) (n0 : Nat) (v : Option Value) (h : Heap) (L : List Loc) : Prop := v = some (.int (1 : Int32)) ∧ Fr n0 L
set_option maxRecDepth 65536 in
set_option maxHeartbeats 40000000 in
theorem rm0_tE (l : Launch) (Z : State) (a0 : Array Value) (hw : ∀ d ∈ tables_1, d.before a0 Z = true) (ws : List Jvm.Cond) (q1 : Int64) (q2 : Int64) (p3 : Int32) (h0 : Heap) (n0 : Nat) (Z0 : n0 ≤ h0.size) (hc4 : (p3 &&& (1 : Int32)) = (0 : Int32)) (hc36 : (lcmpW ((own_rem (p3 >>> ((1 : Int32) &&& 31)) (130 : Int32)).toInt64) (64 : Int64)) < (0 : Int32)) (hc45 : (0 : Int32) < (lcmpW ((own_rem (p3 >>> ((1 : Int32) &&& 31)) (130 : Int32)).toInt64) (-64 : Int64))) (hc65 : ¬ ((lcmpW ((own_rem (p3 >>> ((1 : Int32) &&& 31)) (130 : Int32)).toInt64) (0 : Int64)) = (0 : Int32))) (hc85 : ¬ ((0 : Int32) < (lcmpW ((own_rem (p3 >>> ((1 : Int32) &&& 31)) (130 : Int32)).toInt64) (0 : Int64)))) :
    MetFree l x (head1 (Jvm.Cond.code x code maxLocals ret :: ws) room_1) (fun a U => a = #[(.long q1), (.long q2), (.int p3)] ∧ Z.Warmed39 U.vm ∧ U.heap = h0) (fun _ _ _ _ _ => True) (fun _ U o U' => ∃ v L, o = .returned v ∧ Q0_tE Z q1 q2 p3 h0 n0 v U'.heap L ∧ FrameEnd U o U' L room_1.cells room_1.slots) := by
  refine MetFree.of_bodySF (plainFor_of_name pn_0) hisR ?_
  intro p e s m args below meth c s₁ Bd hml0 hP hK
  obtain ⟨rfl, hZ, hh⟩ := hP
  have hx := Bd.exec
  have hby := Bd.bytes
  have hml : c.maxLocals = 9 := hml0
  have hown : s.vm.findClass "org/graftloom/lua/LuaValuesShiftLeftPinLaw" = some m.cls := findClass_of_methodNamed Bd.named
  have hnm := (name_of_methodNamed Bd.named Bd.method).1
  have X0 : Stand p l e room_1 s m #[(.long q1), (.long q2), (.int p3)] below meth c s₁ [] 0 0 := Stand.of_body Bd
  have e0 : s₁.heap = h0 := by rw [← hh, Bd.state]; rfl
  have N0 := Fr.nil n0
  have pre0 : ∀ t, Steps p.tables e below (s₁.setTop (mkF m 0 #[.val (.long q1), .second, .val (.long q2), .second, .val (.int p3), .unset, .unset, .unset, .unset] [])) t → Steps p.tables e below (s₁.setTop (entryFrame m #[(.long q1), (.long q2), (.int p3)] maxLocals)) t := fun t k => castTop (ef_0 m q1 q2 p3) k
  obtain ⟨_, _, ⟨T4, L4, k4, n4⟩, -, X4, ⟨Lc4, hQ4, l4, y4, z4⟩, st4⟩ := Jvm.LawKit.callS X0 hx (y := (⟨"org/graftloom/lua/LuaValues", "shiftLeft", "(JJ)J"⟩ : MethodName)) hown (mvT hZ (hw _ (List.mem_of_getElem? (i := 0) rfl))) (mvT hZ (hw _ (List.mem_of_getElem? (i := 1) rfl))) (mvT hZ (hw _ (List.mem_of_getElem? (i := 2) rfl))) (mvT hZ (hw _ (List.mem_of_getElem? (i := 3) rfl))) (by decide) (backOf (W := 0) (rm1 l Z a0 hw [] q1 ((own_rem (p3 >>> ((1 : Int32) &&& 31)) (130 : Int32)).toInt64) h0 n0 Z0) hZ (hw _ (List.mem_of_getElem? (i := 3) rfl)) (hw _ (List.mem_of_getElem? (i := 2) rfl)) (by decide) (by decide)) (g := (mkF m 25 #[.val (.long q1), .second, .val (.long q2), .second, .val (.int p3), .val (.long ((own_rem (p3 >>> ((1 : Int32) &&& 31)) (130 : Int32)).toInt64)), .second, .unset, .unset] [(.long ((own_rem (p3 >>> ((1 : Int32) &&& 31)) (130 : Int32)).toInt64)), (.long q1)])) rfl (by rw [hml]; rfl) (argsL := [(.long q1), (.long ((own_rem (p3 >>> ((1 : Int32) &&& 31)) (130 : Int32)).toInt64))]) (rest := []) (lenOf pd_0_tE_0 rfl) rfl (by show 2 * 0 + _ ≤ _; exact Nat.le_of_eq rfl) (hb hby at_25) (fun _ _ => ⟨rfl, e0, (by decide : 0 + 0 ≤ _), (by decide : 0 + 0 ≤ _)⟩)
  dsimp only [Pt.U, Pt.locs, Pt.cells, Pt.slots] at X4 l4 y4 z4 st4 hQ4
  subst l4 y4 z4
  obtain ⟨rfl, N4q, e4q⟩ := hQ4
  have N4 := Fr.app N0 N4q
  obtain ⟨_, _, ⟨T5, L5, k5, n5⟩, -, X5, ⟨Lc5, hQ5, l5, y5, z5⟩, st5⟩ := Jvm.LawKit.callS X4 hx (y := (⟨"org/graftloom/lua/LuaValues", "shiftLeft", "(JJ)J"⟩ : MethodName)) hown (mvT hZ (hw _ (List.mem_of_getElem? (i := 0) rfl))) (mvT hZ (hw _ (List.mem_of_getElem? (i := 1) rfl))) (mvT hZ (hw _ (List.mem_of_getElem? (i := 2) rfl))) (mvT hZ (hw _ (List.mem_of_getElem? (i := 3) rfl))) (by decide) (backOf (W := 2) (rm1 l Z a0 hw [] q1 (((own_rem (p3 >>> ((1 : Int32) &&& 31)) (130 : Int32)).toInt64) + (1 : Int64)) h0 n0 Z0) hZ (hw _ (List.mem_of_getElem? (i := 3) rfl)) (hw _ (List.mem_of_getElem? (i := 2) rfl)) (by decide) (by decide)) (g := (mkF m 119 #[.val (.long q1), .second, .val (.long q2), .second, .val (.int p3), .val (.long ((own_rem (p3 >>> ((1 : Int32) &&& 31)) (130 : Int32)).toInt64)), .second, .val (.long (own_sh q1 ((own_rem (p3 >>> ((1 : Int32) &&& 31)) (130 : Int32)).toInt64))), .second] [(.long (((own_rem (p3 >>> ((1 : Int32) &&& 31)) (130 : Int32)).toInt64) + (1 : Int64))), (.long q1), (.long (own_sh q1 ((own_rem (p3 >>> ((1 : Int32) &&& 31)) (130 : Int32)).toInt64)))])) rfl (by rw [hml]; rfl) (argsL := [(.long q1), (.long (((own_rem (p3 >>> ((1 : Int32) &&& 31)) (130 : Int32)).toInt64) + (1 : Int64)))]) (rest := [(.long (own_sh q1 ((own_rem (p3 >>> ((1 : Int32) &&& 31)) (130 : Int32)).toInt64)))]) (lenOf pd_0_tE_0 rfl) rfl (by show 2 * 0 + _ ≤ _; exact Nat.le_of_eq rfl) (hb hby at_119) (fun _ _ => ⟨rfl, e4q, (by decide : 0 + 0 ≤ _), (by decide : 0 + 0 ≤ _)⟩)
  dsimp only [Pt.U, Pt.locs, Pt.cells, Pt.slots] at X5 l5 y5 z5 st5 hQ5
  subst l5 y5 z5
  obtain ⟨rfl, N5q, e5q⟩ := hQ5
  have N5 := Fr.app N4 N5q
  obtain ⟨_, _, ⟨T6, L6, k6, n6⟩, -, X6, ⟨Lc6, hQ6, l6, y6, z6⟩, st6⟩ := Jvm.LawKit.callS X5 hx (y := (⟨"org/graftloom/lua/LuaValuesShiftLeftPinLaw", "half", "(J)J"⟩ : MethodName)) hown (mvT hZ (hw _ (List.mem_of_getElem? (i := 9) rfl))) (mvT hZ (hw _ (List.mem_of_getElem? (i := 10) rfl))) (mvT hZ (hw _ (List.mem_of_getElem? (i := 11) rfl))) (mvT hZ (hw _ (List.mem_of_getElem? (i := 12) rfl))) (by decide) (backOf (W := 2) (rm2 l Z a0 hw [] (own_sh q1 (((own_rem (p3 >>> ((1 : Int32) &&& 31)) (130 : Int32)).toInt64) + (1 : Int64))) h0 n0 Z0) hZ (hw _ (List.mem_of_getElem? (i := 12) rfl)) (hw _ (List.mem_of_getElem? (i := 11) rfl)) (by decide) (by decide)) (g := (mkF m 122 #[.val (.long q1), .second, .val (.long q2), .second, .val (.int p3), .val (.long ((own_rem (p3 >>> ((1 : Int32) &&& 31)) (130 : Int32)).toInt64)), .second, .val (.long (own_sh q1 ((own_rem (p3 >>> ((1 : Int32) &&& 31)) (130 : Int32)).toInt64))), .second] [(.long (own_sh q1 (((own_rem (p3 >>> ((1 : Int32) &&& 31)) (130 : Int32)).toInt64) + (1 : Int64)))), (.long (own_sh q1 ((own_rem (p3 >>> ((1 : Int32) &&& 31)) (130 : Int32)).toInt64)))])) rfl (by rw [hml]; rfl) (argsL := [(.long (own_sh q1 (((own_rem (p3 >>> ((1 : Int32) &&& 31)) (130 : Int32)).toInt64) + (1 : Int64))))]) (rest := [(.long (own_sh q1 ((own_rem (p3 >>> ((1 : Int32) &&& 31)) (130 : Int32)).toInt64)))]) (lenOf pd_0_tE_1 rfl) rfl (by show 2 * 0 + _ ≤ _; exact Nat.le_of_eq rfl) (hb hby at_122) (fun _ _ => ⟨rfl, e5q, (by decide : 0 + 0 ≤ _), (by decide : 0 + 0 ≤ _)⟩)
  dsimp only [Pt.U, Pt.locs, Pt.cells, Pt.slots] at X6 l6 y6 z6 st6 hQ6
  subst l6 y6 z6
  obtain ⟨rfl, N6q, e6q⟩ := hQ6
  have N6 := Fr.app N5 N6q
  obtain ⟨fs, hr, hrun, hended, hW, hsame⟩ := X6.leave (v := some (.int (1 : Int32))) (fun h => by rw [Bd.returns] at h; cases h)
  refine ⟨_, _, pre0 _ ?_, hrun, hended, _, _, rfl, ?_, ⟨_, rfl⟩, hW, hsame.mono (by decide) (by decide)⟩
  · show Steps p.tables e below (s₁.setTop (mkF m 0 #[.val (.long q1), .second, .val (.long q2), .second, .val (.int p3), .unset, .unset, .unset, .unset] [])) _
    refine XS.iload X0.here hx rfl (hb hby at_0) rfl ?_
    show Steps p.tables e below (s₁.setTop (mkF m 2 #[.val (.long q1), .second, .val (.long q2), .second, .val (.int p3), .unset, .unset, .unset, .unset] [(.int p3)])) _
    refine XS.iconst X0.here hx rfl (hb hby at_2) ?_
    show Steps p.tables e below (s₁.setTop (mkF m 3 #[.val (.long q1), .second, .val (.long q2), .second, .val (.int p3), .unset, .unset, .unset, .unset] [(.int (1 : Int32)), (.int p3)])) _
    refine XS.iand X0.here hx rfl (hb hby at_3) rfl ?_
    show Steps p.tables e below (s₁.setTop (mkF m 4 #[.val (.long q1), .second, .val (.long q2), .second, .val (.int p3), .unset, .unset, .unset, .unset] [(.int (p3 &&& (1 : Int32)))])) _
    refine XS.ifYes X0.here hx rfl (pc0 := 4) (pc' := 11) rfl (hb hby at_4) rfl ((if0 _ _).trans (teq hc4).1) (by decide) (by decide) ?_
    show Steps p.tables e below (s₁.setTop (mkF m 11 #[.val (.long q1), .second, .val (.long q2), .second, .val (.int p3), .unset, .unset, .unset, .unset] [])) _
    refine XS.iload X0.here hx rfl (hb hby at_11) rfl ?_
    show Steps p.tables e below (s₁.setTop (mkF m 13 #[.val (.long q1), .second, .val (.long q2), .second, .val (.int p3), .unset, .unset, .unset, .unset] [(.int p3)])) _
    refine XS.iconst X0.here hx rfl (hb hby at_13) ?_
    show Steps p.tables e below (s₁.setTop (mkF m 14 #[.val (.long q1), .second, .val (.long q2), .second, .val (.int p3), .unset, .unset, .unset, .unset] [(.int (1 : Int32)), (.int p3)])) _
    refine XS.ishr X0.here hx rfl (hb hby at_14) rfl ?_
    show Steps p.tables e below (s₁.setTop (mkF m 15 #[.val (.long q1), .second, .val (.long q2), .second, .val (.int p3), .unset, .unset, .unset, .unset] [(.int (p3 >>> ((1 : Int32) &&& 31)))])) _
    refine XS.sipush X0.here hx rfl (hb hby at_15) ?_
    show Steps p.tables e below (s₁.setTop (mkF m 18 #[.val (.long q1), .second, .val (.long q2), .second, .val (.int p3), .unset, .unset, .unset, .unset] [(.int (130 : Int32)), (.int (p3 >>> ((1 : Int32) &&& 31)))])) _
    refine XS.irem X0.here hx rfl (hb hby at_18) rfl (by decide) ?_
    show Steps p.tables e below (s₁.setTop (mkF m 19 #[.val (.long q1), .second, .val (.long q2), .second, .val (.int p3), .unset, .unset, .unset, .unset] [(.int (own_rem (p3 >>> ((1 : Int32) &&& 31)) (130 : Int32)))])) _
    refine XS.i2l X0.here hx rfl (hb hby at_19) rfl ?_
    show Steps p.tables e below (s₁.setTop (mkF m 20 #[.val (.long q1), .second, .val (.long q2), .second, .val (.int p3), .unset, .unset, .unset, .unset] [(.long ((own_rem (p3 >>> ((1 : Int32) &&& 31)) (130 : Int32)).toInt64))])) _
    refine XS.lstore X0.here hx rfl (hb hby at_20) rfl (l' := #[.val (.long q1), .second, .val (.long q2), .second, .val (.int p3), .val (.long ((own_rem (p3 >>> ((1 : Int32) &&& 31)) (130 : Int32)).toInt64)), .second, .unset, .unset]) rfl ?_
    show Steps p.tables e below (s₁.setTop (mkF m 22 #[.val (.long q1), .second, .val (.long q2), .second, .val (.int p3), .val (.long ((own_rem (p3 >>> ((1 : Int32) &&& 31)) (130 : Int32)).toInt64)), .second, .unset, .unset] [])) _
    refine XS.lloadN X0.here hx rfl (hb hby at_22) rfl ?_
    show Steps p.tables e below (s₁.setTop (mkF m 23 #[.val (.long q1), .second, .val (.long q2), .second, .val (.int p3), .val (.long ((own_rem (p3 >>> ((1 : Int32) &&& 31)) (130 : Int32)).toInt64)), .second, .unset, .unset] [(.long q1)])) _
    refine XS.lload X0.here hx rfl (hb hby at_23) rfl ?_
    show Steps p.tables e below (s₁.setTop (mkF m 25 #[.val (.long q1), .second, .val (.long q2), .second, .val (.int p3), .val (.long ((own_rem (p3 >>> ((1 : Int32) &&& 31)) (130 : Int32)).toInt64)), .second, .unset, .unset] [(.long ((own_rem (p3 >>> ((1 : Int32) &&& 31)) (130 : Int32)).toInt64)), (.long q1)])) _
    refine st4 _ ?_
    show Steps p.tables e below (T4.setTop (mkF m 28 #[.val (.long q1), .second, .val (.long q2), .second, .val (.int p3), .val (.long ((own_rem (p3 >>> ((1 : Int32) &&& 31)) (130 : Int32)).toInt64)), .second, .unset, .unset] [(.long (own_sh q1 ((own_rem (p3 >>> ((1 : Int32) &&& 31)) (130 : Int32)).toInt64)))])) _
    refine XS.lstore X4.here hx rfl (hb hby at_28) rfl (l' := #[.val (.long q1), .second, .val (.long q2), .second, .val (.int p3), .val (.long ((own_rem (p3 >>> ((1 : Int32) &&& 31)) (130 : Int32)).toInt64)), .second, .val (.long (own_sh q1 ((own_rem (p3 >>> ((1 : Int32) &&& 31)) (130 : Int32)).toInt64))), .second]) rfl ?_
    show Steps p.tables e below (T4.setTop (mkF m 30 #[.val (.long q1), .second, .val (.long q2), .second, .val (.int p3), .val (.long ((own_rem (p3 >>> ((1 : Int32) &&& 31)) (130 : Int32)).toInt64)), .second, .val (.long (own_sh q1 ((own_rem (p3 >>> ((1 : Int32) &&& 31)) (130 : Int32)).toInt64))), .second] [])) _
    refine XS.lload X4.here hx rfl (hb hby at_30) rfl ?_
    show Steps p.tables e below (T4.setTop (mkF m 32 #[.val (.long q1), .second, .val (.long q2), .second, .val (.int p3), .val (.long ((own_rem (p3 >>> ((1 : Int32) &&& 31)) (130 : Int32)).toInt64)), .second, .val (.long (own_sh q1 ((own_rem (p3 >>> ((1 : Int32) &&& 31)) (130 : Int32)).toInt64))), .second] [(.long ((own_rem (p3 >>> ((1 : Int32) &&& 31)) (130 : Int32)).toInt64))])) _
    refine X4.ldc2Long hx hown (mvT hZ (hw _ (List.mem_of_getElem? (i := 6) rfl))) (g := (mkF m 32 #[.val (.long q1), .second, .val (.long q2), .second, .val (.int p3), .val (.long ((own_rem (p3 >>> ((1 : Int32) &&& 31)) (130 : Int32)).toInt64)), .second, .val (.long (own_sh q1 ((own_rem (p3 >>> ((1 : Int32) &&& 31)) (130 : Int32)).toInt64))), .second] [(.long ((own_rem (p3 >>> ((1 : Int32) &&& 31)) (130 : Int32)).toInt64))])) rfl (hb hby at_32) _ ?_
    show Steps p.tables e below (T4.setTop (mkF m 35 #[.val (.long q1), .second, .val (.long q2), .second, .val (.int p3), .val (.long ((own_rem (p3 >>> ((1 : Int32) &&& 31)) (130 : Int32)).toInt64)), .second, .val (.long (own_sh q1 ((own_rem (p3 >>> ((1 : Int32) &&& 31)) (130 : Int32)).toInt64))), .second] [(.long (64 : Int64)), (.long ((own_rem (p3 >>> ((1 : Int32) &&& 31)) (130 : Int32)).toInt64))])) _
    refine XS.lcmp X4.here hx rfl (hb hby at_35) rfl ?_
    show Steps p.tables e below (T4.setTop (mkF m 36 #[.val (.long q1), .second, .val (.long q2), .second, .val (.int p3), .val (.long ((own_rem (p3 >>> ((1 : Int32) &&& 31)) (130 : Int32)).toInt64)), .second, .val (.long (own_sh q1 ((own_rem (p3 >>> ((1 : Int32) &&& 31)) (130 : Int32)).toInt64))), .second] [(.int (lcmpW ((own_rem (p3 >>> ((1 : Int32) &&& 31)) (130 : Int32)).toInt64) (64 : Int64)))])) _
    refine XS.ifNo X4.here hx rfl (hb hby at_36) rfl ((if0 _ _).trans (tlt hc36).2.1) ?_
    show Steps p.tables e below (T4.setTop (mkF m 39 #[.val (.long q1), .second, .val (.long q2), .second, .val (.int p3), .val (.long ((own_rem (p3 >>> ((1 : Int32) &&& 31)) (130 : Int32)).toInt64)), .second, .val (.long (own_sh q1 ((own_rem (p3 >>> ((1 : Int32) &&& 31)) (130 : Int32)).toInt64))), .second] [])) _
    refine XS.lload X4.here hx rfl (hb hby at_39) rfl ?_
    show Steps p.tables e below (T4.setTop (mkF m 41 #[.val (.long q1), .second, .val (.long q2), .second, .val (.int p3), .val (.long ((own_rem (p3 >>> ((1 : Int32) &&& 31)) (130 : Int32)).toInt64)), .second, .val (.long (own_sh q1 ((own_rem (p3 >>> ((1 : Int32) &&& 31)) (130 : Int32)).toInt64))), .second] [(.long ((own_rem (p3 >>> ((1 : Int32) &&& 31)) (130 : Int32)).toInt64))])) _
    refine X4.ldc2Long hx hown (mvT hZ (hw _ (List.mem_of_getElem? (i := 7) rfl))) (g := (mkF m 41 #[.val (.long q1), .second, .val (.long q2), .second, .val (.int p3), .val (.long ((own_rem (p3 >>> ((1 : Int32) &&& 31)) (130 : Int32)).toInt64)), .second, .val (.long (own_sh q1 ((own_rem (p3 >>> ((1 : Int32) &&& 31)) (130 : Int32)).toInt64))), .second] [(.long ((own_rem (p3 >>> ((1 : Int32) &&& 31)) (130 : Int32)).toInt64))])) rfl (hb hby at_41) _ ?_
    show Steps p.tables e below (T4.setTop (mkF m 44 #[.val (.long q1), .second, .val (.long q2), .second, .val (.int p3), .val (.long ((own_rem (p3 >>> ((1 : Int32) &&& 31)) (130 : Int32)).toInt64)), .second, .val (.long (own_sh q1 ((own_rem (p3 >>> ((1 : Int32) &&& 31)) (130 : Int32)).toInt64))), .second] [(.long (-64 : Int64)), (.long ((own_rem (p3 >>> ((1 : Int32) &&& 31)) (130 : Int32)).toInt64))])) _
    refine XS.lcmp X4.here hx rfl (hb hby at_44) rfl ?_
    show Steps p.tables e below (T4.setTop (mkF m 45 #[.val (.long q1), .second, .val (.long q2), .second, .val (.int p3), .val (.long ((own_rem (p3 >>> ((1 : Int32) &&& 31)) (130 : Int32)).toInt64)), .second, .val (.long (own_sh q1 ((own_rem (p3 >>> ((1 : Int32) &&& 31)) (130 : Int32)).toInt64))), .second] [(.int (lcmpW ((own_rem (p3 >>> ((1 : Int32) &&& 31)) (130 : Int32)).toInt64) (-64 : Int64)))])) _
    refine XS.ifYes X4.here hx rfl (pc0 := 45) (pc' := 61) rfl (hb hby at_45) rfl ((if0 _ _).trans (tlt hc45).2.2.1) (by decide) (by decide) ?_
    show Steps p.tables e below (T4.setTop (mkF m 61 #[.val (.long q1), .second, .val (.long q2), .second, .val (.int p3), .val (.long ((own_rem (p3 >>> ((1 : Int32) &&& 31)) (130 : Int32)).toInt64)), .second, .val (.long (own_sh q1 ((own_rem (p3 >>> ((1 : Int32) &&& 31)) (130 : Int32)).toInt64))), .second] [])) _
    refine XS.lload X4.here hx rfl (hb hby at_61) rfl ?_
    show Steps p.tables e below (T4.setTop (mkF m 63 #[.val (.long q1), .second, .val (.long q2), .second, .val (.int p3), .val (.long ((own_rem (p3 >>> ((1 : Int32) &&& 31)) (130 : Int32)).toInt64)), .second, .val (.long (own_sh q1 ((own_rem (p3 >>> ((1 : Int32) &&& 31)) (130 : Int32)).toInt64))), .second] [(.long ((own_rem (p3 >>> ((1 : Int32) &&& 31)) (130 : Int32)).toInt64))])) _
    refine XS.lconst X4.here hx rfl (hb hby at_63) ?_
    show Steps p.tables e below (T4.setTop (mkF m 64 #[.val (.long q1), .second, .val (.long q2), .second, .val (.int p3), .val (.long ((own_rem (p3 >>> ((1 : Int32) &&& 31)) (130 : Int32)).toInt64)), .second, .val (.long (own_sh q1 ((own_rem (p3 >>> ((1 : Int32) &&& 31)) (130 : Int32)).toInt64))), .second] [(.long (0 : Int64)), (.long ((own_rem (p3 >>> ((1 : Int32) &&& 31)) (130 : Int32)).toInt64))])) _
    refine XS.lcmp X4.here hx rfl (hb hby at_64) rfl ?_
    show Steps p.tables e below (T4.setTop (mkF m 65 #[.val (.long q1), .second, .val (.long q2), .second, .val (.int p3), .val (.long ((own_rem (p3 >>> ((1 : Int32) &&& 31)) (130 : Int32)).toInt64)), .second, .val (.long (own_sh q1 ((own_rem (p3 >>> ((1 : Int32) &&& 31)) (130 : Int32)).toInt64))), .second] [(.int (lcmpW ((own_rem (p3 >>> ((1 : Int32) &&& 31)) (130 : Int32)).toInt64) (0 : Int64)))])) _
    refine XS.ifYes X4.here hx rfl (pc0 := 65) (pc' := 81) rfl (hb hby at_65) rfl ((if0 _ _).trans (feq hc65).2) (by decide) (by decide) ?_
    show Steps p.tables e below (T4.setTop (mkF m 81 #[.val (.long q1), .second, .val (.long q2), .second, .val (.int p3), .val (.long ((own_rem (p3 >>> ((1 : Int32) &&& 31)) (130 : Int32)).toInt64)), .second, .val (.long (own_sh q1 ((own_rem (p3 >>> ((1 : Int32) &&& 31)) (130 : Int32)).toInt64))), .second] [])) _
    refine XS.lload X4.here hx rfl (hb hby at_81) rfl ?_
    show Steps p.tables e below (T4.setTop (mkF m 83 #[.val (.long q1), .second, .val (.long q2), .second, .val (.int p3), .val (.long ((own_rem (p3 >>> ((1 : Int32) &&& 31)) (130 : Int32)).toInt64)), .second, .val (.long (own_sh q1 ((own_rem (p3 >>> ((1 : Int32) &&& 31)) (130 : Int32)).toInt64))), .second] [(.long ((own_rem (p3 >>> ((1 : Int32) &&& 31)) (130 : Int32)).toInt64))])) _
    refine XS.lconst X4.here hx rfl (hb hby at_83) ?_
    show Steps p.tables e below (T4.setTop (mkF m 84 #[.val (.long q1), .second, .val (.long q2), .second, .val (.int p3), .val (.long ((own_rem (p3 >>> ((1 : Int32) &&& 31)) (130 : Int32)).toInt64)), .second, .val (.long (own_sh q1 ((own_rem (p3 >>> ((1 : Int32) &&& 31)) (130 : Int32)).toInt64))), .second] [(.long (0 : Int64)), (.long ((own_rem (p3 >>> ((1 : Int32) &&& 31)) (130 : Int32)).toInt64))])) _
    refine XS.lcmp X4.here hx rfl (hb hby at_84) rfl ?_
    show Steps p.tables e below (T4.setTop (mkF m 85 #[.val (.long q1), .second, .val (.long q2), .second, .val (.int p3), .val (.long ((own_rem (p3 >>> ((1 : Int32) &&& 31)) (130 : Int32)).toInt64)), .second, .val (.long (own_sh q1 ((own_rem (p3 >>> ((1 : Int32) &&& 31)) (130 : Int32)).toInt64))), .second] [(.int (lcmpW ((own_rem (p3 >>> ((1 : Int32) &&& 31)) (130 : Int32)).toInt64) (0 : Int64)))])) _
    refine XS.ifYes X4.here hx rfl (pc0 := 85) (pc' := 112) rfl (hb hby at_85) rfl ((if0 _ _).trans (flt hc85).2.2.2) (by decide) (by decide) ?_
    show Steps p.tables e below (T4.setTop (mkF m 112 #[.val (.long q1), .second, .val (.long q2), .second, .val (.int p3), .val (.long ((own_rem (p3 >>> ((1 : Int32) &&& 31)) (130 : Int32)).toInt64)), .second, .val (.long (own_sh q1 ((own_rem (p3 >>> ((1 : Int32) &&& 31)) (130 : Int32)).toInt64))), .second] [])) _
    refine XS.lload X4.here hx rfl (hb hby at_112) rfl ?_
    show Steps p.tables e below (T4.setTop (mkF m 114 #[.val (.long q1), .second, .val (.long q2), .second, .val (.int p3), .val (.long ((own_rem (p3 >>> ((1 : Int32) &&& 31)) (130 : Int32)).toInt64)), .second, .val (.long (own_sh q1 ((own_rem (p3 >>> ((1 : Int32) &&& 31)) (130 : Int32)).toInt64))), .second] [(.long (own_sh q1 ((own_rem (p3 >>> ((1 : Int32) &&& 31)) (130 : Int32)).toInt64)))])) _
    refine XS.lloadN X4.here hx rfl (hb hby at_114) rfl ?_
    show Steps p.tables e below (T4.setTop (mkF m 115 #[.val (.long q1), .second, .val (.long q2), .second, .val (.int p3), .val (.long ((own_rem (p3 >>> ((1 : Int32) &&& 31)) (130 : Int32)).toInt64)), .second, .val (.long (own_sh q1 ((own_rem (p3 >>> ((1 : Int32) &&& 31)) (130 : Int32)).toInt64))), .second] [(.long q1), (.long (own_sh q1 ((own_rem (p3 >>> ((1 : Int32) &&& 31)) (130 : Int32)).toInt64)))])) _
    refine XS.lload X4.here hx rfl (hb hby at_115) rfl ?_
    show Steps p.tables e below (T4.setTop (mkF m 117 #[.val (.long q1), .second, .val (.long q2), .second, .val (.int p3), .val (.long ((own_rem (p3 >>> ((1 : Int32) &&& 31)) (130 : Int32)).toInt64)), .second, .val (.long (own_sh q1 ((own_rem (p3 >>> ((1 : Int32) &&& 31)) (130 : Int32)).toInt64))), .second] [(.long ((own_rem (p3 >>> ((1 : Int32) &&& 31)) (130 : Int32)).toInt64)), (.long q1), (.long (own_sh q1 ((own_rem (p3 >>> ((1 : Int32) &&& 31)) (130 : Int32)).toInt64)))])) _
    refine XS.lconst X4.here hx rfl (hb hby at_117) ?_
    show Steps p.tables e below (T4.setTop (mkF m 118 #[.val (.long q1), .second, .val (.long q2), .second, .val (.int p3), .val (.long ((own_rem (p3 >>> ((1 : Int32) &&& 31)) (130 : Int32)).toInt64)), .second, .val (.long (own_sh q1 ((own_rem (p3 >>> ((1 : Int32) &&& 31)) (130 : Int32)).toInt64))), .second] [(.long (1 : Int64)), (.long ((own_rem (p3 >>> ((1 : Int32) &&& 31)) (130 : Int32)).toInt64)), (.long q1), (.long (own_sh q1 ((own_rem (p3 >>> ((1 : Int32) &&& 31)) (130 : Int32)).toInt64)))])) _
    refine XS.ladd X4.here hx rfl (hb hby at_118) rfl ?_
    show Steps p.tables e below (T4.setTop (mkF m 119 #[.val (.long q1), .second, .val (.long q2), .second, .val (.int p3), .val (.long ((own_rem (p3 >>> ((1 : Int32) &&& 31)) (130 : Int32)).toInt64)), .second, .val (.long (own_sh q1 ((own_rem (p3 >>> ((1 : Int32) &&& 31)) (130 : Int32)).toInt64))), .second] [(.long (((own_rem (p3 >>> ((1 : Int32) &&& 31)) (130 : Int32)).toInt64) + (1 : Int64))), (.long q1), (.long (own_sh q1 ((own_rem (p3 >>> ((1 : Int32) &&& 31)) (130 : Int32)).toInt64)))])) _
    refine st5 _ ?_
    show Steps p.tables e below (T5.setTop (mkF m 122 #[.val (.long q1), .second, .val (.long q2), .second, .val (.int p3), .val (.long ((own_rem (p3 >>> ((1 : Int32) &&& 31)) (130 : Int32)).toInt64)), .second, .val (.long (own_sh q1 ((own_rem (p3 >>> ((1 : Int32) &&& 31)) (130 : Int32)).toInt64))), .second] [(.long (own_sh q1 (((own_rem (p3 >>> ((1 : Int32) &&& 31)) (130 : Int32)).toInt64) + (1 : Int64)))), (.long (own_sh q1 ((own_rem (p3 >>> ((1 : Int32) &&& 31)) (130 : Int32)).toInt64)))])) _
    refine st6 _ ?_
    show Steps p.tables e below (T6.setTop (mkF m 125 #[.val (.long q1), .second, .val (.long q2), .second, .val (.int p3), .val (.long ((own_rem (p3 >>> ((1 : Int32) &&& 31)) (130 : Int32)).toInt64)), .second, .val (.long (own_sh q1 ((own_rem (p3 >>> ((1 : Int32) &&& 31)) (130 : Int32)).toInt64))), .second] [(.long ((((own_sh q1 (((own_rem (p3 >>> ((1 : Int32) &&& 31)) (130 : Int32)).toInt64) + (1 : Int64))) &&& (-2 : Int64)) / (2 : Int64)) &&& (9223372036854775807 : Int64))), (.long (own_sh q1 ((own_rem (p3 >>> ((1 : Int32) &&& 31)) (130 : Int32)).toInt64)))])) _
    refine XS.lcmp X6.here hx rfl (hb hby at_125) rfl ?_
    show Steps p.tables e below (T6.setTop (mkF m 126 #[.val (.long q1), .second, .val (.long q2), .second, .val (.int p3), .val (.long ((own_rem (p3 >>> ((1 : Int32) &&& 31)) (130 : Int32)).toInt64)), .second, .val (.long (own_sh q1 ((own_rem (p3 >>> ((1 : Int32) &&& 31)) (130 : Int32)).toInt64))), .second] [(.int (lcmpW (own_sh q1 ((own_rem (p3 >>> ((1 : Int32) &&& 31)) (130 : Int32)).toInt64)) ((((own_sh q1 (((own_rem (p3 >>> ((1 : Int32) &&& 31)) (130 : Int32)).toInt64) + (1 : Int64))) &&& (-2 : Int64)) / (2 : Int64)) &&& (9223372036854775807 : Int64))))])) _
    refine XS.ifNo X6.here hx rfl (hb hby at_126) rfl ((if0 _ _).trans (teq ((lw_eq _ _).mpr (own_E _ _ (own_lt0 hc65 hc85) ((lw_gt _ _).mp hc45)) : (lcmpW (own_sh q1 ((own_rem (p3 >>> ((1 : Int32) &&& 31)) (130 : Int32)).toInt64)) ((((own_sh q1 (((own_rem (p3 >>> ((1 : Int32) &&& 31)) (130 : Int32)).toInt64) + (1 : Int64))) &&& (-2 : Int64)) / (2 : Int64)) &&& (9223372036854775807 : Int64))) = (0 : Int32))).2) ?_
    show Steps p.tables e below (T6.setTop (mkF m 129 #[.val (.long q1), .second, .val (.long q2), .second, .val (.int p3), .val (.long ((own_rem (p3 >>> ((1 : Int32) &&& 31)) (130 : Int32)).toInt64)), .second, .val (.long (own_sh q1 ((own_rem (p3 >>> ((1 : Int32) &&& 31)) (130 : Int32)).toInt64))), .second] [])) _
    refine XS.iconst X6.here hx rfl (hb hby at_129) ?_
    show Steps p.tables e below (T6.setTop (mkF m 130 #[.val (.long q1), .second, .val (.long q2), .second, .val (.int p3), .val (.long ((own_rem (p3 >>> ((1 : Int32) &&& 31)) (130 : Int32)).toInt64)), .second, .val (.long (own_sh q1 ((own_rem (p3 >>> ((1 : Int32) &&& 31)) (130 : Int32)).toInt64))), .second] [(.int (1 : Int32))])) _
    refine XS.goto X6.here hx rfl (pc0 := 130) (pc' := 134) rfl (hb hby at_130) (by decide) (by decide) ?_
    show Steps p.tables e below (T6.setTop (mkF m 134 #[.val (.long q1), .second, .val (.long q2), .second, .val (.int p3), .val (.long ((own_rem (p3 >>> ((1 : Int32) &&& 31)) (130 : Int32)).toInt64)), .second, .val (.long (own_sh q1 ((own_rem (p3 >>> ((1 : Int32) &&& 31)) (130 : Int32)).toInt64))), .second] [(.int (1 : Int32))])) _
    exact retN X6 hx (t := .boolean) Bd.returns (by simp) (hb hby at_134) hr
  · show Q0_tE Z q1 q2 p3 h0 n0 _ T6.heap _
    exact ⟨rfl, N6⟩
def Q0 (v : Option Value) (L : List Loc) (n0 : Nat) : Prop := v = some (.int (1 : Int32)) ∧ Fr n0 L
set_option maxHeartbeats 4000000 in
theorem rm0 (l : Launch) (Z : State) (a0 : Array Value) (hw : ∀ d ∈ tables_1, d.before a0 Z = true) (ws : List Jvm.Cond) (q1 : Int64) (q2 : Int64) (p3 : Int32) (h0 : Heap) (n0 : Nat) (Z0 : n0 ≤ h0.size) :
    MetFree l x (head1 (Jvm.Cond.code x code maxLocals ret :: ws) room_1) (fun a U => a = #[(.long q1), (.long q2), (.int p3)] ∧ Z.Warmed39 U.vm ∧ U.heap = h0) (fun _ _ _ _ _ => True) (fun _ U o U' => ∃ v L, o = .returned v ∧ Q0 v L n0 ∧ FrameEnd U o U' L room_1.cells room_1.slots) := by
  by_cases hc4 : (p3 &&& (1 : Int32)) = (0 : Int32)
  · by_cases hc36 : (lcmpW ((own_rem (p3 >>> ((1 : Int32) &&& 31)) (130 : Int32)).toInt64) (64 : Int64)) < (0 : Int32)
    · by_cases hc45 : (0 : Int32) < (lcmpW ((own_rem (p3 >>> ((1 : Int32) &&& 31)) (130 : Int32)).toInt64) (-64 : Int64))
      · by_cases hc65 : (lcmpW ((own_rem (p3 >>> ((1 : Int32) &&& 31)) (130 : Int32)).toInt64) (0 : Int64)) = (0 : Int32)
        · exact rm0_tC l Z a0 hw ws q1 q2 p3 h0 n0 Z0 hc4 hc36 hc45 hc65
        · by_cases hc85 : (0 : Int32) < (lcmpW ((own_rem (p3 >>> ((1 : Int32) &&& 31)) (130 : Int32)).toInt64) (0 : Int64))
          · exact rm0_tD l Z a0 hw ws q1 q2 p3 h0 n0 Z0 hc4 hc36 hc45 hc65 hc85
          · exact rm0_tE l Z a0 hw ws q1 q2 p3 h0 n0 Z0 hc4 hc36 hc45 hc65 hc85
      · exact rm0_tB l Z a0 hw ws q1 q2 p3 h0 n0 Z0 hc4 hc36 hc45
    · exact rm0_tA l Z a0 hw ws q1 q2 p3 h0 n0 Z0 hc4 hc36
  · by_cases hc36 : (lcmpW q2 (64 : Int64)) < (0 : Int32)
    · by_cases hc45 : (0 : Int32) < (lcmpW q2 (-64 : Int64))
      · by_cases hc65 : (lcmpW q2 (0 : Int64)) = (0 : Int32)
        · exact rm0_fC l Z a0 hw ws q1 q2 p3 h0 n0 Z0 hc4 hc36 hc45 hc65
        · by_cases hc85 : (0 : Int32) < (lcmpW q2 (0 : Int64))
          · exact rm0_fD l Z a0 hw ws q1 q2 p3 h0 n0 Z0 hc4 hc36 hc45 hc65 hc85
          · exact rm0_fE l Z a0 hw ws q1 q2 p3 h0 n0 Z0 hc4 hc36 hc45 hc65 hc85
      · exact rm0_fB l Z a0 hw ws q1 q2 p3 h0 n0 Z0 hc4 hc36 hc45
    · exact rm0_fA l Z a0 hw ws q1 q2 p3 h0 n0 Z0 hc4 hc36
set_option maxRecDepth 65536 in
set_option maxHeartbeats 40000000 in
theorem comes_1 {Post : Tables → Env → Array Value → State → Outcome → State → Prop} (hpost : ∀ tb e args s v u, (limb_1_1.after args s (.returned v) u = true ∧ limb_1_2.after args s (.returned v) u = true ∧ True) → FrameEnd s (.returned v) u (Jvm.fieldLocs frame_1_writes args s ++ Jvm.arrayLocs frame_1_arrays args s ++ Jvm.staticLocs frame_1_statics s) 0 0 → Post tb e args s (.returned v) u) :
    ArmFor flags0 classFile x code maxLocals ret World_1 tables_1 room_1 Calls_1 rest_1 Pre_1 Post := by
  intro l hfl _ _ p e ha hc hk s m args below hf hA hF happ hP
  obtain ⟨hcalls, hrest, hpre⟩ := hP
  obtain ⟨-, -, -, hnamed, -, -, -, hat⟩ := (Spec.applies_iff hf).mp happ
  obtain ⟨hg, hn⟩ := and_e (Cond.before_iff.mp (show (Jvm.Cond.and given_1 narrow_1).before args s = true from hpre))
  obtain ⟨g7, g8⟩ := and_e hg
  obtain ⟨g9, g10⟩ := and_e g8
  obtain ⟨g11, g12⟩ := and_e g10
  obtain ⟨w0, w1, w2, rfl⟩ : ∃ w0 w1 w2 : Value, args = #[w0, w1, w2] := by
    have hs : args.size = 3 := by simpa [Cond.value, given_1] using g7
    obtain ⟨L⟩ := args
    match L, hs with
    | [w0, w1, w2], _ => exact ⟨w0, w1, w2, rfl⟩
  have hw := fun d (hd : d ∈ tables_1) => atoms_spec (ws := Jvm.Cond.code x code maxLocals ret :: tables_1) hat d (List.mem_cons_of_mem _ hd)
  have hfit : Fit s := fun {y c} hc i hi => by
    obtain ⟨ha, rfl⟩ := Array.getElem?_eq_some_iff.mp hc
    have q := List.all_eq_true.mp ((Array.all_eq_true_iff_forall_mem.mp hF) _ (Array.getElem_mem ha)) i (List.mem_range.mpr hi)
    simpa [Array.getElem?_eq_getElem hi] using q
  obtain ⟨i0, ei0⟩ := isL_v g9
  obtain rfl : w0 = (.long i0) := Option.some.inj ei0
  obtain ⟨i1, ei1⟩ := isL_v g11
  obtain rfl : w1 = (.long i1) := Option.some.inj ei1
  obtain ⟨i2, ei2⟩ := is_v g12
  obtain rfl : w2 = (.int i2) := Option.some.inj ei2
  obtain ⟨n, o, h1, h2, h3, _, L, rfl, ⟨rfl, N⟩, hq⟩ := rm0 l s _ hw tables_1 i0 i1 i2 s.heap s.heap.size (Nat.le_refl _) p e ha hc hk s m _ below hf ((Spec.applies_iff_loose hf).mp happ).1 ⟨rfl, State.Warmed39.refl s, rfl⟩ trivial
  refine ⟨n, _, h1, h2, h3, hpost _ _ _ _ _ _ ⟨Cond.after_iff.mpr rfl, Cond.after_iff.mpr (eq_i res_at (Term.int_eval (1)) rfl), trivial⟩ ⟨hq.1, hq.2.1, (hq.2.2.sift fun y hy => Or.inr (N y hy)).mono (by decide) (by decide)⟩⟩
theorem main_1_1 : Claimed_1_1 := comes_1 fun _ _ _ _ _ _ h hF => ⟨h.1, hF⟩
theorem main_1_2 : Claimed_1_2 := comes_1 fun _ _ _ _ _ _ h hF => ⟨h.2.1, hF⟩
end Jvm.Pilot.@@N@@
namespace Jvm.Pilot.@@N@@
open Jvm Jvm.ClassFile Sem Op Lib Jvm.Free Jvm.Stand Jvm.Pilot.@@N@@.Jvm.D
/-! MADE BY PROGRAM (witnessworld.py) out of the Statement's table words and the real class files: 9 classes; the members and pool entries that the words name. The judged class is class 1, her method 2. -/
namespace start1
open Jvm.ClassFile
def u (s : String) : CpInfo := .utf8 (stringToUtf16 s)
/-- a pool by its gaps: so many unusable entries, then the entry; so many at the end -/
def gap : Nat → List CpInfo → List CpInfo
  | 0, r => r
  | n + 1, r => .unusable :: gap n r
def poolList (es : List (Nat × CpInfo)) (last : Nat) : List CpInfo := es.foldr (fun e r => gap e.1 (e.2 :: r)) (gap last [])
def pool (es : List (Nat × CpInfo)) (last : Nat) : Array CpInfo := ⟨poolList es last⟩
def fileOf (pool : Array CpInfo) (this : Nat) (attrs : Array Attribute := #[]) (ms : Array MethodInfo := #[]) (fl : Nat := 33) (sup : Nat := 0) (ifs : Array Nat := #[]) (fds : Array FieldInfo := #[]) : ClassFile where
  minorVersion := 0
  majorVersion := 65
  constantPool := pool
  accessFlags := fl
  thisClass := this
  superClass := sup
  interfaces := ifs
  fields := fds
  methods := ms
  attributes := attrs
def plain (name : String) (sup : Option ClassId) : Class where
  name := name
  kind := .ordinary
  loader := none
  accessFlags := 33
  super := sup
  interfaces := #[]
  cf := none
  fields := #[]
  methods := #[]
  instanceTypes := #[]
  staticTypes := #[]
  resolved := #[]
  callSites := []
  init := .initialized
  statics := none
  mirror := none

def pool0 : Array CpInfo := pool [(5, u "<init>"), (0, u "()V"), (1, .class_ 10), (1, u "java/lang/Object")] 113

def k0m0 : Method := { name := "<init>", desc := "()V", sig := { parameters := [], returnType := none }, accessFlags := 1, code := none }
/-- java/lang/Object -/
def k0 : Class := { plain "java/lang/Object" none with
  accessFlags := 33
  interfaces := #[]
  cf := some (fileOf pool0 8 #[] #[{ accessFlags := 1, nameIndex := 5, descriptorIndex := 6, attributes := #[] }] 33 0 #[] #[])
  fields := #[]
  methods := #[k0m0]
  instanceTypes := #[]
  staticTypes := #[]
  resolved := Array.replicate 124 none
  statics := none }

def pool1 : Array CpInfo := pool [(2, .class_ 4), (1, u "java/lang/Object"), (0, u "<init>"), (0, u "()V"), (0, .long 18446744073709551614), (1, .long 2), (3, .long 9223372036854775807), (1, .methodref 16 17), (0, .class_ 18), (0, .nameAndType 19 20), (0, u "org/graftloom/lua/LuaValues"), (0, u "shiftLeft"), (0, u "(JJ)J"), (0, .long 64), (1, .long 18446744073709551552), (1, .methodref 26 27), (0, .class_ 28), (0, .nameAndType 29 30), (0, u "org/graftloom/lua/LuaValuesShiftLeftPinLaw"), (0, u "half"), (0, u "(J)J"), (2, u "law"), (0, u "(JJI)Z")] 3

def k1m0 : Method := { name := "<init>", desc := "()V", sig := { parameters := [], returnType := none }, accessFlags := 2, code := none }
def k1c1 : Code := { maxStack := 4, maxLocals := 2, code := method_2_code, exceptionTable := #[], attributes := #[] }
def k1m1 : Method := { name := "half", desc := "(J)J", sig := { parameters := [.long], returnType := some .long }, accessFlags := 10, code := some k1c1 }
def k1c2 : Code := { maxStack := 8, maxLocals := 9, code := code, exceptionTable := #[], attributes := #[] }
def k1m2 : Method := { name := "law", desc := "(JJI)Z", sig := { parameters := [.long, .long, .int], returnType := some .boolean }, accessFlags := 9, code := some k1c2 }
/-- org/graftloom/lua/LuaValuesShiftLeftPinLaw -/
def k1 : Class := { plain "org/graftloom/lua/LuaValuesShiftLeftPinLaw" (some 0) with
  accessFlags := 49
  interfaces := #[]
  cf := some (fileOf pool1 26 #[] #[{ accessFlags := 2, nameIndex := 5, descriptorIndex := 6, attributes := #[] }, { accessFlags := 10, nameIndex := 29, descriptorIndex := 30, attributes := #[] }, { accessFlags := 9, nameIndex := 33, descriptorIndex := 34, attributes := #[] }] 49 2 #[] #[])
  fields := #[]
  methods := #[k1m0, k1m1, k1m2]
  instanceTypes := #[]
  staticTypes := #[]
  resolved := Array.replicate 38 none
  statics := none }

def pool2 : Array CpInfo := pool [(2, .class_ 4), (1, u "java/lang/Object"), (0, u "<init>"), (0, u "()V"), (7, .class_ 16), (1, u "org/graftloom/lua/LuaValues"), (71, u "IDENTITIES"), (0, u "Lorg/graftloom/lua/Identities;"), (152, u "(JJ)J"), (2, .long 18446744073709551552), (1, .long 64), (83, u "NO_VALUES"), (0, u "[Ljava/lang/Object;"), (1, u "SHORT_STRING"), (0, u "I"), (2, u "IDENTITY_DIGITS"), (1, u "NAME"), (0, u "Ljava/lang/String;"), (0, u "BITWISE_OPERATION"), (16, u "shiftLeft")] 33

def k2m0 : Method := { name := "<init>", desc := "()V", sig := { parameters := [], returnType := none }, accessFlags := 2, code := none }
def k2c1 : Code := { maxStack := 4, maxLocals := 4, code := prog_148_method_18_code, exceptionTable := #[], attributes := #[] }
def k2m1 : Method := { name := "shiftLeft", desc := "(JJ)J", sig := { parameters := [.long, .long], returnType := some .long }, accessFlags := 8, code := some k2c1 }
/-- org/graftloom/lua/LuaValues -/
def k2 : Class := { plain "org/graftloom/lua/LuaValues" (some 0) with
  accessFlags := 48
  interfaces := #[]
  cf := some (fileOf pool2 14 #[] #[{ accessFlags := 2, nameIndex := 5, descriptorIndex := 6, attributes := #[] }, { accessFlags := 8, nameIndex := 359, descriptorIndex := 242, attributes := #[] }] 48 2 #[] #[{ accessFlags := 24, nameIndex := 331, descriptorIndex := 332, attributes := #[] }, { accessFlags := 26, nameIndex := 334, descriptorIndex := 335, attributes := #[] }, { accessFlags := 26, nameIndex := 88, descriptorIndex := 89, attributes := #[] }, { accessFlags := 26, nameIndex := 338, descriptorIndex := 335, attributes := #[] }, { accessFlags := 24, nameIndex := 340, descriptorIndex := 341, attributes := #[] }, { accessFlags := 26, nameIndex := 342, descriptorIndex := 341, attributes := #[] }])
  fields := #[{ name := "NO_VALUES", type := (.array (.object "java/lang/Object")), accessFlags := 24, slot := 0, constantValue := 0 }, { name := "SHORT_STRING", type := .int, accessFlags := 26, slot := 1, constantValue := 0 }, { name := "IDENTITIES", type := (.object "org/graftloom/lua/Identities"), accessFlags := 26, slot := 2, constantValue := 0 }, { name := "IDENTITY_DIGITS", type := .int, accessFlags := 26, slot := 3, constantValue := 0 }, { name := "NAME", type := (.object "java/lang/String"), accessFlags := 24, slot := 4, constantValue := 0 }, { name := "BITWISE_OPERATION", type := (.object "java/lang/String"), accessFlags := 26, slot := 5, constantValue := 0 }]
  methods := #[k2m0, k2m1]
  instanceTypes := #[]
  staticTypes := #[(.array (.object "java/lang/Object")), .int, (.object "org/graftloom/lua/Identities"), .int, (.object "java/lang/String"), (.object "java/lang/String")]
  resolved := Array.replicate 393 none
  statics := none }

def pool3 : Array CpInfo := pool [(1, u "java/lang/Cloneable"), (0, .class_ 1), (0, u "java/lang/Object"), (0, .class_ 3)] 3

/-- java/lang/Cloneable -/
def k3 : Class := { plain "java/lang/Cloneable" (some 0) with
  accessFlags := 1537
  interfaces := #[]
  cf := some (fileOf pool3 2 #[] #[] 1537 4 #[] #[])
  fields := #[]
  methods := #[]
  instanceTypes := #[]
  staticTypes := #[]
  resolved := Array.replicate 8 none
  statics := none }

def pool4 : Array CpInfo := pool [(1, u "java/io/Serializable"), (0, .class_ 1), (0, u "java/lang/Object"), (0, .class_ 3)] 3

/-- java/io/Serializable -/
def k4 : Class := { plain "java/io/Serializable" (some 0) with
  accessFlags := 1537
  interfaces := #[]
  cf := some (fileOf pool4 2 #[] #[] 1537 4 #[] #[])
  fields := #[]
  methods := #[]
  instanceTypes := #[]
  staticTypes := #[]
  resolved := Array.replicate 8 none
  statics := none }

/-- the primitive byte -/
def k5 : Class := { plain "byte" none with kind := .primitive 'B', accessFlags := 0x411 }
/-- [B -/
def k6 : Class := { plain "[B" (some 0) with kind := .array 5 .byte, interfaces := #[3, 4], accessFlags := 1041 }

/-- the primitive int -/
def k7 : Class := { plain "int" none with kind := .primitive 'I', accessFlags := 0x411 }
/-- [I -/
def k8 : Class := { plain "[I" (some 0) with kind := .array 7 .int, interfaces := #[3, 4], accessFlags := 1041 }

def heap : Heap := #[]
def classes : Array Class := #[k0, k1, k2, k3, k4, k5, k6, k7, k8]
def interned : List (Array UInt16 × Addr) := []
def slotsUsed : Nat := 0
def theMethod : MethodId := ⟨1, 2⟩
def args0 : Array Value := #[.long 5, .long 3, .int 2]
def aboutOver (below : List Frame) : State where
  vm := { classes := classes, interned := interned.toArray }
  heap := heap
  slotsUsed := slotsUsed
  threads := #[{ frames := .invoking theMethod args0 :: below }]
def below0 : List Frame := [.native { method := ⟨0, 0⟩, args := #[] }]
def about1 : State := aboutOver below0
def p0 : Program := .bare "" "" ""
def e0 : Env := launch0.env 0 0 0
theorem w_frames : about1.frames = Frame.invoking theMethod args0 :: below0 := rfl
set_option maxRecDepth 65536 in
theorem w_args : argsFit about1.vm theMethod args0 = true := by decide +kernel
set_option maxRecDepth 65536 in
theorem w_heap : heapFits about1 = true := by decide +kernel
set_option maxRecDepth 65536 in
theorem w_runnable : about1.curStatus? = some .runnable := by decide +kernel
set_option maxRecDepth 65536 in
theorem w_alone : about1.alone = true := by decide +kernel
set_option maxRecDepth 65536 in
theorem w_named : about1.methodNamed? x = some theMethod := by decide +kernel
set_option maxRecDepth 65536 in
theorem w_hears : about1.hears theMethod below0 = true := by decide +kernel
set_option maxRecDepth 65536 in
theorem w_ripe : about1.ripe theMethod args0 below0 = true := by decide +kernel
theorem w_running : about1.status = .running := rfl
set_option maxRecDepth 65536 in
theorem w_room : about1.hasRoom e0.platform room_1 = true :=
  launch0.hasRoom_least _ room_1 (by decide +kernel) (by decide +kernel) (by decide +kernel) (by decide +kernel) (by decide +kernel) (by decide +kernel)
theorem allAtoms_all (ts : List Jvm.Cond) (a : Array Jvm.Value) (st : Jvm.State) : (allAtoms ts).before a st = ts.all (fun c => c.before a st) := by
  induction ts with
  | nil => rfl
  | cons c t ih =>
    show (Jvm.Cond.and c (allAtoms t)).before a st = _
    rw [Jvm.Cond.before_and, ih, List.all_cons]
def words1 : List Jvm.Cond := Jvm.Cond.code x code maxLocals ret :: tables_1
/-- a 'code' word, met by the world's own term for the bytes: nothing is compared byte by byte -/
theorem code_word {y : MethodName} {bytes : ByteArray} {mx : Nat} {rt : Option FieldType} {a : Array Value} {s : State} {m : MethodId} {meth : Method} {c : Code} (h1 : s.methodNamed? y = some m) (h2 : s.vm.method? m = some meth) (h3 : meth.code = some c) (h4 : c.code = bytes)
    (h5 : (c.maxLocals == mx && c.exceptionTable.isEmpty && decide (c.maxStack ≤ mostOperands) && decide (meth.sig.returnType = rt) && !meth.locks && decide (parseMethodDescriptor y.desc = some meth.sig)) = true) : (Jvm.Cond.code y bytes mx rt).before a s = true := by
  simp only [Bool.and_eq_true, beq_iff_eq, Bool.not_eq_true', decide_eq_true_eq] at h5
  obtain ⟨⟨⟨⟨⟨g1, g2⟩, g3⟩, g4⟩, g5⟩, g6⟩ := h5
  simp [Cond.before, Cond.holds, Cond.value, h1, h2, h3, h4, g1, g2, g3, g4, g5, g6]
def isCode : Jvm.Cond → Bool
  | .code _ _ _ _ => true
  | _ => false
theorem all_split {L : List Jvm.Cond} {P : Jvm.Cond → Bool} (h1 : L.all (fun c => isCode c || P c) = true) (h2 : ∀ c ∈ L.filter isCode, P c = true) : L.all P = true := by
  refine List.all_eq_true.mpr fun c hc => ?_
  have h := List.all_eq_true.mp h1 c hc
  rcases Bool.eq_false_or_eq_true (isCode c) with hi | hi
  · exact h2 c (List.mem_filter.mpr ⟨hc, hi⟩)
  · simpa [hi] using h
set_option maxRecDepth 65536 in
theorem w_c0 : (Jvm.Cond.code x code maxLocals ret).before args0 about1 = true := code_word (m := ⟨1, 2⟩) (meth := k1m2) (c := k1c2) (by decide +kernel) rfl rfl rfl (by decide +kernel)
set_option maxRecDepth 65536 in
theorem w_c1 : (Jvm.Cond.code ({ cls := "org/graftloom/lua/LuaValues", name := "shiftLeft", desc := "(JJ)J" } : Jvm.MethodName) prog_148_method_18_code (4 : Nat) (Option.some Jvm.ClassFile.FieldType.long)).before args0 about1 = true := code_word (m := ⟨2, 1⟩) (meth := k2m1) (c := k2c1) (by decide +kernel) rfl rfl rfl (by decide +kernel)
set_option maxRecDepth 65536 in
theorem w_c2 : (Jvm.Cond.code ({ cls := "org/graftloom/lua/LuaValuesShiftLeftPinLaw", name := "half", desc := "(J)J" } : Jvm.MethodName) method_2_code (2 : Nat) (Option.some Jvm.ClassFile.FieldType.long)).before args0 about1 = true := code_word (m := ⟨1, 1⟩) (meth := k1m1) (c := k1c1) (by decide +kernel) rfl rfl rfl (by decide +kernel)
def codes1 : List Jvm.Cond := [Jvm.Cond.code x code maxLocals ret, Jvm.Cond.code ({ cls := "org/graftloom/lua/LuaValues", name := "shiftLeft", desc := "(JJ)J" } : Jvm.MethodName) prog_148_method_18_code (4 : Nat) (Option.some Jvm.ClassFile.FieldType.long), Jvm.Cond.code ({ cls := "org/graftloom/lua/LuaValuesShiftLeftPinLaw", name := "half", desc := "(J)J" } : Jvm.MethodName) method_2_code (2 : Nat) (Option.some Jvm.ClassFile.FieldType.long)]
set_option maxRecDepth 65536 in
theorem codes_eq : words1.filter isCode = codes1 := rfl
theorem w_codes : ∀ c ∈ words1.filter isCode, c.before args0 about1 = true := by
  rw [codes_eq]
  intro c hc
  simp only [codes1, List.mem_cons, List.not_mem_nil, or_false] at hc
  rcases hc with rfl | rfl | rfl
  · exact w_c0
  · exact w_c1
  · exact w_c2
set_option maxRecDepth 65536 in
theorem w_t1 : words1.all (fun c => isCode c || c.before args0 about1) = true := by decide +kernel
theorem w_tables : (allAtoms (Jvm.Cond.code x code maxLocals ret :: tables_1)).before args0 about1 = true := by
  rw [allAtoms_all]
  show words1.all (fun c => c.before args0 about1) = true
  refine all_split ?_ w_codes
  rw [w_t1]
set_option maxRecDepth 65536 in
theorem w_case : (Jvm.Cond.and given_1 narrow_1).before args0 about1 = true := by decide +kernel
theorem w_applies : (headSpec (Jvm.Cond.code x code maxLocals ret :: tables_1) room_1).applies x e0.platform about1 = true :=
  (Spec.applies_iff w_frames).mpr ⟨w_running, w_runnable, w_alone, w_named, w_hears, w_ripe, w_room, w_tables⟩
theorem atStart : AtStart classFile x code maxLocals ret World_1 tables_1 room_1 Calls_1 rest_1 Pre_1 launch0 p0 e0 about1 theMethod args0 below0 :=
  ⟨lists_1, trivial, launch0.admits_env _ _ _, launch0.least_env, fairChoices_fair.cas, fairChoices_fair.clock, w_frames, w_args, w_heap, w_applies, trivial, trivial, w_case⟩
end start1
theorem witness_1 : WitnessClaimed_1 := ⟨start1.p0, start1.e0, start1.about1, start1.theMethod, start1.args0, start1.below0, start1.atStart⟩
end Jvm.Pilot.@@N@@
