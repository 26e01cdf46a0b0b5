import JvmDerived
import JvmDerived.Pilot.@@N@@Statement
import JvmDerived.Pilot.@@N@@Code
set_option linter.unusedVariables false
set_option linter.unusedSimpArgs false
namespace Jvm.RoadKit
open Sem ClassFile Op Lib Jvm.Stand Jvm.Free Jvm.LawKit
section New
variable {p : Program} {l : Launch} {e : Env} {R : Room} {s : State} {m : MethodId} {args : Array Value} {below : List Frame} {meth : Method} {c : Code} {T : State} {locs : List Loc} {cells slots : Nat}
theorem retI (X : Stand p l e R s m args below meth c T locs cells slots) (hx : p.tables.exec = Jvm.exec) {pc : Nat} {Ls : Array Slot} {z : Int32} {rest : List Value} (hret : meth.sig.returnType = some .int) (hd : decode c.code pc = .ok (.ireturn, 1)) {fs : List Frame}
    (hl : ∀ (f : JFrame) (acts : List Action), f.method = m → f.locked = none → f.entered = [] → (doReturn e (T.setTop f) acts (some (.int z))).1 = T.setFrames fs) : Steps p.tables e below (T.setTop (mkF m pc Ls (.int z :: rest))) (T.setFrames fs) := by
  have hm' : T.vm.method? m = some meth := X.method'
  have hn : narrow .int (.int z) = .int z := rfl
  show Steps p.tables e below (T.setTop { method := m, pc := pc, locals := Ls, stack := _ :: rest, locked := none }) _
  jvm_step X.here [X.here.top, hx, hd, hm', hret, hn]
  first | (intro acts; rw [hl _ acts rfl rfl rfl]) | rw [hl _ _ rfl rfl rfl]
  exact Steps.refl _
end New
end Jvm.RoadKit
namespace Jvm.Pilot.@@N@@
open Jvm Jvm.ClassFile Sem Op Lib Jvm.Free Jvm.Stand Jvm.LawKit Jvm.RoadKit Bundle Jvm.Pilot.@@N@@.Jvm.D
def own_Q (x : Value) (h0 : Heap) (n0 : Nat) (v : Option Value) (h : Heap) (L : List Loc) : Prop := v = some x ∧ Fr n0 L ∧ h = h0
def own_rem (x y : Int32) : Int32 := x - (x / y) * y
theorem own_rng (x : Int32) : -2147483648 ≤ x.toInt ∧ x.toInt < 2147483648 := ⟨Int32.le_toInt x, Int32.toInt_lt x⟩
theorem own_div_toInt (x y : Int32) (hx : 0 ≤ x.toInt) (hy : 0 < y.toInt) : (x / y).toInt = x.toInt / y.toInt := by
  have := own_rng x
  have := own_rng y
  have h1 : 0 ≤ x.toInt / y.toInt := Int.ediv_nonneg hx (Int.le_of_lt hy)
  have h2 : x.toInt / y.toInt ≤ x.toInt := Int.ediv_le_self _ hx
  rw [Int32.toInt_div, Int.tdiv_eq_ediv_of_nonneg hx]
  exact Int.bmod_eq_of_le (by omega) (by omega)
theorem own_rem_toInt (x y : Int32) (hx : 0 ≤ x.toInt) (hy : 0 < y.toInt) : (own_rem x y).toInt = x.toInt % y.toInt := by
  have hxr := own_rng x
  have hyr := own_rng y
  have h1 : 0 ≤ x.toInt / y.toInt := Int.ediv_nonneg hx (Int.le_of_lt hy)
  have h3 : x.toInt / y.toInt * y.toInt ≤ x.toInt := Int.ediv_mul_le _ (by omega)
  have h4 : 0 ≤ x.toInt / y.toInt * y.toInt := Int.mul_nonneg h1 (by omega)
  have e : (x / y * y).toInt = x.toInt / y.toInt * y.toInt := by
    rw [Int32.toInt_mul, own_div_toInt x y hx hy]
    exact Int.bmod_eq_of_le (by omega) (by omega)
  have e2 : x.toInt % y.toInt = x.toInt - x.toInt / y.toInt * y.toInt := by
    rw [Int.emod_def, Int.mul_comm]
  unfold own_rem
  rw [Int32.toInt_sub, e, e2]
  exact Int.bmod_eq_of_le (by omega) (by omega)
theorem own_and_toNat (x : Int32) (k : Nat) (hk : k < 32) (m : Int32) (hm : m.toBitVec.toNat = 2 ^ k - 1) : (x &&& m).toInt = ((x.toBitVec.toNat % 2 ^ k : Nat) : Int) := by
  have e : (x &&& m).toBitVec.toNat = x.toBitVec.toNat % 2 ^ k := by
    rw [Int32.toBitVec_and, BitVec.toNat_and, hm, Nat.and_two_pow_sub_one_eq_mod]
  have hlt : x.toBitVec.toNat % 2 ^ k < 2 ^ k := Nat.mod_lt _ (Nat.two_pow_pos k)
  have hle : 2 ^ k ≤ 2 ^ 31 := Nat.pow_le_pow_right (by decide) (by omega)
  show (x &&& m).toBitVec.toInt = _
  rw [BitVec.toInt_eq_toNat_of_lt (by rw [e]; omega), e]
theorem own_and_rng (x : Int32) (k : Nat) (hk : k < 32) (m : Int32) (hm : m.toBitVec.toNat = 2 ^ k - 1) : 0 ≤ (x &&& m).toInt ∧ (x &&& m).toInt < 2 ^ k := by
  rw [own_and_toNat x k hk m hm]
  have hlt : x.toBitVec.toNat % 2 ^ k < 2 ^ k := Nat.mod_lt _ (Nat.two_pow_pos k)
  have : ((2 ^ k : Nat) : Int) = 2 ^ k := by simp
  omega
def own_c (Z : State) (h : Heap) (f : String) (a : Addr) : Prop := Sta Z h "org/graftloom/lua/LocalTypes$Kind" f "Lorg/graftloom/lua/LocalTypes$Kind;" (.ref a) ∧ Exa Z h a "org/graftloom/lua/LocalTypes$Kind"
def own_K (Z : State) (h : Heap) (aN aI aF aB aA : Addr) : Prop := own_c Z h "NONE" aN ∧ own_c Z h "INTEGER" aI ∧ own_c Z h "FLOAT" aF ∧ own_c Z h "BOOLEAN" aB ∧ own_c Z h "ANY" aA
theorem own_ck {Z : State} {h h' : Heap} {f : String} {a : Addr} (B : own_c Z h f a) (K : Keep h h' []) : own_c Z h' f a := by
  obtain ⟨⟨cf, i, k, g, st, cell, h1, h2, h3, h4, h5, r⟩, E⟩ := B
  exact ⟨⟨cf, i, k, g, st, cell, h1, h2, h3, h4, K.2.1 _ _ h5 (fun q => nomatch q), r⟩, E.keep K⟩
theorem own_Kk {Z : State} {h h' : Heap} {aN aI aF aB aA : Addr} (B : own_K Z h aN aI aF aB aA) (K : Keep h h' []) : own_K Z h' aN aI aF aB aA :=
  ⟨own_ck B.1 K, own_ck B.2.1 K, own_ck B.2.2.1 K, own_ck B.2.2.2.1 K, own_ck B.2.2.2.2 K⟩
def own_pk (aN aI aF aB aA : Addr) : Nat → Addr
  | 0 => aN
  | 1 => aI
  | 2 => aF
  | 3 => aB
  | _ => aA
def own_k (aN aI aF aB aA : Addr) (p : Int32) : Addr := own_pk aN aI aF aB aA (own_rem (p &&& (2147483647 : Int32)) (5 : Int32)).toNatClampNeg
theorem own_kE {Z : State} {h : Heap} {aN aI aF aB aA : Addr} (B : own_K Z h aN aI aF aB aA) (p : Int32) : Exa Z h (own_k aN aI aF aB aA p) "org/graftloom/lua/LocalTypes$Kind" := by
  unfold own_k
  generalize (own_rem (p &&& (2147483647 : Int32)) (5 : Int32)).toNatClampNeg = n
  match n with
  | 0 => exact B.1.2
  | 1 => exact B.2.1.2
  | 2 => exact B.2.2.1.2
  | 3 => exact B.2.2.2.1.2
  | n + 4 => exact B.2.2.2.2.2
theorem own_idx (p : Int32) : ¬ (own_rem (p &&& (2147483647 : Int32)) (5 : Int32)) < 0 ∧ (own_rem (p &&& (2147483647 : Int32)) (5 : Int32)) < 5 := by
  have h := own_and_rng p 31 (by decide) (2147483647 : Int32) (by decide)
  have e := own_rem_toInt (p &&& (2147483647 : Int32)) (5 : Int32) h.1 (by decide)
  rw [Int32.lt_iff_toInt_lt, Int32.lt_iff_toInt_lt, e]
  have e5 : (5 : Int32).toInt = 5 := by decide
  have e0 : (0 : Int32).toInt = 0 := by decide
  rw [e5, e0]
  omega
theorem own_at5 (aN aI aF aB aA : Addr) (n : Nat) (h : n < 5) : [Value.ref aN, .ref aI, .ref aF, .ref aB, .ref aA].getD n .null = .ref (own_pk aN aI aF aB aA n) := by
  match n, h with
  | 0, _ => rfl
  | 1, _ => rfl
  | 2, _ => rfl
  | 3, _ => rfl
  | 4, _ => rfl
def own_orV (aN aA a1 a2 : Addr) : Addr := if a1 = aN then a2 else if a1 = a2 then a2 else if a2 = aN then a1 else aA
def own_leq (aN aA x y : Addr) : Int32 := if x = aN then 1 else if y = aA then 1 else if x = y then 1 else 0
theorem own_l1 (aN aA a b : Addr) : own_orV aN aA a b = own_orV aN aA b a := by
  unfold own_orV
  by_cases q1 : a = aN
  · by_cases q2 : b = aN
    · simp [q1, q2]
    · have q3 : ¬ b = a := fun q => q2 (q.trans q1)
      rw [if_pos q1, if_neg q2, if_neg q3, if_pos q1]
  · by_cases q2 : a = b
    · have q3 : ¬ b = aN := fun q => q1 (q2.trans q)
      rw [if_neg q1, if_pos q2, if_neg q3, if_pos q2.symm, q2]
    · have q4 : ¬ b = a := fun q => q2 q.symm
      by_cases q3 : b = aN
      · rw [if_neg q1, if_neg q2, if_pos q3, if_pos q3]
      · rw [if_neg q1, if_neg q2, if_neg q3, if_neg q3, if_neg q4, if_neg q1]
theorem own_l2 (aN aA a b : Addr) : ¬ own_leq aN aA a (own_orV aN aA a b) = 0 := by
  unfold own_leq own_orV
  split <;> (try split) <;> (try split) <;> (try split) <;> simp_all
theorem own_l3 (aN aA a b : Addr) : ¬ own_leq aN aA b (own_orV aN aA a b) = 0 := by
  rw [own_l1]; exact own_l2 aN aA b a
theorem own_l4 (aN aA a b c : Addr) (h1 : ¬ own_leq aN aA a c = 0) (h2 : ¬ own_leq aN aA b c = 0) : ¬ own_leq aN aA (own_orV aN aA a b) c = 0 := by
  by_cases q1 : a = aN
  · have e : own_orV aN aA a b = b := by simp [own_orV, q1]
    rw [e]; exact h2
  · by_cases q2 : a = b
    · have e : own_orV aN aA a b = b := by simp [own_orV, q2]
      rw [e]; exact h2
    · by_cases q3 : b = aN
      · have e : own_orV aN aA a b = a := by simp [own_orV, q1, q3]
        rw [e]; exact h1
      · by_cases q4 : c = aA
        · unfold own_leq; simp [q4]
        · exfalso
          unfold own_leq at h1 h2
          simp [q1, q4] at h1
          simp [q3, q4] at h2
          exact q2 (h1.trans h2.symm)
theorem d1_0 : decode method_2_code 0 = .ok (.iconst 5, 1) := by decide +kernel
theorem d1_1 : decode method_2_code 1 = .ok (.anewarray 7, 3) := by decide +kernel
theorem d1_4 : decode method_2_code 4 = .ok (.dup, 1) := by decide +kernel
theorem d1_5 : decode method_2_code 5 = .ok (.iconst 0, 1) := by decide +kernel
theorem d1_6 : decode method_2_code 6 = .ok (.getstatic 9, 3) := by decide +kernel
theorem d1_9 : decode method_2_code 9 = .ok (.aastore, 1) := by decide +kernel
theorem d1_10 : decode method_2_code 10 = .ok (.dup, 1) := by decide +kernel
theorem d1_11 : decode method_2_code 11 = .ok (.iconst 1, 1) := by decide +kernel
theorem d1_12 : decode method_2_code 12 = .ok (.getstatic 13, 3) := by decide +kernel
theorem d1_15 : decode method_2_code 15 = .ok (.aastore, 1) := by decide +kernel
theorem d1_16 : decode method_2_code 16 = .ok (.dup, 1) := by decide +kernel
theorem d1_17 : decode method_2_code 17 = .ok (.iconst 2, 1) := by decide +kernel
theorem d1_18 : decode method_2_code 18 = .ok (.getstatic 16, 3) := by decide +kernel
theorem d1_21 : decode method_2_code 21 = .ok (.aastore, 1) := by decide +kernel
theorem d1_22 : decode method_2_code 22 = .ok (.dup, 1) := by decide +kernel
theorem d1_23 : decode method_2_code 23 = .ok (.iconst 3, 1) := by decide +kernel
theorem d1_24 : decode method_2_code 24 = .ok (.getstatic 19, 3) := by decide +kernel
theorem d1_27 : decode method_2_code 27 = .ok (.aastore, 1) := by decide +kernel
theorem d1_28 : decode method_2_code 28 = .ok (.dup, 1) := by decide +kernel
theorem d1_29 : decode method_2_code 29 = .ok (.iconst 4, 1) := by decide +kernel
theorem d1_30 : decode method_2_code 30 = .ok (.getstatic 22, 3) := by decide +kernel
theorem d1_33 : decode method_2_code 33 = .ok (.aastore, 1) := by decide +kernel
theorem d1_34 : decode method_2_code 34 = .ok (.astore_n 1, 1) := by decide +kernel
theorem d1_35 : decode method_2_code 35 = .ok (.aload_n 1, 1) := by decide +kernel
theorem d1_36 : decode method_2_code 36 = .ok (.iload_n 0, 1) := by decide +kernel
theorem d1_37 : decode method_2_code 37 = .ok (.ldc 25, 2) := by decide +kernel
theorem d1_39 : decode method_2_code 39 = .ok (.iand, 1) := by decide +kernel
theorem d1_40 : decode method_2_code 40 = .ok (.iconst 5, 1) := by decide +kernel
theorem d1_41 : decode method_2_code 41 = .ok (.irem, 1) := by decide +kernel
theorem d1_42 : decode method_2_code 42 = .ok (.aaload, 1) := by decide +kernel
theorem d1_43 : decode method_2_code 43 = .ok (.areturn, 1) := by decide +kernel
theorem pn_1 : plainName "org/graftloom/lua/KindOrPinLaw" = true := by first | (simp [plainName, overriddenIn]; done) | decide +kernel
theorem ef_1 (m : MethodId) (x0 : Int32) : entryFrame m #[(.int x0)] 2 = mkF m 0 #[.val (.int x0), .unset] [] := by first | (simp [entryFrame, mkF, argsToLocals, Value.category]; done) | rfl
def Q1 (Z : State) (p1 : Int32) (aN aI aF aB aA : Addr) (h0 : Heap) (n0 : Nat) (v : Option Value) (h : Heap) (L : List Loc) : Prop := v = some (.ref (own_k aN aI aF aB aA p1)) ∧ Fr n0 L ∧ Keep h0 h []
set_option maxRecDepth 65536 in
set_option maxHeartbeats 40000000 in
theorem rm1 (l : Launch) (Z : State) (a0 : Array Value) (hw : ∀ d ∈ tables_1, d.before a0 Z = true) (ws : List Jvm.Cond) (p1 : Int32) (aN aI aF aB aA : Addr) (h0 : Heap) (n0 : Nat) (Z0 : n0 ≤ h0.size) (B : own_K Z h0 aN aI aF aB aA) :
    MetFree l (⟨"org/graftloom/lua/KindOrPinLaw", "pick", "(I)Lorg/graftloom/lua/LocalTypes$Kind;"⟩ : MethodName) (head1 (Jvm.Cond.code (⟨"org/graftloom/lua/KindOrPinLaw", "pick", "(I)Lorg/graftloom/lua/LocalTypes$Kind;"⟩ : MethodName) method_2_code 2 (some (.object "org/graftloom/lua/LocalTypes$Kind")) :: ws) ({ frames := 0, cells := 1, slots := 5, locals := 0 } : Room)) (fun a U => a = #[(.int p1)] ∧ Z.Warmed39 U.vm ∧ U.heap = h0) (fun _ _ _ _ _ => True) (fun _ U o U' => ∃ v L, o = .returned v ∧ Q1 Z p1 aN aI aF aB aA h0 n0 v U'.heap L ∧ FrameEnd U o U' L ({ frames := 0, cells := 1, slots := 5, locals := 0 } : Room).cells ({ frames := 0, cells := 1, slots := 5, locals := 0 } : Room).slots) := by
  refine MetFree.of_bodySF (plainFor_of_name pn_1) hisR ?_
  intro p e s m args below meth c s₁ Bd hml0 hP hK
  obtain ⟨rfl, hZ, hh⟩ := hP
  have hx := Bd.exec
  have hby := Bd.bytes
  have hml : c.maxLocals = 2 := hml0
  have hown : s.vm.findClass "org/graftloom/lua/KindOrPinLaw" = some m.cls := findClass_of_methodNamed Bd.named
  have hnm := (name_of_methodNamed Bd.named Bd.method).1
  have X0 : Stand p l e ({ frames := 0, cells := 1, slots := 5, locals := 0 } : Room) s m #[(.int p1)] below meth c s₁ [] 0 0 := Stand.of_body Bd
  have e0 : s₁.heap = h0 := by rw [← hh, Bd.state]; rfl
  have N0 := Fr.nil n0
  have pre0 : ∀ t, Steps p.tables e below (s₁.setTop (mkF m 0 #[.val (.int p1), .unset] [])) t → Steps p.tables e below (s₁.setTop (entryFrame m #[(.int p1)] 2)) t := fun t k => castTop (ef_1 m p1) k
  obtain ⟨T2, h2, k2, X2, e2, E2, A2, O2, st2⟩ := newR X0 hx hZ hown (hw _ (List.mem_of_getElem? (i := 4) rfl)) (hw _ (List.mem_of_getElem? (i := 5) rfl)) e0 (g := (mkF m 1 #[.val (.int p1), .unset] [(.int (5 : Int32))])) rfl (hb hby d1_1) rfl (by decide) (cap := 5) (by decide) (by decide) (by decide) (by decide)
  obtain ⟨b2, g2⟩ : ∃ z, z = h0.size := ⟨_, rfl⟩      -- the fresh array's address
  rw [← g2] at A2 st2
  have V_b2 : Arv Z h2 b2 k2 (.object "org/graftloom/lua/LocalTypes$Kind") (5 : Int32) [.null, .null, .null, .null, .null] .null := (Arv.new A2 (by decide)).pad (pad_rep [] .null 5)
  have g_b2 : n0 ≤ b2 := Nat.le_trans Z0 (Nat.le_of_eq g2.symm)
  have sz_b2 : h0.size ≤ b2 := (Nat.le_trans (Keep.refl h0 []).1 (Nat.le_of_eq g2.symm))
  have K2 : Keep h0 h2 [] := (Keep.refl h0 []).ext E2
  obtain ⟨T4, X4, e4, st4⟩ := getS2 X2 hx hZ hown (host := "") (Or.inl (hw _ (List.mem_of_getElem? (i := 6) rfl))) Via.refl e2 (B.1.1.ext E2) (g := (mkF m 6 #[.val (.int p1), .unset] [(.int (0 : Int32)), (.ref b2), (.ref b2)])) rfl (hb hby d1_6)
  obtain ⟨cl9, Ar_b2, q_b2, S_b2, N_b2, H_b2, G_b2⟩ := V_b2
  have hin9 : ¬ ((0 : Int32) < 0 ∨ cl9.slots.size ≤ ((0 : Int32)).toNatClampNeg) := inb_of S_b2 ⟨by decide, by decide⟩
  have Sto9 : Sto Z h2 b2 (.ref aN) := Sto.ofV Ar_b2 q_b2 O2 (Ins.self (B.1.2.ext E2))
  obtain ⟨T5, h5, X5, e5, W5, st5⟩ := stR X4 hx hZ e4 Ar_b2 (j := (0 : Int32)) hin9 rfl Sto9 (g := (mkF m 9 #[.val (.int p1), .unset] [(.ref aN), (.int (0 : Int32)), (.ref b2), (.ref b2)])) rfl rfl (hb hby d1_9)
  have V_b2_5 := Arv.set Ar_b2 q_b2 S_b2 N_b2 H_b2 G_b2 rfl W5 0 rfl (Nat.le_of_ble_eq_true rfl)
  have N5 := Fr.snoc X5 N0 g_b2
  have K5 : Keep h0 h5 [] := K2.wr W5 (Or.inr sz_b2)
  obtain ⟨T7, X7, e7, st7⟩ := getS2 X5 hx hZ hown (host := "") (Or.inl (hw _ (List.mem_of_getElem? (i := 10) rfl))) Via.refl e5 ((B.2.1.1.ext E2).wr W5) (g := (mkF m 12 #[.val (.int p1), .unset] [(.int (1 : Int32)), (.ref b2), (.ref b2)])) rfl (hb hby d1_12)
  obtain ⟨cl15, Ar_b2, q_b2, S_b2, N_b2, H_b2, G_b2⟩ := V_b2_5
  have hin15 : ¬ ((1 : Int32) < 0 ∨ cl15.slots.size ≤ ((1 : Int32)).toNatClampNeg) := inb_of S_b2 ⟨by decide, by decide⟩
  have Sto15 : Sto Z h5 b2 (.ref aI) := Sto.ofV Ar_b2 q_b2 O2 (Ins.self ((B.2.1.2.ext E2).wr W5))
  obtain ⟨T8, h8, X8, e8, W8, st8⟩ := stR X7 hx hZ e7 Ar_b2 (j := (1 : Int32)) hin15 rfl Sto15 (g := (mkF m 15 #[.val (.int p1), .unset] [(.ref aI), (.int (1 : Int32)), (.ref b2), (.ref b2)])) rfl rfl (hb hby d1_15)
  have V_b2_8 := Arv.set Ar_b2 q_b2 S_b2 N_b2 H_b2 G_b2 rfl W8 1 rfl (Nat.le_of_ble_eq_true rfl)
  have N8 := Fr.snoc X8 N5 g_b2
  have K8 : Keep h0 h8 [] := K5.wr W8 (Or.inr sz_b2)
  obtain ⟨T10, X10, e10, st10⟩ := getS2 X8 hx hZ hown (host := "") (Or.inl (hw _ (List.mem_of_getElem? (i := 12) rfl))) Via.refl e8 (((B.2.2.1.1.ext E2).wr W5).wr W8) (g := (mkF m 18 #[.val (.int p1), .unset] [(.int (2 : Int32)), (.ref b2), (.ref b2)])) rfl (hb hby d1_18)
  obtain ⟨cl21, Ar_b2, q_b2, S_b2, N_b2, H_b2, G_b2⟩ := V_b2_8
  have hin21 : ¬ ((2 : Int32) < 0 ∨ cl21.slots.size ≤ ((2 : Int32)).toNatClampNeg) := inb_of S_b2 ⟨by decide, by decide⟩
  have Sto21 : Sto Z h8 b2 (.ref aF) := Sto.ofV Ar_b2 q_b2 O2 (Ins.self (((B.2.2.1.2.ext E2).wr W5).wr W8))
  obtain ⟨T11, h11, X11, e11, W11, st11⟩ := stR X10 hx hZ e10 Ar_b2 (j := (2 : Int32)) hin21 rfl Sto21 (g := (mkF m 21 #[.val (.int p1), .unset] [(.ref aF), (.int (2 : Int32)), (.ref b2), (.ref b2)])) rfl rfl (hb hby d1_21)
  have V_b2_11 := Arv.set Ar_b2 q_b2 S_b2 N_b2 H_b2 G_b2 rfl W11 2 rfl (Nat.le_of_ble_eq_true rfl)
  have N11 := Fr.snoc X11 N8 g_b2
  have K11 : Keep h0 h11 [] := K8.wr W11 (Or.inr sz_b2)
  obtain ⟨T13, X13, e13, st13⟩ := getS2 X11 hx hZ hown (host := "") (Or.inl (hw _ (List.mem_of_getElem? (i := 14) rfl))) Via.refl e11 ((((B.2.2.2.1.1.ext E2).wr W5).wr W8).wr W11) (g := (mkF m 24 #[.val (.int p1), .unset] [(.int (3 : Int32)), (.ref b2), (.ref b2)])) rfl (hb hby d1_24)
  obtain ⟨cl27, Ar_b2, q_b2, S_b2, N_b2, H_b2, G_b2⟩ := V_b2_11
  have hin27 : ¬ ((3 : Int32) < 0 ∨ cl27.slots.size ≤ ((3 : Int32)).toNatClampNeg) := inb_of S_b2 ⟨by decide, by decide⟩
  have Sto27 : Sto Z h11 b2 (.ref aB) := Sto.ofV Ar_b2 q_b2 O2 (Ins.self ((((B.2.2.2.1.2.ext E2).wr W5).wr W8).wr W11))
  obtain ⟨T14, h14, X14, e14, W14, st14⟩ := stR X13 hx hZ e13 Ar_b2 (j := (3 : Int32)) hin27 rfl Sto27 (g := (mkF m 27 #[.val (.int p1), .unset] [(.ref aB), (.int (3 : Int32)), (.ref b2), (.ref b2)])) rfl rfl (hb hby d1_27)
  have V_b2_14 := Arv.set Ar_b2 q_b2 S_b2 N_b2 H_b2 G_b2 rfl W14 3 rfl (Nat.le_of_ble_eq_true rfl)
  have N14 := Fr.snoc X14 N11 g_b2
  have K14 : Keep h0 h14 [] := K11.wr W14 (Or.inr sz_b2)
  obtain ⟨T16, X16, e16, st16⟩ := getS2 X14 hx hZ hown (host := "") (Or.inl (hw _ (List.mem_of_getElem? (i := 16) rfl))) Via.refl e14 (((((B.2.2.2.2.1.ext E2).wr W5).wr W8).wr W11).wr W14) (g := (mkF m 30 #[.val (.int p1), .unset] [(.int (4 : Int32)), (.ref b2), (.ref b2)])) rfl (hb hby d1_30)
  obtain ⟨cl33, Ar_b2, q_b2, S_b2, N_b2, H_b2, G_b2⟩ := V_b2_14
  have hin33 : ¬ ((4 : Int32) < 0 ∨ cl33.slots.size ≤ ((4 : Int32)).toNatClampNeg) := inb_of S_b2 ⟨by decide, by decide⟩
  have Sto33 : Sto Z h14 b2 (.ref aA) := Sto.ofV Ar_b2 q_b2 O2 (Ins.self (((((B.2.2.2.2.2.ext E2).wr W5).wr W8).wr W11).wr W14))
  obtain ⟨T17, h17, X17, e17, W17, st17⟩ := stR X16 hx hZ e16 Ar_b2 (j := (4 : Int32)) hin33 rfl Sto33 (g := (mkF m 33 #[.val (.int p1), .unset] [(.ref aA), (.int (4 : Int32)), (.ref b2), (.ref b2)])) rfl rfl (hb hby d1_33)
  have V_b2_17 := Arv.set Ar_b2 q_b2 S_b2 N_b2 H_b2 G_b2 rfl W17 4 rfl (Nat.le_of_ble_eq_true rfl)
  have N17 := Fr.snoc X17 N14 g_b2
  have K17 : Keep h0 h17 [] := K14.wr W17 (Or.inr sz_b2)
  obtain ⟨cl42, Ar_b2, q_b2, S_b2, N_b2, H_b2, G_b2⟩ := V_b2_17
  have hin42 : ¬ ((own_rem (p1 &&& (2147483647 : Int32)) (5 : Int32)) < 0 ∨ cl42.slots.size ≤ (own_rem (p1 &&& (2147483647 : Int32)) (5 : Int32)).toNatClampNeg) := inb_of S_b2 (own_idx p1)
  have hlt42 : (own_rem (p1 &&& (2147483647 : Int32)) (5 : Int32)).toNatClampNeg < cl42.slots.size := Nat.lt_of_not_le fun q => hin42 (Or.inr q)
  have hat42 : cl42.slots[(own_rem (p1 &&& (2147483647 : Int32)) (5 : Int32)).toNatClampNeg]? = some (.ref (own_k aN aI aF aB aA p1)) := (H_b2 _ hlt42).trans (congrArg some (own_at5 aN aI aF aB aA _ (by rw [S_b2] at hlt42; exact hlt42)))
  obtain ⟨fs, hr, hrun, hended, hW, hsame⟩ := X17.leave (v := some (.ref (own_k aN aI aF aB aA p1))) (fun h => by rw [Bd.returns] at h; cases h)
  refine ⟨_, _, pre0 _ ?_, hrun, hended, _, _, rfl, ?_, ⟨_, rfl⟩, hW, hsame.mono (by decide) (by decide)⟩
  · show Steps p.tables e below (s₁.setTop (mkF m 0 #[.val (.int p1), .unset] [])) _
    refine XS.iconst X0.here hx rfl (hb hby d1_0) ?_
    show Steps p.tables e below (s₁.setTop (mkF m 1 #[.val (.int p1), .unset] [(.int (5 : Int32))])) _
    refine st2 _ ?_
    show Steps p.tables e below (T2.setTop (mkF m 4 #[.val (.int p1), .unset] [(.ref b2)])) _
    refine XS.dup X2.here hx rfl (hb hby d1_4) rfl rfl ?_
    show Steps p.tables e below (T2.setTop (mkF m 5 #[.val (.int p1), .unset] [(.ref b2), (.ref b2)])) _
    refine XS.iconst X2.here hx rfl (hb hby d1_5) ?_
    show Steps p.tables e below (T2.setTop (mkF m 6 #[.val (.int p1), .unset] [(.int (0 : Int32)), (.ref b2), (.ref b2)])) _
    refine st4 _ ?_
    show Steps p.tables e below (T4.setTop (mkF m 9 #[.val (.int p1), .unset] [(.ref aN), (.int (0 : Int32)), (.ref b2), (.ref b2)])) _
    refine st5 _ ?_
    show Steps p.tables e below (T5.setTop (mkF m 10 #[.val (.int p1), .unset] [(.ref b2)])) _
    refine XS.dup X5.here hx rfl (hb hby d1_10) rfl rfl ?_
    show Steps p.tables e below (T5.setTop (mkF m 11 #[.val (.int p1), .unset] [(.ref b2), (.ref b2)])) _
    refine XS.iconst X5.here hx rfl (hb hby d1_11) ?_
    show Steps p.tables e below (T5.setTop (mkF m 12 #[.val (.int p1), .unset] [(.int (1 : Int32)), (.ref b2), (.ref b2)])) _
    refine st7 _ ?_
    show Steps p.tables e below (T7.setTop (mkF m 15 #[.val (.int p1), .unset] [(.ref aI), (.int (1 : Int32)), (.ref b2), (.ref b2)])) _
    refine st8 _ ?_
    show Steps p.tables e below (T8.setTop (mkF m 16 #[.val (.int p1), .unset] [(.ref b2)])) _
    refine XS.dup X8.here hx rfl (hb hby d1_16) rfl rfl ?_
    show Steps p.tables e below (T8.setTop (mkF m 17 #[.val (.int p1), .unset] [(.ref b2), (.ref b2)])) _
    refine XS.iconst X8.here hx rfl (hb hby d1_17) ?_
    show Steps p.tables e below (T8.setTop (mkF m 18 #[.val (.int p1), .unset] [(.int (2 : Int32)), (.ref b2), (.ref b2)])) _
    refine st10 _ ?_
    show Steps p.tables e below (T10.setTop (mkF m 21 #[.val (.int p1), .unset] [(.ref aF), (.int (2 : Int32)), (.ref b2), (.ref b2)])) _
    refine st11 _ ?_
    show Steps p.tables e below (T11.setTop (mkF m 22 #[.val (.int p1), .unset] [(.ref b2)])) _
    refine XS.dup X11.here hx rfl (hb hby d1_22) rfl rfl ?_
    show Steps p.tables e below (T11.setTop (mkF m 23 #[.val (.int p1), .unset] [(.ref b2), (.ref b2)])) _
    refine XS.iconst X11.here hx rfl (hb hby d1_23) ?_
    show Steps p.tables e below (T11.setTop (mkF m 24 #[.val (.int p1), .unset] [(.int (3 : Int32)), (.ref b2), (.ref b2)])) _
    refine st13 _ ?_
    show Steps p.tables e below (T13.setTop (mkF m 27 #[.val (.int p1), .unset] [(.ref aB), (.int (3 : Int32)), (.ref b2), (.ref b2)])) _
    refine st14 _ ?_
    show Steps p.tables e below (T14.setTop (mkF m 28 #[.val (.int p1), .unset] [(.ref b2)])) _
    refine XS.dup X14.here hx rfl (hb hby d1_28) rfl rfl ?_
    show Steps p.tables e below (T14.setTop (mkF m 29 #[.val (.int p1), .unset] [(.ref b2), (.ref b2)])) _
    refine XS.iconst X14.here hx rfl (hb hby d1_29) ?_
    show Steps p.tables e below (T14.setTop (mkF m 30 #[.val (.int p1), .unset] [(.int (4 : Int32)), (.ref b2), (.ref b2)])) _
    refine st16 _ ?_
    show Steps p.tables e below (T16.setTop (mkF m 33 #[.val (.int p1), .unset] [(.ref aA), (.int (4 : Int32)), (.ref b2), (.ref b2)])) _
    refine st17 _ ?_
    show Steps p.tables e below (T17.setTop (mkF m 34 #[.val (.int p1), .unset] [(.ref b2)])) _
    refine XS.astoreN X17.here hx rfl (hb hby d1_34) rfl rfl (l' := #[.val (.int p1), .val (.ref b2)]) rfl ?_
    show Steps p.tables e below (T17.setTop (mkF m 35 #[.val (.int p1), .val (.ref b2)] [])) _
    refine XS.aloadN X17.here hx rfl (hb hby d1_35) rfl rfl ?_
    show Steps p.tables e below (T17.setTop (mkF m 36 #[.val (.int p1), .val (.ref b2)] [(.ref b2)])) _
    refine XS.iloadN X17.here hx rfl (hb hby d1_36) rfl ?_
    show Steps p.tables e below (T17.setTop (mkF m 37 #[.val (.int p1), .val (.ref b2)] [(.int p1), (.ref b2)])) _
    refine X17.ldcInt hx hown (mvT hZ (hw _ (List.mem_of_getElem? (i := 18) rfl))) (g := (mkF m 37 #[.val (.int p1), .val (.ref b2)] [(.int p1), (.ref b2)])) rfl (hb hby d1_37) _ ?_
    show Steps p.tables e below (T17.setTop (mkF m 39 #[.val (.int p1), .val (.ref b2)] [(.int (2147483647 : Int32)), (.int p1), (.ref b2)])) _
    refine XS.iand X17.here hx rfl (hb hby d1_39) rfl ?_
    show Steps p.tables e below (T17.setTop (mkF m 40 #[.val (.int p1), .val (.ref b2)] [(.int (p1 &&& (2147483647 : Int32))), (.ref b2)])) _
    refine XS.iconst X17.here hx rfl (hb hby d1_40) ?_
    show Steps p.tables e below (T17.setTop (mkF m 41 #[.val (.int p1), .val (.ref b2)] [(.int (5 : Int32)), (.int (p1 &&& (2147483647 : Int32))), (.ref b2)])) _
    refine XS.irem X17.here hx rfl (hb hby d1_41) rfl (by decide) ?_
    show Steps p.tables e below (T17.setTop (mkF m 42 #[.val (.int p1), .val (.ref b2)] [(.int (own_rem (p1 &&& (2147483647 : Int32)) (5 : Int32))), (.ref b2)])) _
    refine X17.aaload hx (j := (own_rem (p1 &&& (2147483647 : Int32)) (5 : Int32))) (v := (.ref (own_k aN aI aF aB aA p1))) (by rw [e17]; exact Ar_b2.1) (State.isArrayOf_alike hZ.alike Ar_b2.2.1) rfl Ar_b2.2.2 hin42 hat42 (g := (mkF m 42 #[.val (.int p1), .val (.ref b2)] [(.int (own_rem (p1 &&& (2147483647 : Int32)) (5 : Int32))), (.ref b2)])) rfl rfl (hb hby d1_42) _ ?_
    show Steps p.tables e below (T17.setTop (mkF m 43 #[.val (.int p1), .val (.ref b2)] [(.ref (own_k aN aI aF aB aA p1))])) _
    jvm_step X17.here [X17.here.top, hx, (hb hby d1_43), X17.method', Bd.returns, Value.isRef, FieldType.isReference]
    first | (intro acts; rw [hr _ acts rfl rfl rfl]) | rw [hr _ _ rfl rfl rfl]
    exact Steps.refl _
  · show Q1 Z p1 aN aI aF aB aA h0 n0 _ T17.heap _
    rw [e17]
    exact ⟨rfl, N17, K17⟩
theorem d2_0 : decode prog_133_method_4_code 0 = .ok (.aload_n 0, 1) := by decide +kernel
theorem d2_1 : decode prog_133_method_4_code 1 = .ok (.getstatic 3, 3) := by decide +kernel
theorem d2_4 : decode prog_133_method_4_code 4 = .ok (.if_acmp .eq 8, 3) := by decide +kernel
theorem d2_12 : decode prog_133_method_4_code 12 = .ok (.aload_n 1, 1) := by decide +kernel
theorem d2_13 : decode prog_133_method_4_code 13 = .ok (.astore_n 2, 1) := by decide +kernel
theorem d2_14 : decode prog_133_method_4_code 14 = .ok (.goto 19, 3) := by decide +kernel
theorem d2_33 : decode prog_133_method_4_code 33 = .ok (.aload_n 2, 1) := by decide +kernel
theorem d2_34 : decode prog_133_method_4_code 34 = .ok (.areturn, 1) := by decide +kernel
theorem pn_2 : plainName "org/graftloom/lua/LocalTypes$Kind" = true := by first | (simp [plainName, overriddenIn]; done) | decide +kernel
theorem ef_2 (m : MethodId) (x0 : Addr) (x1 : Addr) : entryFrame m #[(.ref x0), (.ref x1)] 3 = mkF m 0 #[.val (.ref x0), .val (.ref x1), .unset] [] := by first | (simp [entryFrame, mkF, argsToLocals, Value.category]; done) | rfl
def Q2_t (Z : State) (a1 : Addr) (a2 : Addr) (w3 : Addr) (h0 : Heap) (n0 : Nat) (v : Option Value) (h : Heap) (L : List Loc) : Prop := v = some (.ref a2) ∧ Fr n0 L ∧ h = h0
set_option maxRecDepth 65536 in
set_option maxHeartbeats 40000000 in
theorem rm2_t (l : Launch) (Z : State) (a0 : Array Value) (hw : ∀ d ∈ tables_1, d.before a0 Z = true) (ws : List Jvm.Cond) (a1 : Addr) (a2 : Addr) (w3 : Addr) (h0 : Heap) (n0 : Nat) (Z0 : n0 ≤ h0.size) (S_NONE : Sta Z h0 "org/graftloom/lua/LocalTypes$Kind" "NONE" "Lorg/graftloom/lua/LocalTypes$Kind;" (.ref w3)) (ha4 : a1 = w3) :
    MetFree l (⟨"org/graftloom/lua/LocalTypes$Kind", "or", "(Lorg/graftloom/lua/LocalTypes$Kind;)Lorg/graftloom/lua/LocalTypes$Kind;"⟩ : MethodName) (head1 (Jvm.Cond.code (⟨"org/graftloom/lua/LocalTypes$Kind", "or", "(Lorg/graftloom/lua/LocalTypes$Kind;)Lorg/graftloom/lua/LocalTypes$Kind;"⟩ : MethodName) prog_133_method_4_code 3 (some (.object "org/graftloom/lua/LocalTypes$Kind")) :: ws) ({ frames := 0, cells := 0, slots := 0, locals := 0 } : Room)) (fun a U => a = #[(.ref a1), (.ref a2)] ∧ Z.Warmed39 U.vm ∧ U.heap = h0) (fun _ _ _ _ _ => True) (fun _ U o U' => ∃ v L, o = .returned v ∧ Q2_t Z a1 a2 w3 h0 n0 v U'.heap L ∧ FrameEnd U o U' L ({ frames := 0, cells := 0, slots := 0, locals := 0 } : Room).cells ({ frames := 0, cells := 0, slots := 0, locals := 0 } : Room).slots) := by
  refine MetFree.of_bodySF (plainFor_of_name pn_2) hisR ?_
  intro p e s m args below meth c s₁ Bd hml0 hP hK
  obtain ⟨rfl, hZ, hh⟩ := hP
  have hx := Bd.exec
  have hby := Bd.bytes
  have hml : c.maxLocals = 3 := hml0
  have hown : s.vm.findClass "org/graftloom/lua/LocalTypes$Kind" = some m.cls := findClass_of_methodNamed Bd.named
  have hnm := (name_of_methodNamed Bd.named Bd.method).1
  have X0 : Stand p l e ({ frames := 0, cells := 0, slots := 0, locals := 0 } : Room) s m #[(.ref a1), (.ref a2)] below meth c s₁ [] 0 0 := Stand.of_body Bd
  have e0 : s₁.heap = h0 := by rw [← hh, Bd.state]; rfl
  have N0 := Fr.nil n0
  have pre0 : ∀ t, Steps p.tables e below (s₁.setTop (mkF m 0 #[.val (.ref a1), .val (.ref a2), .unset] [])) t → Steps p.tables e below (s₁.setTop (entryFrame m #[(.ref a1), (.ref a2)] 3)) t := fun t k => castTop (ef_2 m a1 a2) k
  obtain ⟨T4, X4, e4, st4⟩ := getS2 X0 hx hZ hown (host := "") (Or.inl (hw _ (List.mem_of_getElem? (i := 24) rfl))) Via.refl e0 S_NONE (g := (mkF m 1 #[.val (.ref a1), .val (.ref a2), .unset] [(.ref a1)])) rfl (hb hby d2_1)
  obtain ⟨fs, hr, hrun, hended, hW, hsame⟩ := X4.leave (v := some (.ref a2)) (fun h => by rw [Bd.returns] at h; cases h)
  refine ⟨_, _, pre0 _ ?_, hrun, hended, _, _, rfl, ?_, ⟨_, rfl⟩, hW, hsame.mono (by decide) (by decide)⟩
  · show Steps p.tables e below (s₁.setTop (mkF m 0 #[.val (.ref a1), .val (.ref a2), .unset] [])) _
    refine XS.aloadN X0.here hx rfl (hb hby d2_0) rfl rfl ?_
    show Steps p.tables e below (s₁.setTop (mkF m 1 #[.val (.ref a1), .val (.ref a2), .unset] [(.ref a1)])) _
    refine st4 _ ?_
    show Steps p.tables e below (T4.setTop (mkF m 4 #[.val (.ref a1), .val (.ref a2), .unset] [(.ref w3), (.ref a1)])) _
    refine Jvm.RoadKit.acmp (g := (mkF m 4 #[.val (.ref a1), .val (.ref a2), .unset] [(.ref w3), (.ref a1)])) X4 hx rfl rfl rfl (pc0 := 4) (pc' := 12) (same := true) rfl (hb hby d2_4) rfl (decide_eq_true (congrArg Value.ref ha4)) (by decide) (by decide) ?_
    show Steps p.tables e below (T4.setTop (mkF m 12 #[.val (.ref a1), .val (.ref a2), .unset] [])) _
    refine XS.aloadN X4.here hx rfl (hb hby d2_12) rfl rfl ?_
    show Steps p.tables e below (T4.setTop (mkF m 13 #[.val (.ref a1), .val (.ref a2), .unset] [(.ref a2)])) _
    refine XS.astoreN X4.here hx rfl (hb hby d2_13) rfl rfl (l' := #[.val (.ref a1), .val (.ref a2), .val (.ref a2)]) rfl ?_
    show Steps p.tables e below (T4.setTop (mkF m 14 #[.val (.ref a1), .val (.ref a2), .val (.ref a2)] [])) _
    refine XS.goto X4.here hx rfl (pc0 := 14) (pc' := 33) rfl (hb hby d2_14) (by decide) (by decide) ?_
    show Steps p.tables e below (T4.setTop (mkF m 33 #[.val (.ref a1), .val (.ref a2), .val (.ref a2)] [])) _
    refine XS.aloadN X4.here hx rfl (hb hby d2_33) rfl rfl ?_
    show Steps p.tables e below (T4.setTop (mkF m 34 #[.val (.ref a1), .val (.ref a2), .val (.ref a2)] [(.ref a2)])) _
    jvm_step X4.here [X4.here.top, hx, (hb hby d2_34), X4.method', Bd.returns, Value.isRef, FieldType.isReference]
    first | (intro acts; rw [hr _ acts rfl rfl rfl]) | rw [hr _ _ rfl rfl rfl]
    exact Steps.refl _
  · show Q2_t Z a1 a2 w3 h0 n0 _ T4.heap _
    rw [e4]
    exact ⟨rfl, N0, rfl⟩
theorem d2_7 : decode prog_133_method_4_code 7 = .ok (.aload_n 0, 1) := by decide +kernel
theorem d2_8 : decode prog_133_method_4_code 8 = .ok (.aload_n 1, 1) := by decide +kernel
theorem d2_9 : decode prog_133_method_4_code 9 = .ok (.if_acmp .ne 8, 3) := by decide +kernel
def Q2_ff (Z : State) (a1 : Addr) (a2 : Addr) (w3 : Addr) (h0 : Heap) (n0 : Nat) (v : Option Value) (h : Heap) (L : List Loc) : Prop := v = some (.ref a2) ∧ Fr n0 L ∧ h = h0
set_option maxRecDepth 65536 in
set_option maxHeartbeats 40000000 in
theorem rm2_ff (l : Launch) (Z : State) (a0 : Array Value) (hw : ∀ d ∈ tables_1, d.before a0 Z = true) (ws : List Jvm.Cond) (a1 : Addr) (a2 : Addr) (w3 : Addr) (h0 : Heap) (n0 : Nat) (Z0 : n0 ≤ h0.size) (S_NONE : Sta Z h0 "org/graftloom/lua/LocalTypes$Kind" "NONE" "Lorg/graftloom/lua/LocalTypes$Kind;" (.ref w3)) (ha4 : ¬ (a1 = w3)) (ha9 : a1 = a2) :
    MetFree l (⟨"org/graftloom/lua/LocalTypes$Kind", "or", "(Lorg/graftloom/lua/LocalTypes$Kind;)Lorg/graftloom/lua/LocalTypes$Kind;"⟩ : MethodName) (head1 (Jvm.Cond.code (⟨"org/graftloom/lua/LocalTypes$Kind", "or", "(Lorg/graftloom/lua/LocalTypes$Kind;)Lorg/graftloom/lua/LocalTypes$Kind;"⟩ : MethodName) prog_133_method_4_code 3 (some (.object "org/graftloom/lua/LocalTypes$Kind")) :: ws) ({ frames := 0, cells := 0, slots := 0, locals := 0 } : Room)) (fun a U => a = #[(.ref a1), (.ref a2)] ∧ Z.Warmed39 U.vm ∧ U.heap = h0) (fun _ _ _ _ _ => True) (fun _ U o U' => ∃ v L, o = .returned v ∧ Q2_ff Z a1 a2 w3 h0 n0 v U'.heap L ∧ FrameEnd U o U' L ({ frames := 0, cells := 0, slots := 0, locals := 0 } : Room).cells ({ frames := 0, cells := 0, slots := 0, locals := 0 } : Room).slots) := by
  refine MetFree.of_bodySF (plainFor_of_name pn_2) hisR ?_
  intro p e s m args below meth c s₁ Bd hml0 hP hK
  obtain ⟨rfl, hZ, hh⟩ := hP
  have hx := Bd.exec
  have hby := Bd.bytes
  have hml : c.maxLocals = 3 := hml0
  have hown : s.vm.findClass "org/graftloom/lua/LocalTypes$Kind" = some m.cls := findClass_of_methodNamed Bd.named
  have hnm := (name_of_methodNamed Bd.named Bd.method).1
  have X0 : Stand p l e ({ frames := 0, cells := 0, slots := 0, locals := 0 } : Room) s m #[(.ref a1), (.ref a2)] below meth c s₁ [] 0 0 := Stand.of_body Bd
  have e0 : s₁.heap = h0 := by rw [← hh, Bd.state]; rfl
  have N0 := Fr.nil n0
  have pre0 : ∀ t, Steps p.tables e below (s₁.setTop (mkF m 0 #[.val (.ref a1), .val (.ref a2), .unset] [])) t → Steps p.tables e below (s₁.setTop (entryFrame m #[(.ref a1), (.ref a2)] 3)) t := fun t k => castTop (ef_2 m a1 a2) k
  obtain ⟨T4, X4, e4, st4⟩ := getS2 X0 hx hZ hown (host := "") (Or.inl (hw _ (List.mem_of_getElem? (i := 24) rfl))) Via.refl e0 S_NONE (g := (mkF m 1 #[.val (.ref a1), .val (.ref a2), .unset] [(.ref a1)])) rfl (hb hby d2_1)
  obtain ⟨fs, hr, hrun, hended, hW, hsame⟩ := X4.leave (v := some (.ref a2)) (fun h => by rw [Bd.returns] at h; cases h)
  refine ⟨_, _, pre0 _ ?_, hrun, hended, _, _, rfl, ?_, ⟨_, rfl⟩, hW, hsame.mono (by decide) (by decide)⟩
  · show Steps p.tables e below (s₁.setTop (mkF m 0 #[.val (.ref a1), .val (.ref a2), .unset] [])) _
    refine XS.aloadN X0.here hx rfl (hb hby d2_0) rfl rfl ?_
    show Steps p.tables e below (s₁.setTop (mkF m 1 #[.val (.ref a1), .val (.ref a2), .unset] [(.ref a1)])) _
    refine st4 _ ?_
    show Steps p.tables e below (T4.setTop (mkF m 4 #[.val (.ref a1), .val (.ref a2), .unset] [(.ref w3), (.ref a1)])) _
    refine Jvm.RoadKit.acmp (g := (mkF m 4 #[.val (.ref a1), .val (.ref a2), .unset] [(.ref w3), (.ref a1)])) X4 hx rfl rfl rfl (pc0 := 4) (pc' := 7) (same := false) rfl (hb hby d2_4) rfl (decide_eq_false fun q => ha4 (Value.ref.inj q)) (by decide) (by decide) ?_
    show Steps p.tables e below (T4.setTop (mkF m 7 #[.val (.ref a1), .val (.ref a2), .unset] [])) _
    refine XS.aloadN X4.here hx rfl (hb hby d2_7) rfl rfl ?_
    show Steps p.tables e below (T4.setTop (mkF m 8 #[.val (.ref a1), .val (.ref a2), .unset] [(.ref a1)])) _
    refine XS.aloadN X4.here hx rfl (hb hby d2_8) rfl rfl ?_
    show Steps p.tables e below (T4.setTop (mkF m 9 #[.val (.ref a1), .val (.ref a2), .unset] [(.ref a2), (.ref a1)])) _
    refine Jvm.RoadKit.acmp (g := (mkF m 9 #[.val (.ref a1), .val (.ref a2), .unset] [(.ref a2), (.ref a1)])) X4 hx rfl rfl rfl (pc0 := 9) (pc' := 12) (same := true) rfl (hb hby d2_9) rfl (decide_eq_true (congrArg Value.ref ha9)) (by decide) (by decide) ?_
    show Steps p.tables e below (T4.setTop (mkF m 12 #[.val (.ref a1), .val (.ref a2), .unset] [])) _
    refine XS.aloadN X4.here hx rfl (hb hby d2_12) rfl rfl ?_
    show Steps p.tables e below (T4.setTop (mkF m 13 #[.val (.ref a1), .val (.ref a2), .unset] [(.ref a2)])) _
    refine XS.astoreN X4.here hx rfl (hb hby d2_13) rfl rfl (l' := #[.val (.ref a1), .val (.ref a2), .val (.ref a2)]) rfl ?_
    show Steps p.tables e below (T4.setTop (mkF m 14 #[.val (.ref a1), .val (.ref a2), .val (.ref a2)] [])) _
    refine XS.goto X4.here hx rfl (pc0 := 14) (pc' := 33) rfl (hb hby d2_14) (by decide) (by decide) ?_
    show Steps p.tables e below (T4.setTop (mkF m 33 #[.val (.ref a1), .val (.ref a2), .val (.ref a2)] [])) _
    refine XS.aloadN X4.here hx rfl (hb hby d2_33) rfl rfl ?_
    show Steps p.tables e below (T4.setTop (mkF m 34 #[.val (.ref a1), .val (.ref a2), .val (.ref a2)] [(.ref a2)])) _
    jvm_step X4.here [X4.here.top, hx, (hb hby d2_34), X4.method', Bd.returns, Value.isRef, FieldType.isReference]
    first | (intro acts; rw [hr _ acts rfl rfl rfl]) | rw [hr _ _ rfl rfl rfl]
    exact Steps.refl _
  · show Q2_ff Z a1 a2 w3 h0 n0 _ T4.heap _
    rw [e4]
    exact ⟨rfl, N0, rfl⟩
theorem d2_17 : decode prog_133_method_4_code 17 = .ok (.aload_n 1, 1) := by decide +kernel
theorem d2_18 : decode prog_133_method_4_code 18 = .ok (.getstatic 3, 3) := by decide +kernel
theorem d2_21 : decode prog_133_method_4_code 21 = .ok (.if_acmp .ne 8, 3) := by decide +kernel
theorem d2_24 : decode prog_133_method_4_code 24 = .ok (.aload_n 0, 1) := by decide +kernel
theorem d2_25 : decode prog_133_method_4_code 25 = .ok (.astore_n 2, 1) := by decide +kernel
theorem d2_26 : decode prog_133_method_4_code 26 = .ok (.goto 7, 3) := by decide +kernel
def Q2_ftf (Z : State) (a1 : Addr) (a2 : Addr) (w3 : Addr) (h0 : Heap) (n0 : Nat) (v : Option Value) (h : Heap) (L : List Loc) : Prop := v = some (.ref a1) ∧ Fr n0 L ∧ h = h0
set_option maxRecDepth 65536 in
set_option maxHeartbeats 40000000 in
theorem rm2_ftf (l : Launch) (Z : State) (a0 : Array Value) (hw : ∀ d ∈ tables_1, d.before a0 Z = true) (ws : List Jvm.Cond) (a1 : Addr) (a2 : Addr) (w3 : Addr) (h0 : Heap) (n0 : Nat) (Z0 : n0 ≤ h0.size) (S_NONE : Sta Z h0 "org/graftloom/lua/LocalTypes$Kind" "NONE" "Lorg/graftloom/lua/LocalTypes$Kind;" (.ref w3)) (ha4 : ¬ (a1 = w3)) (ha9 : ¬ (a1 = a2)) (ha21 : a2 = w3) :
    MetFree l (⟨"org/graftloom/lua/LocalTypes$Kind", "or", "(Lorg/graftloom/lua/LocalTypes$Kind;)Lorg/graftloom/lua/LocalTypes$Kind;"⟩ : MethodName) (head1 (Jvm.Cond.code (⟨"org/graftloom/lua/LocalTypes$Kind", "or", "(Lorg/graftloom/lua/LocalTypes$Kind;)Lorg/graftloom/lua/LocalTypes$Kind;"⟩ : MethodName) prog_133_method_4_code 3 (some (.object "org/graftloom/lua/LocalTypes$Kind")) :: ws) ({ frames := 0, cells := 0, slots := 0, locals := 0 } : Room)) (fun a U => a = #[(.ref a1), (.ref a2)] ∧ Z.Warmed39 U.vm ∧ U.heap = h0) (fun _ _ _ _ _ => True) (fun _ U o U' => ∃ v L, o = .returned v ∧ Q2_ftf Z a1 a2 w3 h0 n0 v U'.heap L ∧ FrameEnd U o U' L ({ frames := 0, cells := 0, slots := 0, locals := 0 } : Room).cells ({ frames := 0, cells := 0, slots := 0, locals := 0 } : Room).slots) := by
  refine MetFree.of_bodySF (plainFor_of_name pn_2) hisR ?_
  intro p e s m args below meth c s₁ Bd hml0 hP hK
  obtain ⟨rfl, hZ, hh⟩ := hP
  have hx := Bd.exec
  have hby := Bd.bytes
  have hml : c.maxLocals = 3 := hml0
  have hown : s.vm.findClass "org/graftloom/lua/LocalTypes$Kind" = some m.cls := findClass_of_methodNamed Bd.named
  have hnm := (name_of_methodNamed Bd.named Bd.method).1
  have X0 : Stand p l e ({ frames := 0, cells := 0, slots := 0, locals := 0 } : Room) s m #[(.ref a1), (.ref a2)] below meth c s₁ [] 0 0 := Stand.of_body Bd
  have e0 : s₁.heap = h0 := by rw [← hh, Bd.state]; rfl
  have N0 := Fr.nil n0
  have pre0 : ∀ t, Steps p.tables e below (s₁.setTop (mkF m 0 #[.val (.ref a1), .val (.ref a2), .unset] [])) t → Steps p.tables e below (s₁.setTop (entryFrame m #[(.ref a1), (.ref a2)] 3)) t := fun t k => castTop (ef_2 m a1 a2) k
  obtain ⟨T4, X4, e4, st4⟩ := getS2 X0 hx hZ hown (host := "") (Or.inl (hw _ (List.mem_of_getElem? (i := 24) rfl))) Via.refl e0 S_NONE (g := (mkF m 1 #[.val (.ref a1), .val (.ref a2), .unset] [(.ref a1)])) rfl (hb hby d2_1)
  obtain ⟨T5, X5, e5, st5⟩ := getS2 X4 hx hZ hown (host := "") (Or.inl (hw _ (List.mem_of_getElem? (i := 24) rfl))) Via.refl e4 S_NONE (g := (mkF m 18 #[.val (.ref a1), .val (.ref a2), .unset] [(.ref a2)])) rfl (hb hby d2_18)
  obtain ⟨fs, hr, hrun, hended, hW, hsame⟩ := X5.leave (v := some (.ref a1)) (fun h => by rw [Bd.returns] at h; cases h)
  refine ⟨_, _, pre0 _ ?_, hrun, hended, _, _, rfl, ?_, ⟨_, rfl⟩, hW, hsame.mono (by decide) (by decide)⟩
  · show Steps p.tables e below (s₁.setTop (mkF m 0 #[.val (.ref a1), .val (.ref a2), .unset] [])) _
    refine XS.aloadN X0.here hx rfl (hb hby d2_0) rfl rfl ?_
    show Steps p.tables e below (s₁.setTop (mkF m 1 #[.val (.ref a1), .val (.ref a2), .unset] [(.ref a1)])) _
    refine st4 _ ?_
    show Steps p.tables e below (T4.setTop (mkF m 4 #[.val (.ref a1), .val (.ref a2), .unset] [(.ref w3), (.ref a1)])) _
    refine Jvm.RoadKit.acmp (g := (mkF m 4 #[.val (.ref a1), .val (.ref a2), .unset] [(.ref w3), (.ref a1)])) X4 hx rfl rfl rfl (pc0 := 4) (pc' := 7) (same := false) rfl (hb hby d2_4) rfl (decide_eq_false fun q => ha4 (Value.ref.inj q)) (by decide) (by decide) ?_
    show Steps p.tables e below (T4.setTop (mkF m 7 #[.val (.ref a1), .val (.ref a2), .unset] [])) _
    refine XS.aloadN X4.here hx rfl (hb hby d2_7) rfl rfl ?_
    show Steps p.tables e below (T4.setTop (mkF m 8 #[.val (.ref a1), .val (.ref a2), .unset] [(.ref a1)])) _
    refine XS.aloadN X4.here hx rfl (hb hby d2_8) rfl rfl ?_
    show Steps p.tables e below (T4.setTop (mkF m 9 #[.val (.ref a1), .val (.ref a2), .unset] [(.ref a2), (.ref a1)])) _
    refine Jvm.RoadKit.acmp (g := (mkF m 9 #[.val (.ref a1), .val (.ref a2), .unset] [(.ref a2), (.ref a1)])) X4 hx rfl rfl rfl (pc0 := 9) (pc' := 17) (same := false) rfl (hb hby d2_9) rfl (decide_eq_false fun q => ha9 (Value.ref.inj q)) (by decide) (by decide) ?_
    show Steps p.tables e below (T4.setTop (mkF m 17 #[.val (.ref a1), .val (.ref a2), .unset] [])) _
    refine XS.aloadN X4.here hx rfl (hb hby d2_17) rfl rfl ?_
    show Steps p.tables e below (T4.setTop (mkF m 18 #[.val (.ref a1), .val (.ref a2), .unset] [(.ref a2)])) _
    refine st5 _ ?_
    show Steps p.tables e below (T5.setTop (mkF m 21 #[.val (.ref a1), .val (.ref a2), .unset] [(.ref w3), (.ref a2)])) _
    refine Jvm.RoadKit.acmp (g := (mkF m 21 #[.val (.ref a1), .val (.ref a2), .unset] [(.ref w3), (.ref a2)])) X5 hx rfl rfl rfl (pc0 := 21) (pc' := 24) (same := true) rfl (hb hby d2_21) rfl (decide_eq_true (congrArg Value.ref ha21)) (by decide) (by decide) ?_
    show Steps p.tables e below (T5.setTop (mkF m 24 #[.val (.ref a1), .val (.ref a2), .unset] [])) _
    refine XS.aloadN X5.here hx rfl (hb hby d2_24) rfl rfl ?_
    show Steps p.tables e below (T5.setTop (mkF m 25 #[.val (.ref a1), .val (.ref a2), .unset] [(.ref a1)])) _
    refine XS.astoreN X5.here hx rfl (hb hby d2_25) rfl rfl (l' := #[.val (.ref a1), .val (.ref a2), .val (.ref a1)]) rfl ?_
    show Steps p.tables e below (T5.setTop (mkF m 26 #[.val (.ref a1), .val (.ref a2), .val (.ref a1)] [])) _
    refine XS.goto X5.here hx rfl (pc0 := 26) (pc' := 33) rfl (hb hby d2_26) (by decide) (by decide) ?_
    show Steps p.tables e below (T5.setTop (mkF m 33 #[.val (.ref a1), .val (.ref a2), .val (.ref a1)] [])) _
    refine XS.aloadN X5.here hx rfl (hb hby d2_33) rfl rfl ?_
    show Steps p.tables e below (T5.setTop (mkF m 34 #[.val (.ref a1), .val (.ref a2), .val (.ref a1)] [(.ref a1)])) _
    jvm_step X5.here [X5.here.top, hx, (hb hby d2_34), X5.method', Bd.returns, Value.isRef, FieldType.isReference]
    first | (intro acts; rw [hr _ acts rfl rfl rfl]) | rw [hr _ _ rfl rfl rfl]
    exact Steps.refl _
  · show Q2_ftf Z a1 a2 w3 h0 n0 _ T5.heap _
    rw [e5]
    exact ⟨rfl, N0, rfl⟩
theorem d2_29 : decode prog_133_method_4_code 29 = .ok (.getstatic 16, 3) := by decide +kernel
theorem d2_32 : decode prog_133_method_4_code 32 = .ok (.astore_n 2, 1) := by decide +kernel
def Q2_ftt (Z : State) (a1 : Addr) (a2 : Addr) (w3 : Addr) (w6 : Addr) (h0 : Heap) (n0 : Nat) (v : Option Value) (h : Heap) (L : List Loc) : Prop := v = some (.ref w6) ∧ Fr n0 L ∧ h = h0
set_option maxRecDepth 65536 in
set_option maxHeartbeats 40000000 in
theorem rm2_ftt (l : Launch) (Z : State) (a0 : Array Value) (hw : ∀ d ∈ tables_1, d.before a0 Z = true) (ws : List Jvm.Cond) (a1 : Addr) (a2 : Addr) (w3 : Addr) (w6 : Addr) (h0 : Heap) (n0 : Nat) (Z0 : n0 ≤ h0.size) (S_NONE : Sta Z h0 "org/graftloom/lua/LocalTypes$Kind" "NONE" "Lorg/graftloom/lua/LocalTypes$Kind;" (.ref w3)) (S_ANY : Sta Z h0 "org/graftloom/lua/LocalTypes$Kind" "ANY" "Lorg/graftloom/lua/LocalTypes$Kind;" (.ref w6)) (ha4 : ¬ (a1 = w3)) (ha9 : ¬ (a1 = a2)) (ha21 : ¬ (a2 = w3)) :
    MetFree l (⟨"org/graftloom/lua/LocalTypes$Kind", "or", "(Lorg/graftloom/lua/LocalTypes$Kind;)Lorg/graftloom/lua/LocalTypes$Kind;"⟩ : MethodName) (head1 (Jvm.Cond.code (⟨"org/graftloom/lua/LocalTypes$Kind", "or", "(Lorg/graftloom/lua/LocalTypes$Kind;)Lorg/graftloom/lua/LocalTypes$Kind;"⟩ : MethodName) prog_133_method_4_code 3 (some (.object "org/graftloom/lua/LocalTypes$Kind")) :: ws) ({ frames := 0, cells := 0, slots := 0, locals := 0 } : Room)) (fun a U => a = #[(.ref a1), (.ref a2)] ∧ Z.Warmed39 U.vm ∧ U.heap = h0) (fun _ _ _ _ _ => True) (fun _ U o U' => ∃ v L, o = .returned v ∧ Q2_ftt Z a1 a2 w3 w6 h0 n0 v U'.heap L ∧ FrameEnd U o U' L ({ frames := 0, cells := 0, slots := 0, locals := 0 } : Room).cells ({ frames := 0, cells := 0, slots := 0, locals := 0 } : Room).slots) := by
  refine MetFree.of_bodySF (plainFor_of_name pn_2) hisR ?_
  intro p e s m args below meth c s₁ Bd hml0 hP hK
  obtain ⟨rfl, hZ, hh⟩ := hP
  have hx := Bd.exec
  have hby := Bd.bytes
  have hml : c.maxLocals = 3 := hml0
  have hown : s.vm.findClass "org/graftloom/lua/LocalTypes$Kind" = some m.cls := findClass_of_methodNamed Bd.named
  have hnm := (name_of_methodNamed Bd.named Bd.method).1
  have X0 : Stand p l e ({ frames := 0, cells := 0, slots := 0, locals := 0 } : Room) s m #[(.ref a1), (.ref a2)] below meth c s₁ [] 0 0 := Stand.of_body Bd
  have e0 : s₁.heap = h0 := by rw [← hh, Bd.state]; rfl
  have N0 := Fr.nil n0
  have pre0 : ∀ t, Steps p.tables e below (s₁.setTop (mkF m 0 #[.val (.ref a1), .val (.ref a2), .unset] [])) t → Steps p.tables e below (s₁.setTop (entryFrame m #[(.ref a1), (.ref a2)] 3)) t := fun t k => castTop (ef_2 m a1 a2) k
  obtain ⟨T4, X4, e4, st4⟩ := getS2 X0 hx hZ hown (host := "") (Or.inl (hw _ (List.mem_of_getElem? (i := 24) rfl))) Via.refl e0 S_NONE (g := (mkF m 1 #[.val (.ref a1), .val (.ref a2), .unset] [(.ref a1)])) rfl (hb hby d2_1)
  obtain ⟨T5, X5, e5, st5⟩ := getS2 X4 hx hZ hown (host := "") (Or.inl (hw _ (List.mem_of_getElem? (i := 24) rfl))) Via.refl e4 S_NONE (g := (mkF m 18 #[.val (.ref a1), .val (.ref a2), .unset] [(.ref a2)])) rfl (hb hby d2_18)
  obtain ⟨T7, X7, e7, st7⟩ := getS2 X5 hx hZ hown (host := "") (Or.inl (hw _ (List.mem_of_getElem? (i := 28) rfl))) Via.refl e5 S_ANY (g := (mkF m 29 #[.val (.ref a1), .val (.ref a2), .unset] [])) rfl (hb hby d2_29)
  obtain ⟨fs, hr, hrun, hended, hW, hsame⟩ := X7.leave (v := some (.ref w6)) (fun h => by rw [Bd.returns] at h; cases h)
  refine ⟨_, _, pre0 _ ?_, hrun, hended, _, _, rfl, ?_, ⟨_, rfl⟩, hW, hsame.mono (by decide) (by decide)⟩
  · show Steps p.tables e below (s₁.setTop (mkF m 0 #[.val (.ref a1), .val (.ref a2), .unset] [])) _
    refine XS.aloadN X0.here hx rfl (hb hby d2_0) rfl rfl ?_
    show Steps p.tables e below (s₁.setTop (mkF m 1 #[.val (.ref a1), .val (.ref a2), .unset] [(.ref a1)])) _
    refine st4 _ ?_
    show Steps p.tables e below (T4.setTop (mkF m 4 #[.val (.ref a1), .val (.ref a2), .unset] [(.ref w3), (.ref a1)])) _
    refine Jvm.RoadKit.acmp (g := (mkF m 4 #[.val (.ref a1), .val (.ref a2), .unset] [(.ref w3), (.ref a1)])) X4 hx rfl rfl rfl (pc0 := 4) (pc' := 7) (same := false) rfl (hb hby d2_4) rfl (decide_eq_false fun q => ha4 (Value.ref.inj q)) (by decide) (by decide) ?_
    show Steps p.tables e below (T4.setTop (mkF m 7 #[.val (.ref a1), .val (.ref a2), .unset] [])) _
    refine XS.aloadN X4.here hx rfl (hb hby d2_7) rfl rfl ?_
    show Steps p.tables e below (T4.setTop (mkF m 8 #[.val (.ref a1), .val (.ref a2), .unset] [(.ref a1)])) _
    refine XS.aloadN X4.here hx rfl (hb hby d2_8) rfl rfl ?_
    show Steps p.tables e below (T4.setTop (mkF m 9 #[.val (.ref a1), .val (.ref a2), .unset] [(.ref a2), (.ref a1)])) _
    refine Jvm.RoadKit.acmp (g := (mkF m 9 #[.val (.ref a1), .val (.ref a2), .unset] [(.ref a2), (.ref a1)])) X4 hx rfl rfl rfl (pc0 := 9) (pc' := 17) (same := false) rfl (hb hby d2_9) rfl (decide_eq_false fun q => ha9 (Value.ref.inj q)) (by decide) (by decide) ?_
    show Steps p.tables e below (T4.setTop (mkF m 17 #[.val (.ref a1), .val (.ref a2), .unset] [])) _
    refine XS.aloadN X4.here hx rfl (hb hby d2_17) rfl rfl ?_
    show Steps p.tables e below (T4.setTop (mkF m 18 #[.val (.ref a1), .val (.ref a2), .unset] [(.ref a2)])) _
    refine st5 _ ?_
    show Steps p.tables e below (T5.setTop (mkF m 21 #[.val (.ref a1), .val (.ref a2), .unset] [(.ref w3), (.ref a2)])) _
    refine Jvm.RoadKit.acmp (g := (mkF m 21 #[.val (.ref a1), .val (.ref a2), .unset] [(.ref w3), (.ref a2)])) X5 hx rfl rfl rfl (pc0 := 21) (pc' := 29) (same := false) rfl (hb hby d2_21) rfl (decide_eq_false fun q => ha21 (Value.ref.inj q)) (by decide) (by decide) ?_
    show Steps p.tables e below (T5.setTop (mkF m 29 #[.val (.ref a1), .val (.ref a2), .unset] [])) _
    refine st7 _ ?_
    show Steps p.tables e below (T7.setTop (mkF m 32 #[.val (.ref a1), .val (.ref a2), .unset] [(.ref w6)])) _
    refine XS.astoreN X7.here hx rfl (hb hby d2_32) rfl rfl (l' := #[.val (.ref a1), .val (.ref a2), .val (.ref w6)]) rfl ?_
    show Steps p.tables e below (T7.setTop (mkF m 33 #[.val (.ref a1), .val (.ref a2), .val (.ref w6)] [])) _
    refine XS.aloadN X7.here hx rfl (hb hby d2_33) rfl rfl ?_
    show Steps p.tables e below (T7.setTop (mkF m 34 #[.val (.ref a1), .val (.ref a2), .val (.ref w6)] [(.ref w6)])) _
    jvm_step X7.here [X7.here.top, hx, (hb hby d2_34), X7.method', Bd.returns, Value.isRef, FieldType.isReference]
    first | (intro acts; rw [hr _ acts rfl rfl rfl]) | rw [hr _ _ rfl rfl rfl]
    exact Steps.refl _
  · show Q2_ftt Z a1 a2 w3 w6 h0 n0 _ T7.heap _
    rw [e7]
    exact ⟨rfl, N0, rfl⟩
set_option maxHeartbeats 4000000 in
theorem rm2 (l : Launch) (Z : State) (a0 : Array Value) (hw : ∀ d ∈ tables_1, d.before a0 Z = true) (ws : List Jvm.Cond) (a1 a2 : Addr) (aN aI aF aB aA : Addr) (h0 : Heap) (n0 : Nat) (Z0 : n0 ≤ h0.size) (B : own_K Z h0 aN aI aF aB aA) :
    MetFree l (⟨"org/graftloom/lua/LocalTypes$Kind", "or", "(Lorg/graftloom/lua/LocalTypes$Kind;)Lorg/graftloom/lua/LocalTypes$Kind;"⟩ : MethodName) (head1 (Jvm.Cond.code (⟨"org/graftloom/lua/LocalTypes$Kind", "or", "(Lorg/graftloom/lua/LocalTypes$Kind;)Lorg/graftloom/lua/LocalTypes$Kind;"⟩ : MethodName) prog_133_method_4_code 3 (some (.object "org/graftloom/lua/LocalTypes$Kind")) :: ws) ({ frames := 0, cells := 0, slots := 0, locals := 0 } : Room)) (fun a U => a = #[(.ref a1), (.ref a2)] ∧ Z.Warmed39 U.vm ∧ U.heap = h0) (fun _ _ _ _ _ => True) (fun _ U o U' => ∃ v L, o = .returned v ∧ own_Q (.ref (own_orV aN aA a1 a2)) h0 n0 v U'.heap L ∧ FrameEnd U o U' L ({ frames := 0, cells := 0, slots := 0, locals := 0 } : Room).cells ({ frames := 0, cells := 0, slots := 0, locals := 0 } : Room).slots) := by
  by_cases ha4 : a1 = aN
  · have e : own_orV aN aA a1 a2 = a2 := by simp only [own_orV]; simp [ha4]
    rw [e]; exact rm2_t l Z a0 hw ws a1 a2 aN h0 n0 Z0 B.1.1 ha4
  · by_cases ha9 : a1 = a2
    · have e : own_orV aN aA a1 a2 = a2 := by simp only [own_orV]; simp [ha9]
      rw [e]; exact rm2_ff l Z a0 hw ws a1 a2 aN h0 n0 Z0 B.1.1 ha4 ha9
    · by_cases ha21 : a2 = aN
      · have e : own_orV aN aA a1 a2 = a1 := by simp only [own_orV]; simp [ha4, ha9, ha21]
        rw [e]; exact rm2_ftf l Z a0 hw ws a1 a2 aN h0 n0 Z0 B.1.1 ha4 ha9 ha21
      · have e : own_orV aN aA a1 a2 = aA := by simp only [own_orV]; simp [ha4, ha9, ha21]
        rw [e]; exact rm2_ftt l Z a0 hw ws a1 a2 aN aA h0 n0 Z0 B.1.1 B.2.2.2.2.1 ha4 ha9 ha21
theorem d3_0 : decode method_3_code 0 = .ok (.aload_n 0, 1) := by decide +kernel
theorem d3_1 : decode method_3_code 1 = .ok (.getstatic 9, 3) := by decide +kernel
theorem d3_4 : decode method_3_code 4 = .ok (.if_acmp .eq 15, 3) := by decide +kernel
theorem d3_19 : decode method_3_code 19 = .ok (.iconst 1, 1) := by decide +kernel
theorem d3_20 : decode method_3_code 20 = .ok (.goto 4, 3) := by decide +kernel
theorem d3_24 : decode method_3_code 24 = .ok (.ireturn, 1) := by decide +kernel
theorem pn_3 : plainName "org/graftloom/lua/KindOrPinLaw" = true := by first | (simp [plainName, overriddenIn]; done) | decide +kernel
theorem ef_3 (m : MethodId) (x0 : Addr) (x1 : Addr) : entryFrame m #[(.ref x0), (.ref x1)] 2 = mkF m 0 #[.val (.ref x0), .val (.ref x1)] [] := by first | (simp [entryFrame, mkF, argsToLocals, Value.category]; done) | rfl
def Q3_t (Z : State) (a1 : Addr) (a2 : Addr) (w3 : Addr) (h0 : Heap) (n0 : Nat) (v : Option Value) (h : Heap) (L : List Loc) : Prop := v = some (.int (1 : Int32)) ∧ Fr n0 L ∧ h = h0
set_option maxRecDepth 65536 in
set_option maxHeartbeats 40000000 in
theorem rm3_t (l : Launch) (Z : State) (a0 : Array Value) (hw : ∀ d ∈ tables_1, d.before a0 Z = true) (ws : List Jvm.Cond) (a1 : Addr) (a2 : Addr) (w3 : Addr) (h0 : Heap) (n0 : Nat) (Z0 : n0 ≤ h0.size) (S_NONE : Sta Z h0 "org/graftloom/lua/LocalTypes$Kind" "NONE" "Lorg/graftloom/lua/LocalTypes$Kind;" (.ref w3)) (ha4 : a1 = w3) :
    MetFree l (⟨"org/graftloom/lua/KindOrPinLaw", "leq", "(Lorg/graftloom/lua/LocalTypes$Kind;Lorg/graftloom/lua/LocalTypes$Kind;)Z"⟩ : MethodName) (head1 (Jvm.Cond.code (⟨"org/graftloom/lua/KindOrPinLaw", "leq", "(Lorg/graftloom/lua/LocalTypes$Kind;Lorg/graftloom/lua/LocalTypes$Kind;)Z"⟩ : MethodName) method_3_code 2 (some .boolean) :: ws) ({ frames := 0, cells := 0, slots := 0, locals := 0 } : Room)) (fun a U => a = #[(.ref a1), (.ref a2)] ∧ Z.Warmed39 U.vm ∧ U.heap = h0) (fun _ _ _ _ _ => True) (fun _ U o U' => ∃ v L, o = .returned v ∧ Q3_t Z a1 a2 w3 h0 n0 v U'.heap L ∧ FrameEnd U o U' L ({ frames := 0, cells := 0, slots := 0, locals := 0 } : Room).cells ({ frames := 0, cells := 0, slots := 0, locals := 0 } : Room).slots) := by
  refine MetFree.of_bodySF (plainFor_of_name pn_3) hisR ?_
  intro p e s m args below meth c s₁ Bd hml0 hP hK
  obtain ⟨rfl, hZ, hh⟩ := hP
  have hx := Bd.exec
  have hby := Bd.bytes
  have hml : c.maxLocals = 2 := hml0
  have hown : s.vm.findClass "org/graftloom/lua/KindOrPinLaw" = some m.cls := findClass_of_methodNamed Bd.named
  have hnm := (name_of_methodNamed Bd.named Bd.method).1
  have X0 : Stand p l e ({ frames := 0, cells := 0, slots := 0, locals := 0 } : Room) s m #[(.ref a1), (.ref a2)] below meth c s₁ [] 0 0 := Stand.of_body Bd
  have e0 : s₁.heap = h0 := by rw [← hh, Bd.state]; rfl
  have N0 := Fr.nil n0
  have pre0 : ∀ t, Steps p.tables e below (s₁.setTop (mkF m 0 #[.val (.ref a1), .val (.ref a2)] [])) t → Steps p.tables e below (s₁.setTop (entryFrame m #[(.ref a1), (.ref a2)] 2)) t := fun t k => castTop (ef_3 m a1 a2) k
  obtain ⟨T4, X4, e4, st4⟩ := getS2 X0 hx hZ hown (host := "") (Or.inl (hw _ (List.mem_of_getElem? (i := 6) rfl))) Via.refl e0 S_NONE (g := (mkF m 1 #[.val (.ref a1), .val (.ref a2)] [(.ref a1)])) rfl (hb hby d3_1)
  obtain ⟨fs, hr, hrun, hended, hW, hsame⟩ := X4.leave (v := some (.int (1 : Int32))) (fun h => by rw [Bd.returns] at h; cases h)
  refine ⟨_, _, pre0 _ ?_, hrun, hended, _, _, rfl, ?_, ⟨_, rfl⟩, hW, hsame.mono (by decide) (by decide)⟩
  · show Steps p.tables e below (s₁.setTop (mkF m 0 #[.val (.ref a1), .val (.ref a2)] [])) _
    refine XS.aloadN X0.here hx rfl (hb hby d3_0) rfl rfl ?_
    show Steps p.tables e below (s₁.setTop (mkF m 1 #[.val (.ref a1), .val (.ref a2)] [(.ref a1)])) _
    refine st4 _ ?_
    show Steps p.tables e below (T4.setTop (mkF m 4 #[.val (.ref a1), .val (.ref a2)] [(.ref w3), (.ref a1)])) _
    refine Jvm.RoadKit.acmp (g := (mkF m 4 #[.val (.ref a1), .val (.ref a2)] [(.ref w3), (.ref a1)])) X4 hx rfl rfl rfl (pc0 := 4) (pc' := 19) (same := true) rfl (hb hby d3_4) rfl (decide_eq_true (congrArg Value.ref ha4)) (by decide) (by decide) ?_
    show Steps p.tables e below (T4.setTop (mkF m 19 #[.val (.ref a1), .val (.ref a2)] [])) _
    refine XS.iconst X4.here hx rfl (hb hby d3_19) ?_
    show Steps p.tables e below (T4.setTop (mkF m 20 #[.val (.ref a1), .val (.ref a2)] [(.int (1 : Int32))])) _
    refine XS.goto X4.here hx rfl (pc0 := 20) (pc' := 24) rfl (hb hby d3_20) (by decide) (by decide) ?_
    show Steps p.tables e below (T4.setTop (mkF m 24 #[.val (.ref a1), .val (.ref a2)] [(.int (1 : Int32))])) _
    exact retN X4 hx (t := .boolean) Bd.returns (by simp) (hb hby d3_24) hr
  · show Q3_t Z a1 a2 w3 h0 n0 _ T4.heap _
    rw [e4]
    exact ⟨rfl, N0, rfl⟩
theorem d3_7 : decode method_3_code 7 = .ok (.aload_n 1, 1) := by decide +kernel
theorem d3_8 : decode method_3_code 8 = .ok (.getstatic 22, 3) := by decide +kernel
theorem d3_11 : decode method_3_code 11 = .ok (.if_acmp .eq 8, 3) := by decide +kernel
def Q3_ft (Z : State) (a1 : Addr) (a2 : Addr) (w3 : Addr) (w5 : Addr) (h0 : Heap) (n0 : Nat) (v : Option Value) (h : Heap) (L : List Loc) : Prop := v = some (.int (1 : Int32)) ∧ Fr n0 L ∧ h = h0
set_option maxRecDepth 65536 in
set_option maxHeartbeats 40000000 in
theorem rm3_ft (l : Launch) (Z : State) (a0 : Array Value) (hw : ∀ d ∈ tables_1, d.before a0 Z = true) (ws : List Jvm.Cond) (a1 : Addr) (a2 : Addr) (w3 : Addr) (w5 : Addr) (h0 : Heap) (n0 : Nat) (Z0 : n0 ≤ h0.size) (S_NONE : Sta Z h0 "org/graftloom/lua/LocalTypes$Kind" "NONE" "Lorg/graftloom/lua/LocalTypes$Kind;" (.ref w3)) (S_ANY : Sta Z h0 "org/graftloom/lua/LocalTypes$Kind" "ANY" "Lorg/graftloom/lua/LocalTypes$Kind;" (.ref w5)) (ha4 : ¬ (a1 = w3)) (ha11 : a2 = w5) :
    MetFree l (⟨"org/graftloom/lua/KindOrPinLaw", "leq", "(Lorg/graftloom/lua/LocalTypes$Kind;Lorg/graftloom/lua/LocalTypes$Kind;)Z"⟩ : MethodName) (head1 (Jvm.Cond.code (⟨"org/graftloom/lua/KindOrPinLaw", "leq", "(Lorg/graftloom/lua/LocalTypes$Kind;Lorg/graftloom/lua/LocalTypes$Kind;)Z"⟩ : MethodName) method_3_code 2 (some .boolean) :: ws) ({ frames := 0, cells := 0, slots := 0, locals := 0 } : Room)) (fun a U => a = #[(.ref a1), (.ref a2)] ∧ Z.Warmed39 U.vm ∧ U.heap = h0) (fun _ _ _ _ _ => True) (fun _ U o U' => ∃ v L, o = .returned v ∧ Q3_ft Z a1 a2 w3 w5 h0 n0 v U'.heap L ∧ FrameEnd U o U' L ({ frames := 0, cells := 0, slots := 0, locals := 0 } : Room).cells ({ frames := 0, cells := 0, slots := 0, locals := 0 } : Room).slots) := by
  refine MetFree.of_bodySF (plainFor_of_name pn_3) hisR ?_
  intro p e s m args below meth c s₁ Bd hml0 hP hK
  obtain ⟨rfl, hZ, hh⟩ := hP
  have hx := Bd.exec
  have hby := Bd.bytes
  have hml : c.maxLocals = 2 := hml0
  have hown : s.vm.findClass "org/graftloom/lua/KindOrPinLaw" = some m.cls := findClass_of_methodNamed Bd.named
  have hnm := (name_of_methodNamed Bd.named Bd.method).1
  have X0 : Stand p l e ({ frames := 0, cells := 0, slots := 0, locals := 0 } : Room) s m #[(.ref a1), (.ref a2)] below meth c s₁ [] 0 0 := Stand.of_body Bd
  have e0 : s₁.heap = h0 := by rw [← hh, Bd.state]; rfl
  have N0 := Fr.nil n0
  have pre0 : ∀ t, Steps p.tables e below (s₁.setTop (mkF m 0 #[.val (.ref a1), .val (.ref a2)] [])) t → Steps p.tables e below (s₁.setTop (entryFrame m #[(.ref a1), (.ref a2)] 2)) t := fun t k => castTop (ef_3 m a1 a2) k
  obtain ⟨T4, X4, e4, st4⟩ := getS2 X0 hx hZ hown (host := "") (Or.inl (hw _ (List.mem_of_getElem? (i := 6) rfl))) Via.refl e0 S_NONE (g := (mkF m 1 #[.val (.ref a1), .val (.ref a2)] [(.ref a1)])) rfl (hb hby d3_1)
  obtain ⟨T6, X6, e6, st6⟩ := getS2 X4 hx hZ hown (host := "") (Or.inl (hw _ (List.mem_of_getElem? (i := 16) rfl))) Via.refl e4 S_ANY (g := (mkF m 8 #[.val (.ref a1), .val (.ref a2)] [(.ref a2)])) rfl (hb hby d3_8)
  obtain ⟨fs, hr, hrun, hended, hW, hsame⟩ := X6.leave (v := some (.int (1 : Int32))) (fun h => by rw [Bd.returns] at h; cases h)
  refine ⟨_, _, pre0 _ ?_, hrun, hended, _, _, rfl, ?_, ⟨_, rfl⟩, hW, hsame.mono (by decide) (by decide)⟩
  · show Steps p.tables e below (s₁.setTop (mkF m 0 #[.val (.ref a1), .val (.ref a2)] [])) _
    refine XS.aloadN X0.here hx rfl (hb hby d3_0) rfl rfl ?_
    show Steps p.tables e below (s₁.setTop (mkF m 1 #[.val (.ref a1), .val (.ref a2)] [(.ref a1)])) _
    refine st4 _ ?_
    show Steps p.tables e below (T4.setTop (mkF m 4 #[.val (.ref a1), .val (.ref a2)] [(.ref w3), (.ref a1)])) _
    refine Jvm.RoadKit.acmp (g := (mkF m 4 #[.val (.ref a1), .val (.ref a2)] [(.ref w3), (.ref a1)])) X4 hx rfl rfl rfl (pc0 := 4) (pc' := 7) (same := false) rfl (hb hby d3_4) rfl (decide_eq_false fun q => ha4 (Value.ref.inj q)) (by decide) (by decide) ?_
    show Steps p.tables e below (T4.setTop (mkF m 7 #[.val (.ref a1), .val (.ref a2)] [])) _
    refine XS.aloadN X4.here hx rfl (hb hby d3_7) rfl rfl ?_
    show Steps p.tables e below (T4.setTop (mkF m 8 #[.val (.ref a1), .val (.ref a2)] [(.ref a2)])) _
    refine st6 _ ?_
    show Steps p.tables e below (T6.setTop (mkF m 11 #[.val (.ref a1), .val (.ref a2)] [(.ref w5), (.ref a2)])) _
    refine Jvm.RoadKit.acmp (g := (mkF m 11 #[.val (.ref a1), .val (.ref a2)] [(.ref w5), (.ref a2)])) X6 hx rfl rfl rfl (pc0 := 11) (pc' := 19) (same := true) rfl (hb hby d3_11) rfl (decide_eq_true (congrArg Value.ref ha11)) (by decide) (by decide) ?_
    show Steps p.tables e below (T6.setTop (mkF m 19 #[.val (.ref a1), .val (.ref a2)] [])) _
    refine XS.iconst X6.here hx rfl (hb hby d3_19) ?_
    show Steps p.tables e below (T6.setTop (mkF m 20 #[.val (.ref a1), .val (.ref a2)] [(.int (1 : Int32))])) _
    refine XS.goto X6.here hx rfl (pc0 := 20) (pc' := 24) rfl (hb hby d3_20) (by decide) (by decide) ?_
    show Steps p.tables e below (T6.setTop (mkF m 24 #[.val (.ref a1), .val (.ref a2)] [(.int (1 : Int32))])) _
    exact retN X6 hx (t := .boolean) Bd.returns (by simp) (hb hby d3_24) hr
  · show Q3_ft Z a1 a2 w3 w5 h0 n0 _ T6.heap _
    rw [e6]
    exact ⟨rfl, N0, rfl⟩
theorem d3_14 : decode method_3_code 14 = .ok (.aload_n 0, 1) := by decide +kernel
theorem d3_15 : decode method_3_code 15 = .ok (.aload_n 1, 1) := by decide +kernel
theorem d3_16 : decode method_3_code 16 = .ok (.if_acmp .ne 7, 3) := by decide +kernel
def Q3_fff (Z : State) (a1 : Addr) (a2 : Addr) (w3 : Addr) (w5 : Addr) (h0 : Heap) (n0 : Nat) (v : Option Value) (h : Heap) (L : List Loc) : Prop := v = some (.int (1 : Int32)) ∧ Fr n0 L ∧ h = h0
set_option maxRecDepth 65536 in
set_option maxHeartbeats 40000000 in
theorem rm3_fff (l : Launch) (Z : State) (a0 : Array Value) (hw : ∀ d ∈ tables_1, d.before a0 Z = true) (ws : List Jvm.Cond) (a1 : Addr) (a2 : Addr) (w3 : Addr) (w5 : Addr) (h0 : Heap) (n0 : Nat) (Z0 : n0 ≤ h0.size) (S_NONE : Sta Z h0 "org/graftloom/lua/LocalTypes$Kind" "NONE" "Lorg/graftloom/lua/LocalTypes$Kind;" (.ref w3)) (S_ANY : Sta Z h0 "org/graftloom/lua/LocalTypes$Kind" "ANY" "Lorg/graftloom/lua/LocalTypes$Kind;" (.ref w5)) (ha4 : ¬ (a1 = w3)) (ha11 : ¬ (a2 = w5)) (ha16 : a1 = a2) :
    MetFree l (⟨"org/graftloom/lua/KindOrPinLaw", "leq", "(Lorg/graftloom/lua/LocalTypes$Kind;Lorg/graftloom/lua/LocalTypes$Kind;)Z"⟩ : MethodName) (head1 (Jvm.Cond.code (⟨"org/graftloom/lua/KindOrPinLaw", "leq", "(Lorg/graftloom/lua/LocalTypes$Kind;Lorg/graftloom/lua/LocalTypes$Kind;)Z"⟩ : MethodName) method_3_code 2 (some .boolean) :: ws) ({ frames := 0, cells := 0, slots := 0, locals := 0 } : Room)) (fun a U => a = #[(.ref a1), (.ref a2)] ∧ Z.Warmed39 U.vm ∧ U.heap = h0) (fun _ _ _ _ _ => True) (fun _ U o U' => ∃ v L, o = .returned v ∧ Q3_fff Z a1 a2 w3 w5 h0 n0 v U'.heap L ∧ FrameEnd U o U' L ({ frames := 0, cells := 0, slots := 0, locals := 0 } : Room).cells ({ frames := 0, cells := 0, slots := 0, locals := 0 } : Room).slots) := by
  refine MetFree.of_bodySF (plainFor_of_name pn_3) hisR ?_
  intro p e s m args below meth c s₁ Bd hml0 hP hK
  obtain ⟨rfl, hZ, hh⟩ := hP
  have hx := Bd.exec
  have hby := Bd.bytes
  have hml : c.maxLocals = 2 := hml0
  have hown : s.vm.findClass "org/graftloom/lua/KindOrPinLaw" = some m.cls := findClass_of_methodNamed Bd.named
  have hnm := (name_of_methodNamed Bd.named Bd.method).1
  have X0 : Stand p l e ({ frames := 0, cells := 0, slots := 0, locals := 0 } : Room) s m #[(.ref a1), (.ref a2)] below meth c s₁ [] 0 0 := Stand.of_body Bd
  have e0 : s₁.heap = h0 := by rw [← hh, Bd.state]; rfl
  have N0 := Fr.nil n0
  have pre0 : ∀ t, Steps p.tables e below (s₁.setTop (mkF m 0 #[.val (.ref a1), .val (.ref a2)] [])) t → Steps p.tables e below (s₁.setTop (entryFrame m #[(.ref a1), (.ref a2)] 2)) t := fun t k => castTop (ef_3 m a1 a2) k
  obtain ⟨T4, X4, e4, st4⟩ := getS2 X0 hx hZ hown (host := "") (Or.inl (hw _ (List.mem_of_getElem? (i := 6) rfl))) Via.refl e0 S_NONE (g := (mkF m 1 #[.val (.ref a1), .val (.ref a2)] [(.ref a1)])) rfl (hb hby d3_1)
  obtain ⟨T6, X6, e6, st6⟩ := getS2 X4 hx hZ hown (host := "") (Or.inl (hw _ (List.mem_of_getElem? (i := 16) rfl))) Via.refl e4 S_ANY (g := (mkF m 8 #[.val (.ref a1), .val (.ref a2)] [(.ref a2)])) rfl (hb hby d3_8)
  obtain ⟨fs, hr, hrun, hended, hW, hsame⟩ := X6.leave (v := some (.int (1 : Int32))) (fun h => by rw [Bd.returns] at h; cases h)
  refine ⟨_, _, pre0 _ ?_, hrun, hended, _, _, rfl, ?_, ⟨_, rfl⟩, hW, hsame.mono (by decide) (by decide)⟩
  · show Steps p.tables e below (s₁.setTop (mkF m 0 #[.val (.ref a1), .val (.ref a2)] [])) _
    refine XS.aloadN X0.here hx rfl (hb hby d3_0) rfl rfl ?_
    show Steps p.tables e below (s₁.setTop (mkF m 1 #[.val (.ref a1), .val (.ref a2)] [(.ref a1)])) _
    refine st4 _ ?_
    show Steps p.tables e below (T4.setTop (mkF m 4 #[.val (.ref a1), .val (.ref a2)] [(.ref w3), (.ref a1)])) _
    refine Jvm.RoadKit.acmp (g := (mkF m 4 #[.val (.ref a1), .val (.ref a2)] [(.ref w3), (.ref a1)])) X4 hx rfl rfl rfl (pc0 := 4) (pc' := 7) (same := false) rfl (hb hby d3_4) rfl (decide_eq_false fun q => ha4 (Value.ref.inj q)) (by decide) (by decide) ?_
    show Steps p.tables e below (T4.setTop (mkF m 7 #[.val (.ref a1), .val (.ref a2)] [])) _
    refine XS.aloadN X4.here hx rfl (hb hby d3_7) rfl rfl ?_
    show Steps p.tables e below (T4.setTop (mkF m 8 #[.val (.ref a1), .val (.ref a2)] [(.ref a2)])) _
    refine st6 _ ?_
    show Steps p.tables e below (T6.setTop (mkF m 11 #[.val (.ref a1), .val (.ref a2)] [(.ref w5), (.ref a2)])) _
    refine Jvm.RoadKit.acmp (g := (mkF m 11 #[.val (.ref a1), .val (.ref a2)] [(.ref w5), (.ref a2)])) X6 hx rfl rfl rfl (pc0 := 11) (pc' := 14) (same := false) rfl (hb hby d3_11) rfl (decide_eq_false fun q => ha11 (Value.ref.inj q)) (by decide) (by decide) ?_
    show Steps p.tables e below (T6.setTop (mkF m 14 #[.val (.ref a1), .val (.ref a2)] [])) _
    refine XS.aloadN X6.here hx rfl (hb hby d3_14) rfl rfl ?_
    show Steps p.tables e below (T6.setTop (mkF m 15 #[.val (.ref a1), .val (.ref a2)] [(.ref a1)])) _
    refine XS.aloadN X6.here hx rfl (hb hby d3_15) rfl rfl ?_
    show Steps p.tables e below (T6.setTop (mkF m 16 #[.val (.ref a1), .val (.ref a2)] [(.ref a2), (.ref a1)])) _
    refine Jvm.RoadKit.acmp (g := (mkF m 16 #[.val (.ref a1), .val (.ref a2)] [(.ref a2), (.ref a1)])) X6 hx rfl rfl rfl (pc0 := 16) (pc' := 19) (same := true) rfl (hb hby d3_16) rfl (decide_eq_true (congrArg Value.ref ha16)) (by decide) (by decide) ?_
    show Steps p.tables e below (T6.setTop (mkF m 19 #[.val (.ref a1), .val (.ref a2)] [])) _
    refine XS.iconst X6.here hx rfl (hb hby d3_19) ?_
    show Steps p.tables e below (T6.setTop (mkF m 20 #[.val (.ref a1), .val (.ref a2)] [(.int (1 : Int32))])) _
    refine XS.goto X6.here hx rfl (pc0 := 20) (pc' := 24) rfl (hb hby d3_20) (by decide) (by decide) ?_
    show Steps p.tables e below (T6.setTop (mkF m 24 #[.val (.ref a1), .val (.ref a2)] [(.int (1 : Int32))])) _
    exact retN X6 hx (t := .boolean) Bd.returns (by simp) (hb hby d3_24) hr
  · show Q3_fff Z a1 a2 w3 w5 h0 n0 _ T6.heap _
    rw [e6]
    exact ⟨rfl, N0, rfl⟩
theorem d3_23 : decode method_3_code 23 = .ok (.iconst 0, 1) := by decide +kernel
def Q3_fft (Z : State) (a1 : Addr) (a2 : Addr) (w3 : Addr) (w5 : Addr) (h0 : Heap) (n0 : Nat) (v : Option Value) (h : Heap) (L : List Loc) : Prop := v = some (.int (0 : Int32)) ∧ Fr n0 L ∧ h = h0
set_option maxRecDepth 65536 in
set_option maxHeartbeats 40000000 in
theorem rm3_fft (l : Launch) (Z : State) (a0 : Array Value) (hw : ∀ d ∈ tables_1, d.before a0 Z = true) (ws : List Jvm.Cond) (a1 : Addr) (a2 : Addr) (w3 : Addr) (w5 : Addr) (h0 : Heap) (n0 : Nat) (Z0 : n0 ≤ h0.size) (S_NONE : Sta Z h0 "org/graftloom/lua/LocalTypes$Kind" "NONE" "Lorg/graftloom/lua/LocalTypes$Kind;" (.ref w3)) (S_ANY : Sta Z h0 "org/graftloom/lua/LocalTypes$Kind" "ANY" "Lorg/graftloom/lua/LocalTypes$Kind;" (.ref w5)) (ha4 : ¬ (a1 = w3)) (ha11 : ¬ (a2 = w5)) (ha16 : ¬ (a1 = a2)) :
    MetFree l (⟨"org/graftloom/lua/KindOrPinLaw", "leq", "(Lorg/graftloom/lua/LocalTypes$Kind;Lorg/graftloom/lua/LocalTypes$Kind;)Z"⟩ : MethodName) (head1 (Jvm.Cond.code (⟨"org/graftloom/lua/KindOrPinLaw", "leq", "(Lorg/graftloom/lua/LocalTypes$Kind;Lorg/graftloom/lua/LocalTypes$Kind;)Z"⟩ : MethodName) method_3_code 2 (some .boolean) :: ws) ({ frames := 0, cells := 0, slots := 0, locals := 0 } : Room)) (fun a U => a = #[(.ref a1), (.ref a2)] ∧ Z.Warmed39 U.vm ∧ U.heap = h0) (fun _ _ _ _ _ => True) (fun _ U o U' => ∃ v L, o = .returned v ∧ Q3_fft Z a1 a2 w3 w5 h0 n0 v U'.heap L ∧ FrameEnd U o U' L ({ frames := 0, cells := 0, slots := 0, locals := 0 } : Room).cells ({ frames := 0, cells := 0, slots := 0, locals := 0 } : Room).slots) := by
  refine MetFree.of_bodySF (plainFor_of_name pn_3) hisR ?_
  intro p e s m args below meth c s₁ Bd hml0 hP hK
  obtain ⟨rfl, hZ, hh⟩ := hP
  have hx := Bd.exec
  have hby := Bd.bytes
  have hml : c.maxLocals = 2 := hml0
  have hown : s.vm.findClass "org/graftloom/lua/KindOrPinLaw" = some m.cls := findClass_of_methodNamed Bd.named
  have hnm := (name_of_methodNamed Bd.named Bd.method).1
  have X0 : Stand p l e ({ frames := 0, cells := 0, slots := 0, locals := 0 } : Room) s m #[(.ref a1), (.ref a2)] below meth c s₁ [] 0 0 := Stand.of_body Bd
  have e0 : s₁.heap = h0 := by rw [← hh, Bd.state]; rfl
  have N0 := Fr.nil n0
  have pre0 : ∀ t, Steps p.tables e below (s₁.setTop (mkF m 0 #[.val (.ref a1), .val (.ref a2)] [])) t → Steps p.tables e below (s₁.setTop (entryFrame m #[(.ref a1), (.ref a2)] 2)) t := fun t k => castTop (ef_3 m a1 a2) k
  obtain ⟨T4, X4, e4, st4⟩ := getS2 X0 hx hZ hown (host := "") (Or.inl (hw _ (List.mem_of_getElem? (i := 6) rfl))) Via.refl e0 S_NONE (g := (mkF m 1 #[.val (.ref a1), .val (.ref a2)] [(.ref a1)])) rfl (hb hby d3_1)
  obtain ⟨T6, X6, e6, st6⟩ := getS2 X4 hx hZ hown (host := "") (Or.inl (hw _ (List.mem_of_getElem? (i := 16) rfl))) Via.refl e4 S_ANY (g := (mkF m 8 #[.val (.ref a1), .val (.ref a2)] [(.ref a2)])) rfl (hb hby d3_8)
  obtain ⟨fs, hr, hrun, hended, hW, hsame⟩ := X6.leave (v := some (.int (0 : Int32))) (fun h => by rw [Bd.returns] at h; cases h)
  refine ⟨_, _, pre0 _ ?_, hrun, hended, _, _, rfl, ?_, ⟨_, rfl⟩, hW, hsame.mono (by decide) (by decide)⟩
  · show Steps p.tables e below (s₁.setTop (mkF m 0 #[.val (.ref a1), .val (.ref a2)] [])) _
    refine XS.aloadN X0.here hx rfl (hb hby d3_0) rfl rfl ?_
    show Steps p.tables e below (s₁.setTop (mkF m 1 #[.val (.ref a1), .val (.ref a2)] [(.ref a1)])) _
    refine st4 _ ?_
    show Steps p.tables e below (T4.setTop (mkF m 4 #[.val (.ref a1), .val (.ref a2)] [(.ref w3), (.ref a1)])) _
    refine Jvm.RoadKit.acmp (g := (mkF m 4 #[.val (.ref a1), .val (.ref a2)] [(.ref w3), (.ref a1)])) X4 hx rfl rfl rfl (pc0 := 4) (pc' := 7) (same := false) rfl (hb hby d3_4) rfl (decide_eq_false fun q => ha4 (Value.ref.inj q)) (by decide) (by decide) ?_
    show Steps p.tables e below (T4.setTop (mkF m 7 #[.val (.ref a1), .val (.ref a2)] [])) _
    refine XS.aloadN X4.here hx rfl (hb hby d3_7) rfl rfl ?_
    show Steps p.tables e below (T4.setTop (mkF m 8 #[.val (.ref a1), .val (.ref a2)] [(.ref a2)])) _
    refine st6 _ ?_
    show Steps p.tables e below (T6.setTop (mkF m 11 #[.val (.ref a1), .val (.ref a2)] [(.ref w5), (.ref a2)])) _
    refine Jvm.RoadKit.acmp (g := (mkF m 11 #[.val (.ref a1), .val (.ref a2)] [(.ref w5), (.ref a2)])) X6 hx rfl rfl rfl (pc0 := 11) (pc' := 14) (same := false) rfl (hb hby d3_11) rfl (decide_eq_false fun q => ha11 (Value.ref.inj q)) (by decide) (by decide) ?_
    show Steps p.tables e below (T6.setTop (mkF m 14 #[.val (.ref a1), .val (.ref a2)] [])) _
    refine XS.aloadN X6.here hx rfl (hb hby d3_14) rfl rfl ?_
    show Steps p.tables e below (T6.setTop (mkF m 15 #[.val (.ref a1), .val (.ref a2)] [(.ref a1)])) _
    refine XS.aloadN X6.here hx rfl (hb hby d3_15) rfl rfl ?_
    show Steps p.tables e below (T6.setTop (mkF m 16 #[.val (.ref a1), .val (.ref a2)] [(.ref a2), (.ref a1)])) _
    refine Jvm.RoadKit.acmp (g := (mkF m 16 #[.val (.ref a1), .val (.ref a2)] [(.ref a2), (.ref a1)])) X6 hx rfl rfl rfl (pc0 := 16) (pc' := 23) (same := false) rfl (hb hby d3_16) rfl (decide_eq_false fun q => ha16 (Value.ref.inj q)) (by decide) (by decide) ?_
    show Steps p.tables e below (T6.setTop (mkF m 23 #[.val (.ref a1), .val (.ref a2)] [])) _
    refine XS.iconst X6.here hx rfl (hb hby d3_23) ?_
    show Steps p.tables e below (T6.setTop (mkF m 24 #[.val (.ref a1), .val (.ref a2)] [(.int (0 : Int32))])) _
    exact retN X6 hx (t := .boolean) Bd.returns (by simp) (hb hby d3_24) hr
  · show Q3_fft Z a1 a2 w3 w5 h0 n0 _ T6.heap _
    rw [e6]
    exact ⟨rfl, N0, rfl⟩
set_option maxHeartbeats 4000000 in
theorem rm3 (l : Launch) (Z : State) (a0 : Array Value) (hw : ∀ d ∈ tables_1, d.before a0 Z = true) (ws : List Jvm.Cond) (a1 a2 : Addr) (aN aI aF aB aA : Addr) (h0 : Heap) (n0 : Nat) (Z0 : n0 ≤ h0.size) (B : own_K Z h0 aN aI aF aB aA) :
    MetFree l (⟨"org/graftloom/lua/KindOrPinLaw", "leq", "(Lorg/graftloom/lua/LocalTypes$Kind;Lorg/graftloom/lua/LocalTypes$Kind;)Z"⟩ : MethodName) (head1 (Jvm.Cond.code (⟨"org/graftloom/lua/KindOrPinLaw", "leq", "(Lorg/graftloom/lua/LocalTypes$Kind;Lorg/graftloom/lua/LocalTypes$Kind;)Z"⟩ : MethodName) method_3_code 2 (some .boolean) :: ws) ({ frames := 0, cells := 0, slots := 0, locals := 0 } : Room)) (fun a U => a = #[(.ref a1), (.ref a2)] ∧ Z.Warmed39 U.vm ∧ U.heap = h0) (fun _ _ _ _ _ => True) (fun _ U o U' => ∃ v L, o = .returned v ∧ own_Q (.int (own_leq aN aA a1 a2)) h0 n0 v U'.heap L ∧ FrameEnd U o U' L ({ frames := 0, cells := 0, slots := 0, locals := 0 } : Room).cells ({ frames := 0, cells := 0, slots := 0, locals := 0 } : Room).slots) := by
  by_cases ha4 : a1 = aN
  · have e : own_leq aN aA a1 a2 = (1 : Int32) := by simp only [own_leq]; simp [ha4]
    rw [e]; exact rm3_t l Z a0 hw ws a1 a2 aN h0 n0 Z0 B.1.1 ha4
  · by_cases ha11 : a2 = aA
    · have e : own_leq aN aA a1 a2 = (1 : Int32) := by simp only [own_leq]; simp [ha11]
      rw [e]; exact rm3_ft l Z a0 hw ws a1 a2 aN aA h0 n0 Z0 B.1.1 B.2.2.2.2.1 ha4 ha11
    · by_cases ha16 : a1 = a2
      · have e : own_leq aN aA a1 a2 = (1 : Int32) := by simp only [own_leq]; simp [ha16]
        rw [e]; exact rm3_fff l Z a0 hw ws a1 a2 aN aA h0 n0 Z0 B.1.1 B.2.2.2.2.1 ha4 ha11 ha16
      · have e : own_leq aN aA a1 a2 = (0 : Int32) := by simp only [own_leq]; simp [ha4, ha11, ha16]
        rw [e]; exact rm3_fft l Z a0 hw ws a1 a2 aN aA h0 n0 Z0 B.1.1 B.2.2.2.2.1 ha4 ha11 ha16
theorem pn_0 : plainName "org/graftloom/lua/KindOrPinLaw" = true := by first | (simp [plainName, overriddenIn]; done) | decide +kernel
theorem pd_0_i_0 : parseMethodDescriptor "(I)Lorg/graftloom/lua/LocalTypes$Kind;" = some ⟨[.int], some (.object "org/graftloom/lua/LocalTypes$Kind")⟩ := by decide +kernel
theorem pd_0_i_1 : parseMethodDescriptor "(Lorg/graftloom/lua/LocalTypes$Kind;)Lorg/graftloom/lua/LocalTypes$Kind;" = some ⟨[(.object "org/graftloom/lua/LocalTypes$Kind")], some (.object "org/graftloom/lua/LocalTypes$Kind")⟩ := by decide +kernel
theorem pd_0_i_2 : parseMethodDescriptor "(Lorg/graftloom/lua/LocalTypes$Kind;Lorg/graftloom/lua/LocalTypes$Kind;)Z" = some ⟨[(.object "org/graftloom/lua/LocalTypes$Kind"), (.object "org/graftloom/lua/LocalTypes$Kind")], some .boolean⟩ := by decide +kernel
theorem ef_0 (m : MethodId) (x0 : Int32) (x1 : Int32) (x2 : Int32) : entryFrame m #[(.int x0), (.int x1), (.int x2)] maxLocals = mkF m 0 #[.val (.int x0), .val (.int x1), .val (.int x2), .unset, .unset, .unset, .unset, .unset, .unset, .unset] [] := by first | (simp [entryFrame, mkF, argsToLocals, Value.category, maxLocals]; done) | rfl
def Q0_i (Z : State) (p1 : Int32) (p2 : Int32) (p3 : Int32) (aN aI aF aB aA : Addr) (h0 : Heap) (n0 : Nat) (v : Option Value) (h : Heap) (L : List Loc) : Prop := v = some (.int (1 : Int32)) ∧ Fr n0 L
set_option maxRecDepth 65536 in
set_option maxHeartbeats 40000000 in
theorem rm0_i (l : Launch) (Z : State) (a0 : Array Value) (hw : ∀ d ∈ tables_1, d.before a0 Z = true) (ws : List Jvm.Cond) (p1 : Int32) (p2 : Int32) (p3 : Int32) (aN aI aF aB aA : Addr) (h0 : Heap) (n0 : Nat) (Z0 : n0 ≤ h0.size) (B : own_K Z h0 aN aI aF aB aA) (hA : own_leq aN aA (own_k aN aI aF aB aA p1) (own_k aN aI aF aB aA p3) = 0) :
    MetFree l x (head1 (Jvm.Cond.code x code maxLocals ret :: ws) room_1) (fun a U => a = #[(.int p1), (.int p2), (.int p3)] ∧ Z.Warmed39 U.vm ∧ U.heap = h0) (fun _ _ _ _ _ => True) (fun _ U o U' => ∃ v L, o = .returned v ∧ Q0_i Z p1 p2 p3 aN aI aF aB aA h0 n0 v U'.heap L ∧ FrameEnd U o U' L room_1.cells room_1.slots) := by
  refine MetFree.of_bodySF (plainFor_of_name pn_0) hisR ?_
  intro p e s m args below meth c s₁ Bd hml0 hP hK
  obtain ⟨rfl, hZ, hh⟩ := hP
  have hx := Bd.exec
  have hby := Bd.bytes
  have hml : c.maxLocals = 10 := hml0
  have hown : s.vm.findClass "org/graftloom/lua/KindOrPinLaw" = some m.cls := findClass_of_methodNamed Bd.named
  have hnm := (name_of_methodNamed Bd.named Bd.method).1
  have X0 : Stand p l e room_1 s m #[(.int p1), (.int p2), (.int p3)] below meth c s₁ [] 0 0 := Stand.of_body Bd
  have e0 : s₁.heap = h0 := by rw [← hh, Bd.state]; rfl
  have N0 := Fr.nil n0
  have pre0 : ∀ t, Steps p.tables e below (s₁.setTop (mkF m 0 #[.val (.int p1), .val (.int p2), .val (.int p3), .unset, .unset, .unset, .unset, .unset, .unset, .unset] [])) t → Steps p.tables e below (s₁.setTop (entryFrame m #[(.int p1), (.int p2), (.int p3)] maxLocals)) t := fun t k => castTop (ef_0 m p1 p2 p3) k
  obtain ⟨_, _, ⟨T4, L4, k4, n4⟩, -, X4, ⟨Lc4, hQ4, l4, y4, z4⟩, st4⟩ := Jvm.LawKit.callS X0 hx (y := (⟨"org/graftloom/lua/KindOrPinLaw", "pick", "(I)Lorg/graftloom/lua/LocalTypes$Kind;"⟩ : MethodName)) hown (mvT hZ (hw _ (List.mem_of_getElem? (i := 0) rfl))) (mvT hZ (hw _ (List.mem_of_getElem? (i := 1) rfl))) (mvT hZ (hw _ (List.mem_of_getElem? (i := 2) rfl))) (mvT hZ (hw _ (List.mem_of_getElem? (i := 3) rfl))) (by decide) (backOf (W := 0) (rm1 l Z a0 hw [] p1 aN aI aF aB aA h0 n0 Z0 B) hZ (hw _ (List.mem_of_getElem? (i := 3) rfl)) (hw _ (List.mem_of_getElem? (i := 2) rfl)) (by decide) (by decide)) (g := (mkF m 1 #[.val (.int p1), .val (.int p2), .val (.int p3), .unset, .unset, .unset, .unset, .unset, .unset, .unset] [(.int p1)])) rfl (by rw [hml]; rfl) (argsL := [(.int p1)]) (rest := []) (lenOf pd_0_i_0 rfl) rfl (by show 2 * 0 + _ ≤ _; exact Nat.le_of_eq rfl) (hb hby at_1) (fun _ _ => ⟨rfl, e0, (by decide : 0 + 1 ≤ _), (by decide : 0 + 5 ≤ _)⟩)
  dsimp only [Pt.U, Pt.locs, Pt.cells, Pt.slots] at X4 l4 y4 z4 st4 hQ4
  subst l4 y4 z4
  obtain ⟨rfl, N4q, K4q⟩ := hQ4
  have N4 := Fr.app N0 N4q
  obtain ⟨_, _, ⟨T5, L5, k5, n5⟩, -, X5, ⟨Lc5, hQ5, l5, y5, z5⟩, st5⟩ := Jvm.LawKit.callS X4 hx (y := (⟨"org/graftloom/lua/KindOrPinLaw", "pick", "(I)Lorg/graftloom/lua/LocalTypes$Kind;"⟩ : MethodName)) hown (mvT hZ (hw _ (List.mem_of_getElem? (i := 0) rfl))) (mvT hZ (hw _ (List.mem_of_getElem? (i := 1) rfl))) (mvT hZ (hw _ (List.mem_of_getElem? (i := 2) rfl))) (mvT hZ (hw _ (List.mem_of_getElem? (i := 3) rfl))) (by decide) (backOf (W := 0) (rm1 l Z a0 hw [] p2 aN aI aF aB aA T4.heap n0 (Nat.le_trans Z0 K4q.1) (own_Kk B K4q)) hZ (hw _ (List.mem_of_getElem? (i := 3) rfl)) (hw _ (List.mem_of_getElem? (i := 2) rfl)) (by decide) (by decide)) (g := (mkF m 6 #[.val (.int p1), .val (.int p2), .val (.int p3), .val (.ref (own_k aN aI aF aB aA p1)), .unset, .unset, .unset, .unset, .unset, .unset] [(.int p2)])) rfl (by rw [hml]; rfl) (argsL := [(.int p2)]) (rest := []) (lenOf pd_0_i_0 rfl) rfl (by show 2 * 0 + _ ≤ _; exact Nat.le_of_eq rfl) (hb hby at_6) (fun _ _ => ⟨rfl, rfl, (by decide : 0 + 2 ≤ _), (by decide : 0 + 10 ≤ _)⟩)
  dsimp only [Pt.U, Pt.locs, Pt.cells, Pt.slots] at X5 l5 y5 z5 st5 hQ5
  subst l5 y5 z5
  obtain ⟨rfl, N5q, K5q⟩ := hQ5
  have N5 := Fr.app N4 N5q
  obtain ⟨_, _, ⟨T6, L6, k6, n6⟩, -, X6, ⟨Lc6, hQ6, l6, y6, z6⟩, st6⟩ := Jvm.LawKit.callS X5 hx (y := (⟨"org/graftloom/lua/KindOrPinLaw", "pick", "(I)Lorg/graftloom/lua/LocalTypes$Kind;"⟩ : MethodName)) hown (mvT hZ (hw _ (List.mem_of_getElem? (i := 0) rfl))) (mvT hZ (hw _ (List.mem_of_getElem? (i := 1) rfl))) (mvT hZ (hw _ (List.mem_of_getElem? (i := 2) rfl))) (mvT hZ (hw _ (List.mem_of_getElem? (i := 3) rfl))) (by decide) (backOf (W := 0) (rm1 l Z a0 hw [] p3 aN aI aF aB aA T5.heap n0 (Nat.le_trans (Nat.le_trans Z0 K4q.1) K5q.1) (own_Kk (own_Kk B K4q) K5q)) hZ (hw _ (List.mem_of_getElem? (i := 3) rfl)) (hw _ (List.mem_of_getElem? (i := 2) rfl)) (by decide) (by decide)) (g := (mkF m 12 #[.val (.int p1), .val (.int p2), .val (.int p3), .val (.ref (own_k aN aI aF aB aA p1)), .val (.ref (own_k aN aI aF aB aA p2)), .unset, .unset, .unset, .unset, .unset] [(.int p3)])) rfl (by rw [hml]; rfl) (argsL := [(.int p3)]) (rest := []) (lenOf pd_0_i_0 rfl) rfl (by show 2 * 0 + _ ≤ _; exact Nat.le_of_eq rfl) (hb hby at_12) (fun _ _ => ⟨rfl, rfl, (by decide : 0 + 3 ≤ _), (by decide : 0 + 15 ≤ _)⟩)
  dsimp only [Pt.U, Pt.locs, Pt.cells, Pt.slots] at X6 l6 y6 z6 st6 hQ6
  subst l6 y6 z6
  obtain ⟨rfl, N6q, K6q⟩ := hQ6
  have N6 := Fr.app N5 N6q
  obtain ⟨cq7, kq7, q7a, q7b, q7c⟩ := isOf hZ rfl (own_kE (own_Kk (own_Kk (own_Kk B K4q) K5q) K6q) p1)
  obtain ⟨_, _, ⟨T7, L7, k7, n7⟩, -, X7, ⟨Lc7, hQ7, l7, y7, z7⟩, st7⟩ := X6.virtualBack hx (y := (⟨"org/graftloom/lua/LocalTypes$Kind", "or", "(Lorg/graftloom/lua/LocalTypes$Kind;)Lorg/graftloom/lua/LocalTypes$Kind;"⟩ : MethodName)) (z := (⟨"org/graftloom/lua/LocalTypes$Kind", "or", "(Lorg/graftloom/lua/LocalTypes$Kind;)Lorg/graftloom/lua/LocalTypes$Kind;"⟩ : MethodName)) hown (mvT hZ (hw _ (List.mem_of_getElem? (i := 19) rfl))) (mvT hZ (hw _ (List.mem_of_getElem? (i := 20) rfl))) (notFace_of_selects (args := #[]) (mvT hZ (hw _ (List.mem_of_getElem? (i := 22) rfl)))) (mvT hZ (hw _ (List.mem_of_getElem? (i := 22) rfl))) (mvT hZ (hw _ (List.mem_of_getElem? (i := 21) rfl))) (by decide) (backOf (W := 0) (rm2 l Z a0 hw [] (own_k aN aI aF aB aA p1) (own_k aN aI aF aB aA p2) aN aI aF aB aA T6.heap n0 (Nat.le_trans (Nat.le_trans (Nat.le_trans Z0 K4q.1) K5q.1) K6q.1) (own_Kk (own_Kk (own_Kk B K4q) K5q) K6q)) hZ (hw _ (List.mem_of_getElem? (i := 23) rfl)) (hw _ (List.mem_of_getElem? (i := 7) rfl)) (by decide) (by decide)) q7a q7c (g := (mkF m 20 #[.val (.int p1), .val (.int p2), .val (.int p3), .val (.ref (own_k aN aI aF aB aA p1)), .val (.ref (own_k aN aI aF aB aA p2)), .val (.ref (own_k aN aI aF aB aA p3)), .unset, .unset, .unset, .unset] [(.ref (own_k aN aI aF aB aA p2)), (.ref (own_k aN aI aF aB aA p1))])) rfl (by rw [hml]; rfl) (Steps.refl _) (argsL := [(.ref (own_k aN aI aF aB aA p2))]) (rest := []) (lenOf pd_0_i_1 rfl) rfl (by show 2 * 0 + _ ≤ _; exact Nat.le_of_eq rfl) (hb hby at_20) (fun _ _ => ⟨rfl, rfl, (by decide : 0 + 3 ≤ _), (by decide : 0 + 15 ≤ _)⟩)
  dsimp only [Pt.U, Pt.locs, Pt.cells, Pt.slots] at X7 l7 y7 z7 st7 hQ7
  subst l7 y7 z7
  obtain ⟨rfl, N7q, e7q⟩ := hQ7
  have N7 := Fr.app N6 N7q
  obtain ⟨cq8, kq8, q8a, q8b, q8c⟩ := isOf hZ e7q (own_kE (own_Kk (own_Kk (own_Kk B K4q) K5q) K6q) p2)
  obtain ⟨_, _, ⟨T8, L8, k8, n8⟩, -, X8, ⟨Lc8, hQ8, l8, y8, z8⟩, st8⟩ := X7.virtualBack hx (y := (⟨"org/graftloom/lua/LocalTypes$Kind", "or", "(Lorg/graftloom/lua/LocalTypes$Kind;)Lorg/graftloom/lua/LocalTypes$Kind;"⟩ : MethodName)) (z := (⟨"org/graftloom/lua/LocalTypes$Kind", "or", "(Lorg/graftloom/lua/LocalTypes$Kind;)Lorg/graftloom/lua/LocalTypes$Kind;"⟩ : MethodName)) hown (mvT hZ (hw _ (List.mem_of_getElem? (i := 19) rfl))) (mvT hZ (hw _ (List.mem_of_getElem? (i := 20) rfl))) (notFace_of_selects (args := #[]) (mvT hZ (hw _ (List.mem_of_getElem? (i := 22) rfl)))) (mvT hZ (hw _ (List.mem_of_getElem? (i := 22) rfl))) (mvT hZ (hw _ (List.mem_of_getElem? (i := 21) rfl))) (by decide) (backOf (W := 0) (rm2 l Z a0 hw [] (own_k aN aI aF aB aA p2) (own_k aN aI aF aB aA p1) aN aI aF aB aA T6.heap n0 (Nat.le_trans (Nat.le_trans (Nat.le_trans Z0 K4q.1) K5q.1) K6q.1) (own_Kk (own_Kk (own_Kk B K4q) K5q) K6q)) hZ (hw _ (List.mem_of_getElem? (i := 23) rfl)) (hw _ (List.mem_of_getElem? (i := 7) rfl)) (by decide) (by decide)) q8a q8c (g := (mkF m 28 #[.val (.int p1), .val (.int p2), .val (.int p3), .val (.ref (own_k aN aI aF aB aA p1)), .val (.ref (own_k aN aI aF aB aA p2)), .val (.ref (own_k aN aI aF aB aA p3)), .val (.ref (own_orV aN aA (own_k aN aI aF aB aA p1) (own_k aN aI aF aB aA p2))), .unset, .unset, .unset] [(.ref (own_k aN aI aF aB aA p1)), (.ref (own_k aN aI aF aB aA p2))])) rfl (by rw [hml]; rfl) (Steps.refl _) (argsL := [(.ref (own_k aN aI aF aB aA p1))]) (rest := []) (lenOf pd_0_i_1 rfl) rfl (by show 2 * 0 + _ ≤ _; exact Nat.le_of_eq rfl) (hb hby at_28) (fun _ _ => ⟨rfl, e7q, (by decide : 0 + 3 ≤ _), (by decide : 0 + 15 ≤ _)⟩)
  dsimp only [Pt.U, Pt.locs, Pt.cells, Pt.slots] at X8 l8 y8 z8 st8 hQ8
  subst l8 y8 z8
  obtain ⟨rfl, N8q, e8q⟩ := hQ8
  have N8 := Fr.app N7 N8q
  obtain ⟨_, _, ⟨T9, L9, k9, n9⟩, -, X9, ⟨Lc9, hQ9, l9, y9, z9⟩, st9⟩ := Jvm.LawKit.callS X8 hx (y := (⟨"org/graftloom/lua/KindOrPinLaw", "leq", "(Lorg/graftloom/lua/LocalTypes$Kind;Lorg/graftloom/lua/LocalTypes$Kind;)Z"⟩ : MethodName)) hown (mvT hZ (hw _ (List.mem_of_getElem? (i := 25) rfl))) (mvT hZ (hw _ (List.mem_of_getElem? (i := 26) rfl))) (mvT hZ (hw _ (List.mem_of_getElem? (i := 2) rfl))) (mvT hZ (hw _ (List.mem_of_getElem? (i := 27) rfl))) (by decide) (backOf (W := 0) (rm3 l Z a0 hw [] (own_k aN aI aF aB aA p1) (own_orV aN aA (own_k aN aI aF aB aA p1) (own_k aN aI aF aB aA p2)) aN aI aF aB aA T6.heap n0 (Nat.le_trans (Nat.le_trans (Nat.le_trans Z0 K4q.1) K5q.1) K6q.1) (own_Kk (own_Kk (own_Kk B K4q) K5q) K6q)) hZ (hw _ (List.mem_of_getElem? (i := 27) rfl)) (hw _ (List.mem_of_getElem? (i := 2) rfl)) (by decide) (by decide)) (g := (mkF m 50 #[.val (.int p1), .val (.int p2), .val (.int p3), .val (.ref (own_k aN aI aF aB aA p1)), .val (.ref (own_k aN aI aF aB aA p2)), .val (.ref (own_k aN aI aF aB aA p3)), .val (.ref (own_orV aN aA (own_k aN aI aF aB aA p1) (own_k aN aI aF aB aA p2))), .val (.ref (own_orV aN aA (own_k aN aI aF aB aA p2) (own_k aN aI aF aB aA p1))), .unset, .unset] [(.ref (own_orV aN aA (own_k aN aI aF aB aA p1) (own_k aN aI aF aB aA p2))), (.ref (own_k aN aI aF aB aA p1))])) rfl (by rw [hml]; rfl) (argsL := [(.ref (own_k aN aI aF aB aA p1)), (.ref (own_orV aN aA (own_k aN aI aF aB aA p1) (own_k aN aI aF aB aA p2)))]) (rest := []) (lenOf pd_0_i_2 rfl) rfl (by show 2 * 0 + _ ≤ _; exact Nat.le_of_eq rfl) (hb hby at_50) (fun _ _ => ⟨rfl, e8q, (by decide : 0 + 3 ≤ _), (by decide : 0 + 15 ≤ _)⟩)
  dsimp only [Pt.U, Pt.locs, Pt.cells, Pt.slots] at X9 l9 y9 z9 st9 hQ9
  subst l9 y9 z9
  obtain ⟨rfl, N9q, e9q⟩ := hQ9
  have N9 := Fr.app N8 N9q
  obtain ⟨_, _, ⟨T10, L10, k10, n10⟩, -, X10, ⟨Lc10, hQ10, l10, y10, z10⟩, st10⟩ := Jvm.LawKit.callS X9 hx (y := (⟨"org/graftloom/lua/KindOrPinLaw", "leq", "(Lorg/graftloom/lua/LocalTypes$Kind;Lorg/graftloom/lua/LocalTypes$Kind;)Z"⟩ : MethodName)) hown (mvT hZ (hw _ (List.mem_of_getElem? (i := 25) rfl))) (mvT hZ (hw _ (List.mem_of_getElem? (i := 26) rfl))) (mvT hZ (hw _ (List.mem_of_getElem? (i := 2) rfl))) (mvT hZ (hw _ (List.mem_of_getElem? (i := 27) rfl))) (by decide) (backOf (W := 0) (rm3 l Z a0 hw [] (own_k aN aI aF aB aA p2) (own_orV aN aA (own_k aN aI aF aB aA p1) (own_k aN aI aF aB aA p2)) aN aI aF aB aA T6.heap n0 (Nat.le_trans (Nat.le_trans (Nat.le_trans Z0 K4q.1) K5q.1) K6q.1) (own_Kk (own_Kk (own_Kk B K4q) K5q) K6q)) hZ (hw _ (List.mem_of_getElem? (i := 27) rfl)) (hw _ (List.mem_of_getElem? (i := 2) rfl)) (by decide) (by decide)) (g := (mkF m 60 #[.val (.int p1), .val (.int p2), .val (.int p3), .val (.ref (own_k aN aI aF aB aA p1)), .val (.ref (own_k aN aI aF aB aA p2)), .val (.ref (own_k aN aI aF aB aA p3)), .val (.ref (own_orV aN aA (own_k aN aI aF aB aA p1) (own_k aN aI aF aB aA p2))), .val (.ref (own_orV aN aA (own_k aN aI aF aB aA p2) (own_k aN aI aF aB aA p1))), .unset, .unset] [(.ref (own_orV aN aA (own_k aN aI aF aB aA p1) (own_k aN aI aF aB aA p2))), (.ref (own_k aN aI aF aB aA p2))])) rfl (by rw [hml]; rfl) (argsL := [(.ref (own_k aN aI aF aB aA p2)), (.ref (own_orV aN aA (own_k aN aI aF aB aA p1) (own_k aN aI aF aB aA p2)))]) (rest := []) (lenOf pd_0_i_2 rfl) rfl (by show 2 * 0 + _ ≤ _; exact Nat.le_of_eq rfl) (hb hby at_60) (fun _ _ => ⟨rfl, e9q, (by decide : 0 + 3 ≤ _), (by decide : 0 + 15 ≤ _)⟩)
  dsimp only [Pt.U, Pt.locs, Pt.cells, Pt.slots] at X10 l10 y10 z10 st10 hQ10
  subst l10 y10 z10
  obtain ⟨rfl, N10q, e10q⟩ := hQ10
  have N10 := Fr.app N9 N10q
  obtain ⟨_, _, ⟨T11, L11, k11, n11⟩, -, X11, ⟨Lc11, hQ11, l11, y11, z11⟩, st11⟩ := Jvm.LawKit.callS X10 hx (y := (⟨"org/graftloom/lua/KindOrPinLaw", "leq", "(Lorg/graftloom/lua/LocalTypes$Kind;Lorg/graftloom/lua/LocalTypes$Kind;)Z"⟩ : MethodName)) hown (mvT hZ (hw _ (List.mem_of_getElem? (i := 25) rfl))) (mvT hZ (hw _ (List.mem_of_getElem? (i := 26) rfl))) (mvT hZ (hw _ (List.mem_of_getElem? (i := 2) rfl))) (mvT hZ (hw _ (List.mem_of_getElem? (i := 27) rfl))) (by decide) (backOf (W := 0) (rm3 l Z a0 hw [] (own_k aN aI aF aB aA p1) (own_k aN aI aF aB aA p3) aN aI aF aB aA T6.heap n0 (Nat.le_trans (Nat.le_trans (Nat.le_trans Z0 K4q.1) K5q.1) K6q.1) (own_Kk (own_Kk (own_Kk B K4q) K5q) K6q)) hZ (hw _ (List.mem_of_getElem? (i := 27) rfl)) (hw _ (List.mem_of_getElem? (i := 2) rfl)) (by decide) (by decide)) (g := (mkF m 76 #[.val (.int p1), .val (.int p2), .val (.int p3), .val (.ref (own_k aN aI aF aB aA p1)), .val (.ref (own_k aN aI aF aB aA p2)), .val (.ref (own_k aN aI aF aB aA p3)), .val (.ref (own_orV aN aA (own_k aN aI aF aB aA p1) (own_k aN aI aF aB aA p2))), .val (.ref (own_orV aN aA (own_k aN aI aF aB aA p2) (own_k aN aI aF aB aA p1))), .val (.int (1 : Int32)), .unset] [(.ref (own_k aN aI aF aB aA p3)), (.ref (own_k aN aI aF aB aA p1))])) rfl (by rw [hml]; rfl) (argsL := [(.ref (own_k aN aI aF aB aA p1)), (.ref (own_k aN aI aF aB aA p3))]) (rest := []) (lenOf pd_0_i_2 rfl) rfl (by show 2 * 0 + _ ≤ _; exact Nat.le_of_eq rfl) (hb hby at_76) (fun _ _ => ⟨rfl, e10q, (by decide : 0 + 3 ≤ _), (by decide : 0 + 15 ≤ _)⟩)
  dsimp only [Pt.U, Pt.locs, Pt.cells, Pt.slots] at X11 l11 y11 z11 st11 hQ11
  subst l11 y11 z11
  obtain ⟨rfl, N11q, e11q⟩ := hQ11
  have N11 := Fr.app N10 N11q
  obtain ⟨fs, hr, hrun, hended, hW, hsame⟩ := X11.leave (v := some (.int (1 : Int32))) (fun h => by rw [Bd.returns] at h; cases h)
  refine ⟨_, _, pre0 _ ?_, hrun, hended, _, _, rfl, ?_, ⟨_, rfl⟩, hW, hsame.mono (by decide) (by decide)⟩
  · show Steps p.tables e below (s₁.setTop (mkF m 0 #[.val (.int p1), .val (.int p2), .val (.int p3), .unset, .unset, .unset, .unset, .unset, .unset, .unset] [])) _
    refine XS.iloadN X0.here hx rfl (hb hby at_0) rfl ?_
    show Steps p.tables e below (s₁.setTop (mkF m 1 #[.val (.int p1), .val (.int p2), .val (.int p3), .unset, .unset, .unset, .unset, .unset, .unset, .unset] [(.int p1)])) _
    refine st4 _ ?_
    show Steps p.tables e below (T4.setTop (mkF m 4 #[.val (.int p1), .val (.int p2), .val (.int p3), .unset, .unset, .unset, .unset, .unset, .unset, .unset] [(.ref (own_k aN aI aF aB aA p1))])) _
    refine XS.astoreN X4.here hx rfl (hb hby at_4) rfl rfl (l' := #[.val (.int p1), .val (.int p2), .val (.int p3), .val (.ref (own_k aN aI aF aB aA p1)), .unset, .unset, .unset, .unset, .unset, .unset]) rfl ?_
    show Steps p.tables e below (T4.setTop (mkF m 5 #[.val (.int p1), .val (.int p2), .val (.int p3), .val (.ref (own_k aN aI aF aB aA p1)), .unset, .unset, .unset, .unset, .unset, .unset] [])) _
    refine XS.iloadN X4.here hx rfl (hb hby at_5) rfl ?_
    show Steps p.tables e below (T4.setTop (mkF m 6 #[.val (.int p1), .val (.int p2), .val (.int p3), .val (.ref (own_k aN aI aF aB aA p1)), .unset, .unset, .unset, .unset, .unset, .unset] [(.int p2)])) _
    refine st5 _ ?_
    show Steps p.tables e below (T5.setTop (mkF m 9 #[.val (.int p1), .val (.int p2), .val (.int p3), .val (.ref (own_k aN aI aF aB aA p1)), .unset, .unset, .unset, .unset, .unset, .unset] [(.ref (own_k aN aI aF aB aA p2))])) _
    refine XS.astore X5.here hx rfl (hb hby at_9) rfl rfl (l' := #[.val (.int p1), .val (.int p2), .val (.int p3), .val (.ref (own_k aN aI aF aB aA p1)), .val (.ref (own_k aN aI aF aB aA p2)), .unset, .unset, .unset, .unset, .unset]) rfl ?_
    show Steps p.tables e below (T5.setTop (mkF m 11 #[.val (.int p1), .val (.int p2), .val (.int p3), .val (.ref (own_k aN aI aF aB aA p1)), .val (.ref (own_k aN aI aF aB aA p2)), .unset, .unset, .unset, .unset, .unset] [])) _
    refine XS.iloadN X5.here hx rfl (hb hby at_11) rfl ?_
    show Steps p.tables e below (T5.setTop (mkF m 12 #[.val (.int p1), .val (.int p2), .val (.int p3), .val (.ref (own_k aN aI aF aB aA p1)), .val (.ref (own_k aN aI aF aB aA p2)), .unset, .unset, .unset, .unset, .unset] [(.int p3)])) _
    refine st6 _ ?_
    show Steps p.tables e below (T6.setTop (mkF m 15 #[.val (.int p1), .val (.int p2), .val (.int p3), .val (.ref (own_k aN aI aF aB aA p1)), .val (.ref (own_k aN aI aF aB aA p2)), .unset, .unset, .unset, .unset, .unset] [(.ref (own_k aN aI aF aB aA p3))])) _
    refine XS.astore X6.here hx rfl (hb hby at_15) rfl rfl (l' := #[.val (.int p1), .val (.int p2), .val (.int p3), .val (.ref (own_k aN aI aF aB aA p1)), .val (.ref (own_k aN aI aF aB aA p2)), .val (.ref (own_k aN aI aF aB aA p3)), .unset, .unset, .unset, .unset]) rfl ?_
    show Steps p.tables e below (T6.setTop (mkF m 17 #[.val (.int p1), .val (.int p2), .val (.int p3), .val (.ref (own_k aN aI aF aB aA p1)), .val (.ref (own_k aN aI aF aB aA p2)), .val (.ref (own_k aN aI aF aB aA p3)), .unset, .unset, .unset, .unset] [])) _
    refine XS.aloadN X6.here hx rfl (hb hby at_17) rfl rfl ?_
    show Steps p.tables e below (T6.setTop (mkF m 18 #[.val (.int p1), .val (.int p2), .val (.int p3), .val (.ref (own_k aN aI aF aB aA p1)), .val (.ref (own_k aN aI aF aB aA p2)), .val (.ref (own_k aN aI aF aB aA p3)), .unset, .unset, .unset, .unset] [(.ref (own_k aN aI aF aB aA p1))])) _
    refine XS.aload X6.here hx rfl (hb hby at_18) rfl rfl ?_
    show Steps p.tables e below (T6.setTop (mkF m 20 #[.val (.int p1), .val (.int p2), .val (.int p3), .val (.ref (own_k aN aI aF aB aA p1)), .val (.ref (own_k aN aI aF aB aA p2)), .val (.ref (own_k aN aI aF aB aA p3)), .unset, .unset, .unset, .unset] [(.ref (own_k aN aI aF aB aA p2)), (.ref (own_k aN aI aF aB aA p1))])) _
    refine st7.trans ?_
    show Steps p.tables e below (T7.setTop (mkF m 23 #[.val (.int p1), .val (.int p2), .val (.int p3), .val (.ref (own_k aN aI aF aB aA p1)), .val (.ref (own_k aN aI aF aB aA p2)), .val (.ref (own_k aN aI aF aB aA p3)), .unset, .unset, .unset, .unset] [(.ref (own_orV aN aA (own_k aN aI aF aB aA p1) (own_k aN aI aF aB aA p2)))])) _
    refine XS.astore X7.here hx rfl (hb hby at_23) rfl rfl (l' := #[.val (.int p1), .val (.int p2), .val (.int p3), .val (.ref (own_k aN aI aF aB aA p1)), .val (.ref (own_k aN aI aF aB aA p2)), .val (.ref (own_k aN aI aF aB aA p3)), .val (.ref (own_orV aN aA (own_k aN aI aF aB aA p1) (own_k aN aI aF aB aA p2))), .unset, .unset, .unset]) rfl ?_
    show Steps p.tables e below (T7.setTop (mkF m 25 #[.val (.int p1), .val (.int p2), .val (.int p3), .val (.ref (own_k aN aI aF aB aA p1)), .val (.ref (own_k aN aI aF aB aA p2)), .val (.ref (own_k aN aI aF aB aA p3)), .val (.ref (own_orV aN aA (own_k aN aI aF aB aA p1) (own_k aN aI aF aB aA p2))), .unset, .unset, .unset] [])) _
    refine XS.aload X7.here hx rfl (hb hby at_25) rfl rfl ?_
    show Steps p.tables e below (T7.setTop (mkF m 27 #[.val (.int p1), .val (.int p2), .val (.int p3), .val (.ref (own_k aN aI aF aB aA p1)), .val (.ref (own_k aN aI aF aB aA p2)), .val (.ref (own_k aN aI aF aB aA p3)), .val (.ref (own_orV aN aA (own_k aN aI aF aB aA p1) (own_k aN aI aF aB aA p2))), .unset, .unset, .unset] [(.ref (own_k aN aI aF aB aA p2))])) _
    refine XS.aloadN X7.here hx rfl (hb hby at_27) rfl rfl ?_
    show Steps p.tables e below (T7.setTop (mkF m 28 #[.val (.int p1), .val (.int p2), .val (.int p3), .val (.ref (own_k aN aI aF aB aA p1)), .val (.ref (own_k aN aI aF aB aA p2)), .val (.ref (own_k aN aI aF aB aA p3)), .val (.ref (own_orV aN aA (own_k aN aI aF aB aA p1) (own_k aN aI aF aB aA p2))), .unset, .unset, .unset] [(.ref (own_k aN aI aF aB aA p1)), (.ref (own_k aN aI aF aB aA p2))])) _
    refine st8.trans ?_
    show Steps p.tables e below (T8.setTop (mkF m 31 #[.val (.int p1), .val (.int p2), .val (.int p3), .val (.ref (own_k aN aI aF aB aA p1)), .val (.ref (own_k aN aI aF aB aA p2)), .val (.ref (own_k aN aI aF aB aA p3)), .val (.ref (own_orV aN aA (own_k aN aI aF aB aA p1) (own_k aN aI aF aB aA p2))), .unset, .unset, .unset] [(.ref (own_orV aN aA (own_k aN aI aF aB aA p2) (own_k aN aI aF aB aA p1)))])) _
    refine XS.astore X8.here hx rfl (hb hby at_31) rfl rfl (l' := #[.val (.int p1), .val (.int p2), .val (.int p3), .val (.ref (own_k aN aI aF aB aA p1)), .val (.ref (own_k aN aI aF aB aA p2)), .val (.ref (own_k aN aI aF aB aA p3)), .val (.ref (own_orV aN aA (own_k aN aI aF aB aA p1) (own_k aN aI aF aB aA p2))), .val (.ref (own_orV aN aA (own_k aN aI aF aB aA p2) (own_k aN aI aF aB aA p1))), .unset, .unset]) rfl ?_
    show Steps p.tables e below (T8.setTop (mkF m 33 #[.val (.int p1), .val (.int p2), .val (.int p3), .val (.ref (own_k aN aI aF aB aA p1)), .val (.ref (own_k aN aI aF aB aA p2)), .val (.ref (own_k aN aI aF aB aA p3)), .val (.ref (own_orV aN aA (own_k aN aI aF aB aA p1) (own_k aN aI aF aB aA p2))), .val (.ref (own_orV aN aA (own_k aN aI aF aB aA p2) (own_k aN aI aF aB aA p1))), .unset, .unset] [])) _
    refine XS.aload X8.here hx rfl (hb hby at_33) rfl rfl ?_
    show Steps p.tables e below (T8.setTop (mkF m 35 #[.val (.int p1), .val (.int p2), .val (.int p3), .val (.ref (own_k aN aI aF aB aA p1)), .val (.ref (own_k aN aI aF aB aA p2)), .val (.ref (own_k aN aI aF aB aA p3)), .val (.ref (own_orV aN aA (own_k aN aI aF aB aA p1) (own_k aN aI aF aB aA p2))), .val (.ref (own_orV aN aA (own_k aN aI aF aB aA p2) (own_k aN aI aF aB aA p1))), .unset, .unset] [(.ref (own_orV aN aA (own_k aN aI aF aB aA p1) (own_k aN aI aF aB aA p2)))])) _
    refine XS.ifnullNo X8.here hx rfl (hb hby at_35) rfl ?_
    show Steps p.tables e below (T8.setTop (mkF m 38 #[.val (.int p1), .val (.int p2), .val (.int p3), .val (.ref (own_k aN aI aF aB aA p1)), .val (.ref (own_k aN aI aF aB aA p2)), .val (.ref (own_k aN aI aF aB aA p3)), .val (.ref (own_orV aN aA (own_k aN aI aF aB aA p1) (own_k aN aI aF aB aA p2))), .val (.ref (own_orV aN aA (own_k aN aI aF aB aA p2) (own_k aN aI aF aB aA p1))), .unset, .unset] [])) _
    refine XS.aload X8.here hx rfl (hb hby at_38) rfl rfl ?_
    show Steps p.tables e below (T8.setTop (mkF m 40 #[.val (.int p1), .val (.int p2), .val (.int p3), .val (.ref (own_k aN aI aF aB aA p1)), .val (.ref (own_k aN aI aF aB aA p2)), .val (.ref (own_k aN aI aF aB aA p3)), .val (.ref (own_orV aN aA (own_k aN aI aF aB aA p1) (own_k aN aI aF aB aA p2))), .val (.ref (own_orV aN aA (own_k aN aI aF aB aA p2) (own_k aN aI aF aB aA p1))), .unset, .unset] [(.ref (own_orV aN aA (own_k aN aI aF aB aA p1) (own_k aN aI aF aB aA p2)))])) _
    refine XS.aload X8.here hx rfl (hb hby at_40) rfl rfl ?_
    show Steps p.tables e below (T8.setTop (mkF m 42 #[.val (.int p1), .val (.int p2), .val (.int p3), .val (.ref (own_k aN aI aF aB aA p1)), .val (.ref (own_k aN aI aF aB aA p2)), .val (.ref (own_k aN aI aF aB aA p3)), .val (.ref (own_orV aN aA (own_k aN aI aF aB aA p1) (own_k aN aI aF aB aA p2))), .val (.ref (own_orV aN aA (own_k aN aI aF aB aA p2) (own_k aN aI aF aB aA p1))), .unset, .unset] [(.ref (own_orV aN aA (own_k aN aI aF aB aA p2) (own_k aN aI aF aB aA p1))), (.ref (own_orV aN aA (own_k aN aI aF aB aA p1) (own_k aN aI aF aB aA p2)))])) _
    refine Jvm.RoadKit.acmp (g := (mkF m 42 #[.val (.int p1), .val (.int p2), .val (.int p3), .val (.ref (own_k aN aI aF aB aA p1)), .val (.ref (own_k aN aI aF aB aA p2)), .val (.ref (own_k aN aI aF aB aA p3)), .val (.ref (own_orV aN aA (own_k aN aI aF aB aA p1) (own_k aN aI aF aB aA p2))), .val (.ref (own_orV aN aA (own_k aN aI aF aB aA p2) (own_k aN aI aF aB aA p1))), .unset, .unset] [(.ref (own_orV aN aA (own_k aN aI aF aB aA p2) (own_k aN aI aF aB aA p1))), (.ref (own_orV aN aA (own_k aN aI aF aB aA p1) (own_k aN aI aF aB aA p2)))])) X8 hx rfl rfl rfl (pc0 := 42) (pc' := 47) (same := true) rfl (hb hby at_42) rfl (decide_eq_true (congrArg Value.ref (own_l1 aN aA (own_k aN aI aF aB aA p1) (own_k aN aI aF aB aA p2)))) (by decide) (by decide) ?_
    show Steps p.tables e below (T8.setTop (mkF m 47 #[.val (.int p1), .val (.int p2), .val (.int p3), .val (.ref (own_k aN aI aF aB aA p1)), .val (.ref (own_k aN aI aF aB aA p2)), .val (.ref (own_k aN aI aF aB aA p3)), .val (.ref (own_orV aN aA (own_k aN aI aF aB aA p1) (own_k aN aI aF aB aA p2))), .val (.ref (own_orV aN aA (own_k aN aI aF aB aA p2) (own_k aN aI aF aB aA p1))), .unset, .unset] [])) _
    refine XS.aloadN X8.here hx rfl (hb hby at_47) rfl rfl ?_
    show Steps p.tables e below (T8.setTop (mkF m 48 #[.val (.int p1), .val (.int p2), .val (.int p3), .val (.ref (own_k aN aI aF aB aA p1)), .val (.ref (own_k aN aI aF aB aA p2)), .val (.ref (own_k aN aI aF aB aA p3)), .val (.ref (own_orV aN aA (own_k aN aI aF aB aA p1) (own_k aN aI aF aB aA p2))), .val (.ref (own_orV aN aA (own_k aN aI aF aB aA p2) (own_k aN aI aF aB aA p1))), .unset, .unset] [(.ref (own_k aN aI aF aB aA p1))])) _
    refine XS.aload X8.here hx rfl (hb hby at_48) rfl rfl ?_
    show Steps p.tables e below (T8.setTop (mkF m 50 #[.val (.int p1), .val (.int p2), .val (.int p3), .val (.ref (own_k aN aI aF aB aA p1)), .val (.ref (own_k aN aI aF aB aA p2)), .val (.ref (own_k aN aI aF aB aA p3)), .val (.ref (own_orV aN aA (own_k aN aI aF aB aA p1) (own_k aN aI aF aB aA p2))), .val (.ref (own_orV aN aA (own_k aN aI aF aB aA p2) (own_k aN aI aF aB aA p1))), .unset, .unset] [(.ref (own_orV aN aA (own_k aN aI aF aB aA p1) (own_k aN aI aF aB aA p2))), (.ref (own_k aN aI aF aB aA p1))])) _
    refine st9 _ ?_
    show Steps p.tables e below (T9.setTop (mkF m 53 #[.val (.int p1), .val (.int p2), .val (.int p3), .val (.ref (own_k aN aI aF aB aA p1)), .val (.ref (own_k aN aI aF aB aA p2)), .val (.ref (own_k aN aI aF aB aA p3)), .val (.ref (own_orV aN aA (own_k aN aI aF aB aA p1) (own_k aN aI aF aB aA p2))), .val (.ref (own_orV aN aA (own_k aN aI aF aB aA p2) (own_k aN aI aF aB aA p1))), .unset, .unset] [(.int (own_leq aN aA (own_k aN aI aF aB aA p1) (own_orV aN aA (own_k aN aI aF aB aA p1) (own_k aN aI aF aB aA p2))))])) _
    refine XS.ifNo X9.here hx rfl (hb hby at_53) rfl ((if0 _ _).trans (feq (own_l2 aN aA (own_k aN aI aF aB aA p1) (own_k aN aI aF aB aA p2) : ¬ ((own_leq aN aA (own_k aN aI aF aB aA p1) (own_orV aN aA (own_k aN aI aF aB aA p1) (own_k aN aI aF aB aA p2))) = (0 : Int32)))).1) ?_
    show Steps p.tables e below (T9.setTop (mkF m 56 #[.val (.int p1), .val (.int p2), .val (.int p3), .val (.ref (own_k aN aI aF aB aA p1)), .val (.ref (own_k aN aI aF aB aA p2)), .val (.ref (own_k aN aI aF aB aA p3)), .val (.ref (own_orV aN aA (own_k aN aI aF aB aA p1) (own_k aN aI aF aB aA p2))), .val (.ref (own_orV aN aA (own_k aN aI aF aB aA p2) (own_k aN aI aF aB aA p1))), .unset, .unset] [])) _
    refine XS.aload X9.here hx rfl (hb hby at_56) rfl rfl ?_
    show Steps p.tables e below (T9.setTop (mkF m 58 #[.val (.int p1), .val (.int p2), .val (.int p3), .val (.ref (own_k aN aI aF aB aA p1)), .val (.ref (own_k aN aI aF aB aA p2)), .val (.ref (own_k aN aI aF aB aA p3)), .val (.ref (own_orV aN aA (own_k aN aI aF aB aA p1) (own_k aN aI aF aB aA p2))), .val (.ref (own_orV aN aA (own_k aN aI aF aB aA p2) (own_k aN aI aF aB aA p1))), .unset, .unset] [(.ref (own_k aN aI aF aB aA p2))])) _
    refine XS.aload X9.here hx rfl (hb hby at_58) rfl rfl ?_
    show Steps p.tables e below (T9.setTop (mkF m 60 #[.val (.int p1), .val (.int p2), .val (.int p3), .val (.ref (own_k aN aI aF aB aA p1)), .val (.ref (own_k aN aI aF aB aA p2)), .val (.ref (own_k aN aI aF aB aA p3)), .val (.ref (own_orV aN aA (own_k aN aI aF aB aA p1) (own_k aN aI aF aB aA p2))), .val (.ref (own_orV aN aA (own_k aN aI aF aB aA p2) (own_k aN aI aF aB aA p1))), .unset, .unset] [(.ref (own_orV aN aA (own_k aN aI aF aB aA p1) (own_k aN aI aF aB aA p2))), (.ref (own_k aN aI aF aB aA p2))])) _
    refine st10 _ ?_
    show Steps p.tables e below (T10.setTop (mkF m 63 #[.val (.int p1), .val (.int p2), .val (.int p3), .val (.ref (own_k aN aI aF aB aA p1)), .val (.ref (own_k aN aI aF aB aA p2)), .val (.ref (own_k aN aI aF aB aA p3)), .val (.ref (own_orV aN aA (own_k aN aI aF aB aA p1) (own_k aN aI aF aB aA p2))), .val (.ref (own_orV aN aA (own_k aN aI aF aB aA p2) (own_k aN aI aF aB aA p1))), .unset, .unset] [(.int (own_leq aN aA (own_k aN aI aF aB aA p2) (own_orV aN aA (own_k aN aI aF aB aA p1) (own_k aN aI aF aB aA p2))))])) _
    refine XS.ifNo X10.here hx rfl (hb hby at_63) rfl ((if0 _ _).trans (feq (own_l3 aN aA (own_k aN aI aF aB aA p1) (own_k aN aI aF aB aA p2) : ¬ ((own_leq aN aA (own_k aN aI aF aB aA p2) (own_orV aN aA (own_k aN aI aF aB aA p1) (own_k aN aI aF aB aA p2))) = (0 : Int32)))).1) ?_
    show Steps p.tables e below (T10.setTop (mkF m 66 #[.val (.int p1), .val (.int p2), .val (.int p3), .val (.ref (own_k aN aI aF aB aA p1)), .val (.ref (own_k aN aI aF aB aA p2)), .val (.ref (own_k aN aI aF aB aA p3)), .val (.ref (own_orV aN aA (own_k aN aI aF aB aA p1) (own_k aN aI aF aB aA p2))), .val (.ref (own_orV aN aA (own_k aN aI aF aB aA p2) (own_k aN aI aF aB aA p1))), .unset, .unset] [])) _
    refine XS.iconst X10.here hx rfl (hb hby at_66) ?_
    show Steps p.tables e below (T10.setTop (mkF m 67 #[.val (.int p1), .val (.int p2), .val (.int p3), .val (.ref (own_k aN aI aF aB aA p1)), .val (.ref (own_k aN aI aF aB aA p2)), .val (.ref (own_k aN aI aF aB aA p3)), .val (.ref (own_orV aN aA (own_k aN aI aF aB aA p1) (own_k aN aI aF aB aA p2))), .val (.ref (own_orV aN aA (own_k aN aI aF aB aA p2) (own_k aN aI aF aB aA p1))), .unset, .unset] [(.int (1 : Int32))])) _
    refine XS.goto X10.here hx rfl (pc0 := 67) (pc' := 71) rfl (hb hby at_67) (by decide) (by decide) ?_
    show Steps p.tables e below (T10.setTop (mkF m 71 #[.val (.int p1), .val (.int p2), .val (.int p3), .val (.ref (own_k aN aI aF aB aA p1)), .val (.ref (own_k aN aI aF aB aA p2)), .val (.ref (own_k aN aI aF aB aA p3)), .val (.ref (own_orV aN aA (own_k aN aI aF aB aA p1) (own_k aN aI aF aB aA p2))), .val (.ref (own_orV aN aA (own_k aN aI aF aB aA p2) (own_k aN aI aF aB aA p1))), .unset, .unset] [(.int (1 : Int32))])) _
    refine XS.istore X10.here hx rfl (hb hby at_71) rfl (l' := #[.val (.int p1), .val (.int p2), .val (.int p3), .val (.ref (own_k aN aI aF aB aA p1)), .val (.ref (own_k aN aI aF aB aA p2)), .val (.ref (own_k aN aI aF aB aA p3)), .val (.ref (own_orV aN aA (own_k aN aI aF aB aA p1) (own_k aN aI aF aB aA p2))), .val (.ref (own_orV aN aA (own_k aN aI aF aB aA p2) (own_k aN aI aF aB aA p1))), .val (.int (1 : Int32)), .unset]) rfl ?_
    show Steps p.tables e below (T10.setTop (mkF m 73 #[.val (.int p1), .val (.int p2), .val (.int p3), .val (.ref (own_k aN aI aF aB aA p1)), .val (.ref (own_k aN aI aF aB aA p2)), .val (.ref (own_k aN aI aF aB aA p3)), .val (.ref (own_orV aN aA (own_k aN aI aF aB aA p1) (own_k aN aI aF aB aA p2))), .val (.ref (own_orV aN aA (own_k aN aI aF aB aA p2) (own_k aN aI aF aB aA p1))), .val (.int (1 : Int32)), .unset] [])) _
    refine XS.aloadN X10.here hx rfl (hb hby at_73) rfl rfl ?_
    show Steps p.tables e below (T10.setTop (mkF m 74 #[.val (.int p1), .val (.int p2), .val (.int p3), .val (.ref (own_k aN aI aF aB aA p1)), .val (.ref (own_k aN aI aF aB aA p2)), .val (.ref (own_k aN aI aF aB aA p3)), .val (.ref (own_orV aN aA (own_k aN aI aF aB aA p1) (own_k aN aI aF aB aA p2))), .val (.ref (own_orV aN aA (own_k aN aI aF aB aA p2) (own_k aN aI aF aB aA p1))), .val (.int (1 : Int32)), .unset] [(.ref (own_k aN aI aF aB aA p1))])) _
    refine XS.aload X10.here hx rfl (hb hby at_74) rfl rfl ?_
    show Steps p.tables e below (T10.setTop (mkF m 76 #[.val (.int p1), .val (.int p2), .val (.int p3), .val (.ref (own_k aN aI aF aB aA p1)), .val (.ref (own_k aN aI aF aB aA p2)), .val (.ref (own_k aN aI aF aB aA p3)), .val (.ref (own_orV aN aA (own_k aN aI aF aB aA p1) (own_k aN aI aF aB aA p2))), .val (.ref (own_orV aN aA (own_k aN aI aF aB aA p2) (own_k aN aI aF aB aA p1))), .val (.int (1 : Int32)), .unset] [(.ref (own_k aN aI aF aB aA p3)), (.ref (own_k aN aI aF aB aA p1))])) _
    refine st11 _ ?_
    show Steps p.tables e below (T11.setTop (mkF m 79 #[.val (.int p1), .val (.int p2), .val (.int p3), .val (.ref (own_k aN aI aF aB aA p1)), .val (.ref (own_k aN aI aF aB aA p2)), .val (.ref (own_k aN aI aF aB aA p3)), .val (.ref (own_orV aN aA (own_k aN aI aF aB aA p1) (own_k aN aI aF aB aA p2))), .val (.ref (own_orV aN aA (own_k aN aI aF aB aA p2) (own_k aN aI aF aB aA p1))), .val (.int (1 : Int32)), .unset] [(.int (own_leq aN aA (own_k aN aI aF aB aA p1) (own_k aN aI aF aB aA p3)))])) _
    refine XS.ifYes X11.here hx rfl (pc0 := 79) (pc' := 102) rfl (hb hby at_79) rfl ((if0 _ _).trans (teq (hA : (own_leq aN aA (own_k aN aI aF aB aA p1) (own_k aN aI aF aB aA p3)) = (0 : Int32))).1) (by decide) (by decide) ?_
    show Steps p.tables e below (T11.setTop (mkF m 102 #[.val (.int p1), .val (.int p2), .val (.int p3), .val (.ref (own_k aN aI aF aB aA p1)), .val (.ref (own_k aN aI aF aB aA p2)), .val (.ref (own_k aN aI aF aB aA p3)), .val (.ref (own_orV aN aA (own_k aN aI aF aB aA p1) (own_k aN aI aF aB aA p2))), .val (.ref (own_orV aN aA (own_k aN aI aF aB aA p2) (own_k aN aI aF aB aA p1))), .val (.int (1 : Int32)), .unset] [])) _
    refine XS.iconst X11.here hx rfl (hb hby at_102) ?_
    show Steps p.tables e below (T11.setTop (mkF m 103 #[.val (.int p1), .val (.int p2), .val (.int p3), .val (.ref (own_k aN aI aF aB aA p1)), .val (.ref (own_k aN aI aF aB aA p2)), .val (.ref (own_k aN aI aF aB aA p3)), .val (.ref (own_orV aN aA (own_k aN aI aF aB aA p1) (own_k aN aI aF aB aA p2))), .val (.ref (own_orV aN aA (own_k aN aI aF aB aA p2) (own_k aN aI aF aB aA p1))), .val (.int (1 : Int32)), .unset] [(.int (1 : Int32))])) _
    refine XS.goto X11.here hx rfl (pc0 := 103) (pc' := 107) rfl (hb hby at_103) (by decide) (by decide) ?_
    show Steps p.tables e below (T11.setTop (mkF m 107 #[.val (.int p1), .val (.int p2), .val (.int p3), .val (.ref (own_k aN aI aF aB aA p1)), .val (.ref (own_k aN aI aF aB aA p2)), .val (.ref (own_k aN aI aF aB aA p3)), .val (.ref (own_orV aN aA (own_k aN aI aF aB aA p1) (own_k aN aI aF aB aA p2))), .val (.ref (own_orV aN aA (own_k aN aI aF aB aA p2) (own_k aN aI aF aB aA p1))), .val (.int (1 : Int32)), .unset] [(.int (1 : Int32))])) _
    refine XS.istore X11.here hx rfl (hb hby at_107) rfl (l' := #[.val (.int p1), .val (.int p2), .val (.int p3), .val (.ref (own_k aN aI aF aB aA p1)), .val (.ref (own_k aN aI aF aB aA p2)), .val (.ref (own_k aN aI aF aB aA p3)), .val (.ref (own_orV aN aA (own_k aN aI aF aB aA p1) (own_k aN aI aF aB aA p2))), .val (.ref (own_orV aN aA (own_k aN aI aF aB aA p2) (own_k aN aI aF aB aA p1))), .val (.int (1 : Int32)), .val (.int (1 : Int32))]) rfl ?_
    show Steps p.tables e below (T11.setTop (mkF m 109 #[.val (.int p1), .val (.int p2), .val (.int p3), .val (.ref (own_k aN aI aF aB aA p1)), .val (.ref (own_k aN aI aF aB aA p2)), .val (.ref (own_k aN aI aF aB aA p3)), .val (.ref (own_orV aN aA (own_k aN aI aF aB aA p1) (own_k aN aI aF aB aA p2))), .val (.ref (own_orV aN aA (own_k aN aI aF aB aA p2) (own_k aN aI aF aB aA p1))), .val (.int (1 : Int32)), .val (.int (1 : Int32))] [])) _
    refine XS.iload X11.here hx rfl (hb hby at_109) rfl ?_
    show Steps p.tables e below (T11.setTop (mkF m 111 #[.val (.int p1), .val (.int p2), .val (.int p3), .val (.ref (own_k aN aI aF aB aA p1)), .val (.ref (own_k aN aI aF aB aA p2)), .val (.ref (own_k aN aI aF aB aA p3)), .val (.ref (own_orV aN aA (own_k aN aI aF aB aA p1) (own_k aN aI aF aB aA p2))), .val (.ref (own_orV aN aA (own_k aN aI aF aB aA p2) (own_k aN aI aF aB aA p1))), .val (.int (1 : Int32)), .val (.int (1 : Int32))] [(.int (1 : Int32))])) _
    refine XS.ifNo X11.here hx rfl (hb hby at_111) rfl ((if0 _ _).trans (feq (by decide)).1) ?_
    show Steps p.tables e below (T11.setTop (mkF m 114 #[.val (.int p1), .val (.int p2), .val (.int p3), .val (.ref (own_k aN aI aF aB aA p1)), .val (.ref (own_k aN aI aF aB aA p2)), .val (.ref (own_k aN aI aF aB aA p3)), .val (.ref (own_orV aN aA (own_k aN aI aF aB aA p1) (own_k aN aI aF aB aA p2))), .val (.ref (own_orV aN aA (own_k aN aI aF aB aA p2) (own_k aN aI aF aB aA p1))), .val (.int (1 : Int32)), .val (.int (1 : Int32))] [])) _
    refine XS.iload X11.here hx rfl (hb hby at_114) rfl ?_
    show Steps p.tables e below (T11.setTop (mkF m 116 #[.val (.int p1), .val (.int p2), .val (.int p3), .val (.ref (own_k aN aI aF aB aA p1)), .val (.ref (own_k aN aI aF aB aA p2)), .val (.ref (own_k aN aI aF aB aA p3)), .val (.ref (own_orV aN aA (own_k aN aI aF aB aA p1) (own_k aN aI aF aB aA p2))), .val (.ref (own_orV aN aA (own_k aN aI aF aB aA p2) (own_k aN aI aF aB aA p1))), .val (.int (1 : Int32)), .val (.int (1 : Int32))] [(.int (1 : Int32))])) _
    refine XS.ifNo X11.here hx rfl (hb hby at_116) rfl ((if0 _ _).trans (feq (by decide)).1) ?_
    show Steps p.tables e below (T11.setTop (mkF m 119 #[.val (.int p1), .val (.int p2), .val (.int p3), .val (.ref (own_k aN aI aF aB aA p1)), .val (.ref (own_k aN aI aF aB aA p2)), .val (.ref (own_k aN aI aF aB aA p3)), .val (.ref (own_orV aN aA (own_k aN aI aF aB aA p1) (own_k aN aI aF aB aA p2))), .val (.ref (own_orV aN aA (own_k aN aI aF aB aA p2) (own_k aN aI aF aB aA p1))), .val (.int (1 : Int32)), .val (.int (1 : Int32))] [])) _
    refine XS.iconst X11.here hx rfl (hb hby at_119) ?_
    show Steps p.tables e below (T11.setTop (mkF m 120 #[.val (.int p1), .val (.int p2), .val (.int p3), .val (.ref (own_k aN aI aF aB aA p1)), .val (.ref (own_k aN aI aF aB aA p2)), .val (.ref (own_k aN aI aF aB aA p3)), .val (.ref (own_orV aN aA (own_k aN aI aF aB aA p1) (own_k aN aI aF aB aA p2))), .val (.ref (own_orV aN aA (own_k aN aI aF aB aA p2) (own_k aN aI aF aB aA p1))), .val (.int (1 : Int32)), .val (.int (1 : Int32))] [(.int (1 : Int32))])) _
    refine XS.goto X11.here hx rfl (pc0 := 120) (pc' := 124) rfl (hb hby at_120) (by decide) (by decide) ?_
    show Steps p.tables e below (T11.setTop (mkF m 124 #[.val (.int p1), .val (.int p2), .val (.int p3), .val (.ref (own_k aN aI aF aB aA p1)), .val (.ref (own_k aN aI aF aB aA p2)), .val (.ref (own_k aN aI aF aB aA p3)), .val (.ref (own_orV aN aA (own_k aN aI aF aB aA p1) (own_k aN aI aF aB aA p2))), .val (.ref (own_orV aN aA (own_k aN aI aF aB aA p2) (own_k aN aI aF aB aA p1))), .val (.int (1 : Int32)), .val (.int (1 : Int32))] [(.int (1 : Int32))])) _
    exact retN X11 hx (t := .boolean) Bd.returns (by simp) (hb hby at_124) hr
  · show Q0_i Z p1 p2 p3 aN aI aF aB aA h0 n0 _ T11.heap _
    exact ⟨rfl, N11⟩
theorem pd_0_ii_0 : parseMethodDescriptor "(I)Lorg/graftloom/lua/LocalTypes$Kind;" = some ⟨[.int], some (.object "org/graftloom/lua/LocalTypes$Kind")⟩ := by decide +kernel
theorem pd_0_ii_1 : parseMethodDescriptor "(Lorg/graftloom/lua/LocalTypes$Kind;)Lorg/graftloom/lua/LocalTypes$Kind;" = some ⟨[(.object "org/graftloom/lua/LocalTypes$Kind")], some (.object "org/graftloom/lua/LocalTypes$Kind")⟩ := by decide +kernel
theorem pd_0_ii_2 : parseMethodDescriptor "(Lorg/graftloom/lua/LocalTypes$Kind;Lorg/graftloom/lua/LocalTypes$Kind;)Z" = some ⟨[(.object "org/graftloom/lua/LocalTypes$Kind"), (.object "org/graftloom/lua/LocalTypes$Kind")], some .boolean⟩ := by decide +kernel
def Q0_ii (Z : State) (p1 : Int32) (p2 : Int32) (p3 : Int32) (aN aI aF aB aA : Addr) (h0 : Heap) (n0 : Nat) (v : Option Value) (h : Heap) (L : List Loc) : Prop := v = some (.int (1 : Int32)) ∧ Fr n0 L
set_option maxRecDepth 65536 in
set_option maxHeartbeats 40000000 in
theorem rm0_ii (l : Launch) (Z : State) (a0 : Array Value) (hw : ∀ d ∈ tables_1, d.before a0 Z = true) (ws : List Jvm.Cond) (p1 : Int32) (p2 : Int32) (p3 : Int32) (aN aI aF aB aA : Addr) (h0 : Heap) (n0 : Nat) (Z0 : n0 ≤ h0.size) (B : own_K Z h0 aN aI aF aB aA) (hA : ¬ own_leq aN aA (own_k aN aI aF aB aA p1) (own_k aN aI aF aB aA p3) = 0) (hB : own_leq aN aA (own_k aN aI aF aB aA p2) (own_k aN aI aF aB aA p3) = 0) :
    MetFree l x (head1 (Jvm.Cond.code x code maxLocals ret :: ws) room_1) (fun a U => a = #[(.int p1), (.int p2), (.int p3)] ∧ Z.Warmed39 U.vm ∧ U.heap = h0) (fun _ _ _ _ _ => True) (fun _ U o U' => ∃ v L, o = .returned v ∧ Q0_ii Z p1 p2 p3 aN aI aF aB aA h0 n0 v U'.heap L ∧ FrameEnd U o U' L room_1.cells room_1.slots) := by
  refine MetFree.of_bodySF (plainFor_of_name pn_0) hisR ?_
  intro p e s m args below meth c s₁ Bd hml0 hP hK
  obtain ⟨rfl, hZ, hh⟩ := hP
  have hx := Bd.exec
  have hby := Bd.bytes
  have hml : c.maxLocals = 10 := hml0
  have hown : s.vm.findClass "org/graftloom/lua/KindOrPinLaw" = some m.cls := findClass_of_methodNamed Bd.named
  have hnm := (name_of_methodNamed Bd.named Bd.method).1
  have X0 : Stand p l e room_1 s m #[(.int p1), (.int p2), (.int p3)] below meth c s₁ [] 0 0 := Stand.of_body Bd
  have e0 : s₁.heap = h0 := by rw [← hh, Bd.state]; rfl
  have N0 := Fr.nil n0
  have pre0 : ∀ t, Steps p.tables e below (s₁.setTop (mkF m 0 #[.val (.int p1), .val (.int p2), .val (.int p3), .unset, .unset, .unset, .unset, .unset, .unset, .unset] [])) t → Steps p.tables e below (s₁.setTop (entryFrame m #[(.int p1), (.int p2), (.int p3)] maxLocals)) t := fun t k => castTop (ef_0 m p1 p2 p3) k
  obtain ⟨_, _, ⟨T4, L4, k4, n4⟩, -, X4, ⟨Lc4, hQ4, l4, y4, z4⟩, st4⟩ := Jvm.LawKit.callS X0 hx (y := (⟨"org/graftloom/lua/KindOrPinLaw", "pick", "(I)Lorg/graftloom/lua/LocalTypes$Kind;"⟩ : MethodName)) hown (mvT hZ (hw _ (List.mem_of_getElem? (i := 0) rfl))) (mvT hZ (hw _ (List.mem_of_getElem? (i := 1) rfl))) (mvT hZ (hw _ (List.mem_of_getElem? (i := 2) rfl))) (mvT hZ (hw _ (List.mem_of_getElem? (i := 3) rfl))) (by decide) (backOf (W := 0) (rm1 l Z a0 hw [] p1 aN aI aF aB aA h0 n0 Z0 B) hZ (hw _ (List.mem_of_getElem? (i := 3) rfl)) (hw _ (List.mem_of_getElem? (i := 2) rfl)) (by decide) (by decide)) (g := (mkF m 1 #[.val (.int p1), .val (.int p2), .val (.int p3), .unset, .unset, .unset, .unset, .unset, .unset, .unset] [(.int p1)])) rfl (by rw [hml]; rfl) (argsL := [(.int p1)]) (rest := []) (lenOf pd_0_ii_0 rfl) rfl (by show 2 * 0 + _ ≤ _; exact Nat.le_of_eq rfl) (hb hby at_1) (fun _ _ => ⟨rfl, e0, (by decide : 0 + 1 ≤ _), (by decide : 0 + 5 ≤ _)⟩)
  dsimp only [Pt.U, Pt.locs, Pt.cells, Pt.slots] at X4 l4 y4 z4 st4 hQ4
  subst l4 y4 z4
  obtain ⟨rfl, N4q, K4q⟩ := hQ4
  have N4 := Fr.app N0 N4q
  obtain ⟨_, _, ⟨T5, L5, k5, n5⟩, -, X5, ⟨Lc5, hQ5, l5, y5, z5⟩, st5⟩ := Jvm.LawKit.callS X4 hx (y := (⟨"org/graftloom/lua/KindOrPinLaw", "pick", "(I)Lorg/graftloom/lua/LocalTypes$Kind;"⟩ : MethodName)) hown (mvT hZ (hw _ (List.mem_of_getElem? (i := 0) rfl))) (mvT hZ (hw _ (List.mem_of_getElem? (i := 1) rfl))) (mvT hZ (hw _ (List.mem_of_getElem? (i := 2) rfl))) (mvT hZ (hw _ (List.mem_of_getElem? (i := 3) rfl))) (by decide) (backOf (W := 0) (rm1 l Z a0 hw [] p2 aN aI aF aB aA T4.heap n0 (Nat.le_trans Z0 K4q.1) (own_Kk B K4q)) hZ (hw _ (List.mem_of_getElem? (i := 3) rfl)) (hw _ (List.mem_of_getElem? (i := 2) rfl)) (by decide) (by decide)) (g := (mkF m 6 #[.val (.int p1), .val (.int p2), .val (.int p3), .val (.ref (own_k aN aI aF aB aA p1)), .unset, .unset, .unset, .unset, .unset, .unset] [(.int p2)])) rfl (by rw [hml]; rfl) (argsL := [(.int p2)]) (rest := []) (lenOf pd_0_ii_0 rfl) rfl (by show 2 * 0 + _ ≤ _; exact Nat.le_of_eq rfl) (hb hby at_6) (fun _ _ => ⟨rfl, rfl, (by decide : 0 + 2 ≤ _), (by decide : 0 + 10 ≤ _)⟩)
  dsimp only [Pt.U, Pt.locs, Pt.cells, Pt.slots] at X5 l5 y5 z5 st5 hQ5
  subst l5 y5 z5
  obtain ⟨rfl, N5q, K5q⟩ := hQ5
  have N5 := Fr.app N4 N5q
  obtain ⟨_, _, ⟨T6, L6, k6, n6⟩, -, X6, ⟨Lc6, hQ6, l6, y6, z6⟩, st6⟩ := Jvm.LawKit.callS X5 hx (y := (⟨"org/graftloom/lua/KindOrPinLaw", "pick", "(I)Lorg/graftloom/lua/LocalTypes$Kind;"⟩ : MethodName)) hown (mvT hZ (hw _ (List.mem_of_getElem? (i := 0) rfl))) (mvT hZ (hw _ (List.mem_of_getElem? (i := 1) rfl))) (mvT hZ (hw _ (List.mem_of_getElem? (i := 2) rfl))) (mvT hZ (hw _ (List.mem_of_getElem? (i := 3) rfl))) (by decide) (backOf (W := 0) (rm1 l Z a0 hw [] p3 aN aI aF aB aA T5.heap n0 (Nat.le_trans (Nat.le_trans Z0 K4q.1) K5q.1) (own_Kk (own_Kk B K4q) K5q)) hZ (hw _ (List.mem_of_getElem? (i := 3) rfl)) (hw _ (List.mem_of_getElem? (i := 2) rfl)) (by decide) (by decide)) (g := (mkF m 12 #[.val (.int p1), .val (.int p2), .val (.int p3), .val (.ref (own_k aN aI aF aB aA p1)), .val (.ref (own_k aN aI aF aB aA p2)), .unset, .unset, .unset, .unset, .unset] [(.int p3)])) rfl (by rw [hml]; rfl) (argsL := [(.int p3)]) (rest := []) (lenOf pd_0_ii_0 rfl) rfl (by show 2 * 0 + _ ≤ _; exact Nat.le_of_eq rfl) (hb hby at_12) (fun _ _ => ⟨rfl, rfl, (by decide : 0 + 3 ≤ _), (by decide : 0 + 15 ≤ _)⟩)
  dsimp only [Pt.U, Pt.locs, Pt.cells, Pt.slots] at X6 l6 y6 z6 st6 hQ6
  subst l6 y6 z6
  obtain ⟨rfl, N6q, K6q⟩ := hQ6
  have N6 := Fr.app N5 N6q
  obtain ⟨cq7, kq7, q7a, q7b, q7c⟩ := isOf hZ rfl (own_kE (own_Kk (own_Kk (own_Kk B K4q) K5q) K6q) p1)
  obtain ⟨_, _, ⟨T7, L7, k7, n7⟩, -, X7, ⟨Lc7, hQ7, l7, y7, z7⟩, st7⟩ := X6.virtualBack hx (y := (⟨"org/graftloom/lua/LocalTypes$Kind", "or", "(Lorg/graftloom/lua/LocalTypes$Kind;)Lorg/graftloom/lua/LocalTypes$Kind;"⟩ : MethodName)) (z := (⟨"org/graftloom/lua/LocalTypes$Kind", "or", "(Lorg/graftloom/lua/LocalTypes$Kind;)Lorg/graftloom/lua/LocalTypes$Kind;"⟩ : MethodName)) hown (mvT hZ (hw _ (List.mem_of_getElem? (i := 19) rfl))) (mvT hZ (hw _ (List.mem_of_getElem? (i := 20) rfl))) (notFace_of_selects (args := #[]) (mvT hZ (hw _ (List.mem_of_getElem? (i := 22) rfl)))) (mvT hZ (hw _ (List.mem_of_getElem? (i := 22) rfl))) (mvT hZ (hw _ (List.mem_of_getElem? (i := 21) rfl))) (by decide) (backOf (W := 0) (rm2 l Z a0 hw [] (own_k aN aI aF aB aA p1) (own_k aN aI aF aB aA p2) aN aI aF aB aA T6.heap n0 (Nat.le_trans (Nat.le_trans (Nat.le_trans Z0 K4q.1) K5q.1) K6q.1) (own_Kk (own_Kk (own_Kk B K4q) K5q) K6q)) hZ (hw _ (List.mem_of_getElem? (i := 23) rfl)) (hw _ (List.mem_of_getElem? (i := 7) rfl)) (by decide) (by decide)) q7a q7c (g := (mkF m 20 #[.val (.int p1), .val (.int p2), .val (.int p3), .val (.ref (own_k aN aI aF aB aA p1)), .val (.ref (own_k aN aI aF aB aA p2)), .val (.ref (own_k aN aI aF aB aA p3)), .unset, .unset, .unset, .unset] [(.ref (own_k aN aI aF aB aA p2)), (.ref (own_k aN aI aF aB aA p1))])) rfl (by rw [hml]; rfl) (Steps.refl _) (argsL := [(.ref (own_k aN aI aF aB aA p2))]) (rest := []) (lenOf pd_0_ii_1 rfl) rfl (by show 2 * 0 + _ ≤ _; exact Nat.le_of_eq rfl) (hb hby at_20) (fun _ _ => ⟨rfl, rfl, (by decide : 0 + 3 ≤ _), (by decide : 0 + 15 ≤ _)⟩)
  dsimp only [Pt.U, Pt.locs, Pt.cells, Pt.slots] at X7 l7 y7 z7 st7 hQ7
  subst l7 y7 z7
  obtain ⟨rfl, N7q, e7q⟩ := hQ7
  have N7 := Fr.app N6 N7q
  obtain ⟨cq8, kq8, q8a, q8b, q8c⟩ := isOf hZ e7q (own_kE (own_Kk (own_Kk (own_Kk B K4q) K5q) K6q) p2)
  obtain ⟨_, _, ⟨T8, L8, k8, n8⟩, -, X8, ⟨Lc8, hQ8, l8, y8, z8⟩, st8⟩ := X7.virtualBack hx (y := (⟨"org/graftloom/lua/LocalTypes$Kind", "or", "(Lorg/graftloom/lua/LocalTypes$Kind;)Lorg/graftloom/lua/LocalTypes$Kind;"⟩ : MethodName)) (z := (⟨"org/graftloom/lua/LocalTypes$Kind", "or", "(Lorg/graftloom/lua/LocalTypes$Kind;)Lorg/graftloom/lua/LocalTypes$Kind;"⟩ : MethodName)) hown (mvT hZ (hw _ (List.mem_of_getElem? (i := 19) rfl))) (mvT hZ (hw _ (List.mem_of_getElem? (i := 20) rfl))) (notFace_of_selects (args := #[]) (mvT hZ (hw _ (List.mem_of_getElem? (i := 22) rfl)))) (mvT hZ (hw _ (List.mem_of_getElem? (i := 22) rfl))) (mvT hZ (hw _ (List.mem_of_getElem? (i := 21) rfl))) (by decide) (backOf (W := 0) (rm2 l Z a0 hw [] (own_k aN aI aF aB aA p2) (own_k aN aI aF aB aA p1) aN aI aF aB aA T6.heap n0 (Nat.le_trans (Nat.le_trans (Nat.le_trans Z0 K4q.1) K5q.1) K6q.1) (own_Kk (own_Kk (own_Kk B K4q) K5q) K6q)) hZ (hw _ (List.mem_of_getElem? (i := 23) rfl)) (hw _ (List.mem_of_getElem? (i := 7) rfl)) (by decide) (by decide)) q8a q8c (g := (mkF m 28 #[.val (.int p1), .val (.int p2), .val (.int p3), .val (.ref (own_k aN aI aF aB aA p1)), .val (.ref (own_k aN aI aF aB aA p2)), .val (.ref (own_k aN aI aF aB aA p3)), .val (.ref (own_orV aN aA (own_k aN aI aF aB aA p1) (own_k aN aI aF aB aA p2))), .unset, .unset, .unset] [(.ref (own_k aN aI aF aB aA p1)), (.ref (own_k aN aI aF aB aA p2))])) rfl (by rw [hml]; rfl) (Steps.refl _) (argsL := [(.ref (own_k aN aI aF aB aA p1))]) (rest := []) (lenOf pd_0_ii_1 rfl) rfl (by show 2 * 0 + _ ≤ _; exact Nat.le_of_eq rfl) (hb hby at_28) (fun _ _ => ⟨rfl, e7q, (by decide : 0 + 3 ≤ _), (by decide : 0 + 15 ≤ _)⟩)
  dsimp only [Pt.U, Pt.locs, Pt.cells, Pt.slots] at X8 l8 y8 z8 st8 hQ8
  subst l8 y8 z8
  obtain ⟨rfl, N8q, e8q⟩ := hQ8
  have N8 := Fr.app N7 N8q
  obtain ⟨_, _, ⟨T9, L9, k9, n9⟩, -, X9, ⟨Lc9, hQ9, l9, y9, z9⟩, st9⟩ := Jvm.LawKit.callS X8 hx (y := (⟨"org/graftloom/lua/KindOrPinLaw", "leq", "(Lorg/graftloom/lua/LocalTypes$Kind;Lorg/graftloom/lua/LocalTypes$Kind;)Z"⟩ : MethodName)) hown (mvT hZ (hw _ (List.mem_of_getElem? (i := 25) rfl))) (mvT hZ (hw _ (List.mem_of_getElem? (i := 26) rfl))) (mvT hZ (hw _ (List.mem_of_getElem? (i := 2) rfl))) (mvT hZ (hw _ (List.mem_of_getElem? (i := 27) rfl))) (by decide) (backOf (W := 0) (rm3 l Z a0 hw [] (own_k aN aI aF aB aA p1) (own_orV aN aA (own_k aN aI aF aB aA p1) (own_k aN aI aF aB aA p2)) aN aI aF aB aA T6.heap n0 (Nat.le_trans (Nat.le_trans (Nat.le_trans Z0 K4q.1) K5q.1) K6q.1) (own_Kk (own_Kk (own_Kk B K4q) K5q) K6q)) hZ (hw _ (List.mem_of_getElem? (i := 27) rfl)) (hw _ (List.mem_of_getElem? (i := 2) rfl)) (by decide) (by decide)) (g := (mkF m 50 #[.val (.int p1), .val (.int p2), .val (.int p3), .val (.ref (own_k aN aI aF aB aA p1)), .val (.ref (own_k aN aI aF aB aA p2)), .val (.ref (own_k aN aI aF aB aA p3)), .val (.ref (own_orV aN aA (own_k aN aI aF aB aA p1) (own_k aN aI aF aB aA p2))), .val (.ref (own_orV aN aA (own_k aN aI aF aB aA p2) (own_k aN aI aF aB aA p1))), .unset, .unset] [(.ref (own_orV aN aA (own_k aN aI aF aB aA p1) (own_k aN aI aF aB aA p2))), (.ref (own_k aN aI aF aB aA p1))])) rfl (by rw [hml]; rfl) (argsL := [(.ref (own_k aN aI aF aB aA p1)), (.ref (own_orV aN aA (own_k aN aI aF aB aA p1) (own_k aN aI aF aB aA p2)))]) (rest := []) (lenOf pd_0_ii_2 rfl) rfl (by show 2 * 0 + _ ≤ _; exact Nat.le_of_eq rfl) (hb hby at_50) (fun _ _ => ⟨rfl, e8q, (by decide : 0 + 3 ≤ _), (by decide : 0 + 15 ≤ _)⟩)
  dsimp only [Pt.U, Pt.locs, Pt.cells, Pt.slots] at X9 l9 y9 z9 st9 hQ9
  subst l9 y9 z9
  obtain ⟨rfl, N9q, e9q⟩ := hQ9
  have N9 := Fr.app N8 N9q
  obtain ⟨_, _, ⟨T10, L10, k10, n10⟩, -, X10, ⟨Lc10, hQ10, l10, y10, z10⟩, st10⟩ := Jvm.LawKit.callS X9 hx (y := (⟨"org/graftloom/lua/KindOrPinLaw", "leq", "(Lorg/graftloom/lua/LocalTypes$Kind;Lorg/graftloom/lua/LocalTypes$Kind;)Z"⟩ : MethodName)) hown (mvT hZ (hw _ (List.mem_of_getElem? (i := 25) rfl))) (mvT hZ (hw _ (List.mem_of_getElem? (i := 26) rfl))) (mvT hZ (hw _ (List.mem_of_getElem? (i := 2) rfl))) (mvT hZ (hw _ (List.mem_of_getElem? (i := 27) rfl))) (by decide) (backOf (W := 0) (rm3 l Z a0 hw [] (own_k aN aI aF aB aA p2) (own_orV aN aA (own_k aN aI aF aB aA p1) (own_k aN aI aF aB aA p2)) aN aI aF aB aA T6.heap n0 (Nat.le_trans (Nat.le_trans (Nat.le_trans Z0 K4q.1) K5q.1) K6q.1) (own_Kk (own_Kk (own_Kk B K4q) K5q) K6q)) hZ (hw _ (List.mem_of_getElem? (i := 27) rfl)) (hw _ (List.mem_of_getElem? (i := 2) rfl)) (by decide) (by decide)) (g := (mkF m 60 #[.val (.int p1), .val (.int p2), .val (.int p3), .val (.ref (own_k aN aI aF aB aA p1)), .val (.ref (own_k aN aI aF aB aA p2)), .val (.ref (own_k aN aI aF aB aA p3)), .val (.ref (own_orV aN aA (own_k aN aI aF aB aA p1) (own_k aN aI aF aB aA p2))), .val (.ref (own_orV aN aA (own_k aN aI aF aB aA p2) (own_k aN aI aF aB aA p1))), .unset, .unset] [(.ref (own_orV aN aA (own_k aN aI aF aB aA p1) (own_k aN aI aF aB aA p2))), (.ref (own_k aN aI aF aB aA p2))])) rfl (by rw [hml]; rfl) (argsL := [(.ref (own_k aN aI aF aB aA p2)), (.ref (own_orV aN aA (own_k aN aI aF aB aA p1) (own_k aN aI aF aB aA p2)))]) (rest := []) (lenOf pd_0_ii_2 rfl) rfl (by show 2 * 0 + _ ≤ _; exact Nat.le_of_eq rfl) (hb hby at_60) (fun _ _ => ⟨rfl, e9q, (by decide : 0 + 3 ≤ _), (by decide : 0 + 15 ≤ _)⟩)
  dsimp only [Pt.U, Pt.locs, Pt.cells, Pt.slots] at X10 l10 y10 z10 st10 hQ10
  subst l10 y10 z10
  obtain ⟨rfl, N10q, e10q⟩ := hQ10
  have N10 := Fr.app N9 N10q
  obtain ⟨_, _, ⟨T11, L11, k11, n11⟩, -, X11, ⟨Lc11, hQ11, l11, y11, z11⟩, st11⟩ := Jvm.LawKit.callS X10 hx (y := (⟨"org/graftloom/lua/KindOrPinLaw", "leq", "(Lorg/graftloom/lua/LocalTypes$Kind;Lorg/graftloom/lua/LocalTypes$Kind;)Z"⟩ : MethodName)) hown (mvT hZ (hw _ (List.mem_of_getElem? (i := 25) rfl))) (mvT hZ (hw _ (List.mem_of_getElem? (i := 26) rfl))) (mvT hZ (hw _ (List.mem_of_getElem? (i := 2) rfl))) (mvT hZ (hw _ (List.mem_of_getElem? (i := 27) rfl))) (by decide) (backOf (W := 0) (rm3 l Z a0 hw [] (own_k aN aI aF aB aA p1) (own_k aN aI aF aB aA p3) aN aI aF aB aA T6.heap n0 (Nat.le_trans (Nat.le_trans (Nat.le_trans Z0 K4q.1) K5q.1) K6q.1) (own_Kk (own_Kk (own_Kk B K4q) K5q) K6q)) hZ (hw _ (List.mem_of_getElem? (i := 27) rfl)) (hw _ (List.mem_of_getElem? (i := 2) rfl)) (by decide) (by decide)) (g := (mkF m 76 #[.val (.int p1), .val (.int p2), .val (.int p3), .val (.ref (own_k aN aI aF aB aA p1)), .val (.ref (own_k aN aI aF aB aA p2)), .val (.ref (own_k aN aI aF aB aA p3)), .val (.ref (own_orV aN aA (own_k aN aI aF aB aA p1) (own_k aN aI aF aB aA p2))), .val (.ref (own_orV aN aA (own_k aN aI aF aB aA p2) (own_k aN aI aF aB aA p1))), .val (.int (1 : Int32)), .unset] [(.ref (own_k aN aI aF aB aA p3)), (.ref (own_k aN aI aF aB aA p1))])) rfl (by rw [hml]; rfl) (argsL := [(.ref (own_k aN aI aF aB aA p1)), (.ref (own_k aN aI aF aB aA p3))]) (rest := []) (lenOf pd_0_ii_2 rfl) rfl (by show 2 * 0 + _ ≤ _; exact Nat.le_of_eq rfl) (hb hby at_76) (fun _ _ => ⟨rfl, e10q, (by decide : 0 + 3 ≤ _), (by decide : 0 + 15 ≤ _)⟩)
  dsimp only [Pt.U, Pt.locs, Pt.cells, Pt.slots] at X11 l11 y11 z11 st11 hQ11
  subst l11 y11 z11
  obtain ⟨rfl, N11q, e11q⟩ := hQ11
  have N11 := Fr.app N10 N11q
  obtain ⟨_, _, ⟨T12, L12, k12, n12⟩, -, X12, ⟨Lc12, hQ12, l12, y12, z12⟩, st12⟩ := Jvm.LawKit.callS X11 hx (y := (⟨"org/graftloom/lua/KindOrPinLaw", "leq", "(Lorg/graftloom/lua/LocalTypes$Kind;Lorg/graftloom/lua/LocalTypes$Kind;)Z"⟩ : MethodName)) hown (mvT hZ (hw _ (List.mem_of_getElem? (i := 25) rfl))) (mvT hZ (hw _ (List.mem_of_getElem? (i := 26) rfl))) (mvT hZ (hw _ (List.mem_of_getElem? (i := 2) rfl))) (mvT hZ (hw _ (List.mem_of_getElem? (i := 27) rfl))) (by decide) (backOf (W := 0) (rm3 l Z a0 hw [] (own_k aN aI aF aB aA p2) (own_k aN aI aF aB aA p3) aN aI aF aB aA T6.heap n0 (Nat.le_trans (Nat.le_trans (Nat.le_trans Z0 K4q.1) K5q.1) K6q.1) (own_Kk (own_Kk (own_Kk B K4q) K5q) K6q)) hZ (hw _ (List.mem_of_getElem? (i := 27) rfl)) (hw _ (List.mem_of_getElem? (i := 2) rfl)) (by decide) (by decide)) (g := (mkF m 86 #[.val (.int p1), .val (.int p2), .val (.int p3), .val (.ref (own_k aN aI aF aB aA p1)), .val (.ref (own_k aN aI aF aB aA p2)), .val (.ref (own_k aN aI aF aB aA p3)), .val (.ref (own_orV aN aA (own_k aN aI aF aB aA p1) (own_k aN aI aF aB aA p2))), .val (.ref (own_orV aN aA (own_k aN aI aF aB aA p2) (own_k aN aI aF aB aA p1))), .val (.int (1 : Int32)), .unset] [(.ref (own_k aN aI aF aB aA p3)), (.ref (own_k aN aI aF aB aA p2))])) rfl (by rw [hml]; rfl) (argsL := [(.ref (own_k aN aI aF aB aA p2)), (.ref (own_k aN aI aF aB aA p3))]) (rest := []) (lenOf pd_0_ii_2 rfl) rfl (by show 2 * 0 + _ ≤ _; exact Nat.le_of_eq rfl) (hb hby at_86) (fun _ _ => ⟨rfl, e11q, (by decide : 0 + 3 ≤ _), (by decide : 0 + 15 ≤ _)⟩)
  dsimp only [Pt.U, Pt.locs, Pt.cells, Pt.slots] at X12 l12 y12 z12 st12 hQ12
  subst l12 y12 z12
  obtain ⟨rfl, N12q, e12q⟩ := hQ12
  have N12 := Fr.app N11 N12q
  obtain ⟨fs, hr, hrun, hended, hW, hsame⟩ := X12.leave (v := some (.int (1 : Int32))) (fun h => by rw [Bd.returns] at h; cases h)
  refine ⟨_, _, pre0 _ ?_, hrun, hended, _, _, rfl, ?_, ⟨_, rfl⟩, hW, hsame.mono (by decide) (by decide)⟩
  · show Steps p.tables e below (s₁.setTop (mkF m 0 #[.val (.int p1), .val (.int p2), .val (.int p3), .unset, .unset, .unset, .unset, .unset, .unset, .unset] [])) _
    refine XS.iloadN X0.here hx rfl (hb hby at_0) rfl ?_
    show Steps p.tables e below (s₁.setTop (mkF m 1 #[.val (.int p1), .val (.int p2), .val (.int p3), .unset, .unset, .unset, .unset, .unset, .unset, .unset] [(.int p1)])) _
    refine st4 _ ?_
    show Steps p.tables e below (T4.setTop (mkF m 4 #[.val (.int p1), .val (.int p2), .val (.int p3), .unset, .unset, .unset, .unset, .unset, .unset, .unset] [(.ref (own_k aN aI aF aB aA p1))])) _
    refine XS.astoreN X4.here hx rfl (hb hby at_4) rfl rfl (l' := #[.val (.int p1), .val (.int p2), .val (.int p3), .val (.ref (own_k aN aI aF aB aA p1)), .unset, .unset, .unset, .unset, .unset, .unset]) rfl ?_
    show Steps p.tables e below (T4.setTop (mkF m 5 #[.val (.int p1), .val (.int p2), .val (.int p3), .val (.ref (own_k aN aI aF aB aA p1)), .unset, .unset, .unset, .unset, .unset, .unset] [])) _
    refine XS.iloadN X4.here hx rfl (hb hby at_5) rfl ?_
    show Steps p.tables e below (T4.setTop (mkF m 6 #[.val (.int p1), .val (.int p2), .val (.int p3), .val (.ref (own_k aN aI aF aB aA p1)), .unset, .unset, .unset, .unset, .unset, .unset] [(.int p2)])) _
    refine st5 _ ?_
    show Steps p.tables e below (T5.setTop (mkF m 9 #[.val (.int p1), .val (.int p2), .val (.int p3), .val (.ref (own_k aN aI aF aB aA p1)), .unset, .unset, .unset, .unset, .unset, .unset] [(.ref (own_k aN aI aF aB aA p2))])) _
    refine XS.astore X5.here hx rfl (hb hby at_9) rfl rfl (l' := #[.val (.int p1), .val (.int p2), .val (.int p3), .val (.ref (own_k aN aI aF aB aA p1)), .val (.ref (own_k aN aI aF aB aA p2)), .unset, .unset, .unset, .unset, .unset]) rfl ?_
    show Steps p.tables e below (T5.setTop (mkF m 11 #[.val (.int p1), .val (.int p2), .val (.int p3), .val (.ref (own_k aN aI aF aB aA p1)), .val (.ref (own_k aN aI aF aB aA p2)), .unset, .unset, .unset, .unset, .unset] [])) _
    refine XS.iloadN X5.here hx rfl (hb hby at_11) rfl ?_
    show Steps p.tables e below (T5.setTop (mkF m 12 #[.val (.int p1), .val (.int p2), .val (.int p3), .val (.ref (own_k aN aI aF aB aA p1)), .val (.ref (own_k aN aI aF aB aA p2)), .unset, .unset, .unset, .unset, .unset] [(.int p3)])) _
    refine st6 _ ?_
    show Steps p.tables e below (T6.setTop (mkF m 15 #[.val (.int p1), .val (.int p2), .val (.int p3), .val (.ref (own_k aN aI aF aB aA p1)), .val (.ref (own_k aN aI aF aB aA p2)), .unset, .unset, .unset, .unset, .unset] [(.ref (own_k aN aI aF aB aA p3))])) _
    refine XS.astore X6.here hx rfl (hb hby at_15) rfl rfl (l' := #[.val (.int p1), .val (.int p2), .val (.int p3), .val (.ref (own_k aN aI aF aB aA p1)), .val (.ref (own_k aN aI aF aB aA p2)), .val (.ref (own_k aN aI aF aB aA p3)), .unset, .unset, .unset, .unset]) rfl ?_
    show Steps p.tables e below (T6.setTop (mkF m 17 #[.val (.int p1), .val (.int p2), .val (.int p3), .val (.ref (own_k aN aI aF aB aA p1)), .val (.ref (own_k aN aI aF aB aA p2)), .val (.ref (own_k aN aI aF aB aA p3)), .unset, .unset, .unset, .unset] [])) _
    refine XS.aloadN X6.here hx rfl (hb hby at_17) rfl rfl ?_
    show Steps p.tables e below (T6.setTop (mkF m 18 #[.val (.int p1), .val (.int p2), .val (.int p3), .val (.ref (own_k aN aI aF aB aA p1)), .val (.ref (own_k aN aI aF aB aA p2)), .val (.ref (own_k aN aI aF aB aA p3)), .unset, .unset, .unset, .unset] [(.ref (own_k aN aI aF aB aA p1))])) _
    refine XS.aload X6.here hx rfl (hb hby at_18) rfl rfl ?_
    show Steps p.tables e below (T6.setTop (mkF m 20 #[.val (.int p1), .val (.int p2), .val (.int p3), .val (.ref (own_k aN aI aF aB aA p1)), .val (.ref (own_k aN aI aF aB aA p2)), .val (.ref (own_k aN aI aF aB aA p3)), .unset, .unset, .unset, .unset] [(.ref (own_k aN aI aF aB aA p2)), (.ref (own_k aN aI aF aB aA p1))])) _
    refine st7.trans ?_
    show Steps p.tables e below (T7.setTop (mkF m 23 #[.val (.int p1), .val (.int p2), .val (.int p3), .val (.ref (own_k aN aI aF aB aA p1)), .val (.ref (own_k aN aI aF aB aA p2)), .val (.ref (own_k aN aI aF aB aA p3)), .unset, .unset, .unset, .unset] [(.ref (own_orV aN aA (own_k aN aI aF aB aA p1) (own_k aN aI aF aB aA p2)))])) _
    refine XS.astore X7.here hx rfl (hb hby at_23) rfl rfl (l' := #[.val (.int p1), .val (.int p2), .val (.int p3), .val (.ref (own_k aN aI aF aB aA p1)), .val (.ref (own_k aN aI aF aB aA p2)), .val (.ref (own_k aN aI aF aB aA p3)), .val (.ref (own_orV aN aA (own_k aN aI aF aB aA p1) (own_k aN aI aF aB aA p2))), .unset, .unset, .unset]) rfl ?_
    show Steps p.tables e below (T7.setTop (mkF m 25 #[.val (.int p1), .val (.int p2), .val (.int p3), .val (.ref (own_k aN aI aF aB aA p1)), .val (.ref (own_k aN aI aF aB aA p2)), .val (.ref (own_k aN aI aF aB aA p3)), .val (.ref (own_orV aN aA (own_k aN aI aF aB aA p1) (own_k aN aI aF aB aA p2))), .unset, .unset, .unset] [])) _
    refine XS.aload X7.here hx rfl (hb hby at_25) rfl rfl ?_
    show Steps p.tables e below (T7.setTop (mkF m 27 #[.val (.int p1), .val (.int p2), .val (.int p3), .val (.ref (own_k aN aI aF aB aA p1)), .val (.ref (own_k aN aI aF aB aA p2)), .val (.ref (own_k aN aI aF aB aA p3)), .val (.ref (own_orV aN aA (own_k aN aI aF aB aA p1) (own_k aN aI aF aB aA p2))), .unset, .unset, .unset] [(.ref (own_k aN aI aF aB aA p2))])) _
    refine XS.aloadN X7.here hx rfl (hb hby at_27) rfl rfl ?_
    show Steps p.tables e below (T7.setTop (mkF m 28 #[.val (.int p1), .val (.int p2), .val (.int p3), .val (.ref (own_k aN aI aF aB aA p1)), .val (.ref (own_k aN aI aF aB aA p2)), .val (.ref (own_k aN aI aF aB aA p3)), .val (.ref (own_orV aN aA (own_k aN aI aF aB aA p1) (own_k aN aI aF aB aA p2))), .unset, .unset, .unset] [(.ref (own_k aN aI aF aB aA p1)), (.ref (own_k aN aI aF aB aA p2))])) _
    refine st8.trans ?_
    show Steps p.tables e below (T8.setTop (mkF m 31 #[.val (.int p1), .val (.int p2), .val (.int p3), .val (.ref (own_k aN aI aF aB aA p1)), .val (.ref (own_k aN aI aF aB aA p2)), .val (.ref (own_k aN aI aF aB aA p3)), .val (.ref (own_orV aN aA (own_k aN aI aF aB aA p1) (own_k aN aI aF aB aA p2))), .unset, .unset, .unset] [(.ref (own_orV aN aA (own_k aN aI aF aB aA p2) (own_k aN aI aF aB aA p1)))])) _
    refine XS.astore X8.here hx rfl (hb hby at_31) rfl rfl (l' := #[.val (.int p1), .val (.int p2), .val (.int p3), .val (.ref (own_k aN aI aF aB aA p1)), .val (.ref (own_k aN aI aF aB aA p2)), .val (.ref (own_k aN aI aF aB aA p3)), .val (.ref (own_orV aN aA (own_k aN aI aF aB aA p1) (own_k aN aI aF aB aA p2))), .val (.ref (own_orV aN aA (own_k aN aI aF aB aA p2) (own_k aN aI aF aB aA p1))), .unset, .unset]) rfl ?_
    show Steps p.tables e below (T8.setTop (mkF m 33 #[.val (.int p1), .val (.int p2), .val (.int p3), .val (.ref (own_k aN aI aF aB aA p1)), .val (.ref (own_k aN aI aF aB aA p2)), .val (.ref (own_k aN aI aF aB aA p3)), .val (.ref (own_orV aN aA (own_k aN aI aF aB aA p1) (own_k aN aI aF aB aA p2))), .val (.ref (own_orV aN aA (own_k aN aI aF aB aA p2) (own_k aN aI aF aB aA p1))), .unset, .unset] [])) _
    refine XS.aload X8.here hx rfl (hb hby at_33) rfl rfl ?_
    show Steps p.tables e below (T8.setTop (mkF m 35 #[.val (.int p1), .val (.int p2), .val (.int p3), .val (.ref (own_k aN aI aF aB aA p1)), .val (.ref (own_k aN aI aF aB aA p2)), .val (.ref (own_k aN aI aF aB aA p3)), .val (.ref (own_orV aN aA (own_k aN aI aF aB aA p1) (own_k aN aI aF aB aA p2))), .val (.ref (own_orV aN aA (own_k aN aI aF aB aA p2) (own_k aN aI aF aB aA p1))), .unset, .unset] [(.ref (own_orV aN aA (own_k aN aI aF aB aA p1) (own_k aN aI aF aB aA p2)))])) _
    refine XS.ifnullNo X8.here hx rfl (hb hby at_35) rfl ?_
    show Steps p.tables e below (T8.setTop (mkF m 38 #[.val (.int p1), .val (.int p2), .val (.int p3), .val (.ref (own_k aN aI aF aB aA p1)), .val (.ref (own_k aN aI aF aB aA p2)), .val (.ref (own_k aN aI aF aB aA p3)), .val (.ref (own_orV aN aA (own_k aN aI aF aB aA p1) (own_k aN aI aF aB aA p2))), .val (.ref (own_orV aN aA (own_k aN aI aF aB aA p2) (own_k aN aI aF aB aA p1))), .unset, .unset] [])) _
    refine XS.aload X8.here hx rfl (hb hby at_38) rfl rfl ?_
    show Steps p.tables e below (T8.setTop (mkF m 40 #[.val (.int p1), .val (.int p2), .val (.int p3), .val (.ref (own_k aN aI aF aB aA p1)), .val (.ref (own_k aN aI aF aB aA p2)), .val (.ref (own_k aN aI aF aB aA p3)), .val (.ref (own_orV aN aA (own_k aN aI aF aB aA p1) (own_k aN aI aF aB aA p2))), .val (.ref (own_orV aN aA (own_k aN aI aF aB aA p2) (own_k aN aI aF aB aA p1))), .unset, .unset] [(.ref (own_orV aN aA (own_k aN aI aF aB aA p1) (own_k aN aI aF aB aA p2)))])) _
    refine XS.aload X8.here hx rfl (hb hby at_40) rfl rfl ?_
    show Steps p.tables e below (T8.setTop (mkF m 42 #[.val (.int p1), .val (.int p2), .val (.int p3), .val (.ref (own_k aN aI aF aB aA p1)), .val (.ref (own_k aN aI aF aB aA p2)), .val (.ref (own_k aN aI aF aB aA p3)), .val (.ref (own_orV aN aA (own_k aN aI aF aB aA p1) (own_k aN aI aF aB aA p2))), .val (.ref (own_orV aN aA (own_k aN aI aF aB aA p2) (own_k aN aI aF aB aA p1))), .unset, .unset] [(.ref (own_orV aN aA (own_k aN aI aF aB aA p2) (own_k aN aI aF aB aA p1))), (.ref (own_orV aN aA (own_k aN aI aF aB aA p1) (own_k aN aI aF aB aA p2)))])) _
    refine Jvm.RoadKit.acmp (g := (mkF m 42 #[.val (.int p1), .val (.int p2), .val (.int p3), .val (.ref (own_k aN aI aF aB aA p1)), .val (.ref (own_k aN aI aF aB aA p2)), .val (.ref (own_k aN aI aF aB aA p3)), .val (.ref (own_orV aN aA (own_k aN aI aF aB aA p1) (own_k aN aI aF aB aA p2))), .val (.ref (own_orV aN aA (own_k aN aI aF aB aA p2) (own_k aN aI aF aB aA p1))), .unset, .unset] [(.ref (own_orV aN aA (own_k aN aI aF aB aA p2) (own_k aN aI aF aB aA p1))), (.ref (own_orV aN aA (own_k aN aI aF aB aA p1) (own_k aN aI aF aB aA p2)))])) X8 hx rfl rfl rfl (pc0 := 42) (pc' := 47) (same := true) rfl (hb hby at_42) rfl (decide_eq_true (congrArg Value.ref (own_l1 aN aA (own_k aN aI aF aB aA p1) (own_k aN aI aF aB aA p2)))) (by decide) (by decide) ?_
    show Steps p.tables e below (T8.setTop (mkF m 47 #[.val (.int p1), .val (.int p2), .val (.int p3), .val (.ref (own_k aN aI aF aB aA p1)), .val (.ref (own_k aN aI aF aB aA p2)), .val (.ref (own_k aN aI aF aB aA p3)), .val (.ref (own_orV aN aA (own_k aN aI aF aB aA p1) (own_k aN aI aF aB aA p2))), .val (.ref (own_orV aN aA (own_k aN aI aF aB aA p2) (own_k aN aI aF aB aA p1))), .unset, .unset] [])) _
    refine XS.aloadN X8.here hx rfl (hb hby at_47) rfl rfl ?_
    show Steps p.tables e below (T8.setTop (mkF m 48 #[.val (.int p1), .val (.int p2), .val (.int p3), .val (.ref (own_k aN aI aF aB aA p1)), .val (.ref (own_k aN aI aF aB aA p2)), .val (.ref (own_k aN aI aF aB aA p3)), .val (.ref (own_orV aN aA (own_k aN aI aF aB aA p1) (own_k aN aI aF aB aA p2))), .val (.ref (own_orV aN aA (own_k aN aI aF aB aA p2) (own_k aN aI aF aB aA p1))), .unset, .unset] [(.ref (own_k aN aI aF aB aA p1))])) _
    refine XS.aload X8.here hx rfl (hb hby at_48) rfl rfl ?_
    show Steps p.tables e below (T8.setTop (mkF m 50 #[.val (.int p1), .val (.int p2), .val (.int p3), .val (.ref (own_k aN aI aF aB aA p1)), .val (.ref (own_k aN aI aF aB aA p2)), .val (.ref (own_k aN aI aF aB aA p3)), .val (.ref (own_orV aN aA (own_k aN aI aF aB aA p1) (own_k aN aI aF aB aA p2))), .val (.ref (own_orV aN aA (own_k aN aI aF aB aA p2) (own_k aN aI aF aB aA p1))), .unset, .unset] [(.ref (own_orV aN aA (own_k aN aI aF aB aA p1) (own_k aN aI aF aB aA p2))), (.ref (own_k aN aI aF aB aA p1))])) _
    refine st9 _ ?_
    show Steps p.tables e below (T9.setTop (mkF m 53 #[.val (.int p1), .val (.int p2), .val (.int p3), .val (.ref (own_k aN aI aF aB aA p1)), .val (.ref (own_k aN aI aF aB aA p2)), .val (.ref (own_k aN aI aF aB aA p3)), .val (.ref (own_orV aN aA (own_k aN aI aF aB aA p1) (own_k aN aI aF aB aA p2))), .val (.ref (own_orV aN aA (own_k aN aI aF aB aA p2) (own_k aN aI aF aB aA p1))), .unset, .unset] [(.int (own_leq aN aA (own_k aN aI aF aB aA p1) (own_orV aN aA (own_k aN aI aF aB aA p1) (own_k aN aI aF aB aA p2))))])) _
    refine XS.ifNo X9.here hx rfl (hb hby at_53) rfl ((if0 _ _).trans (feq (own_l2 aN aA (own_k aN aI aF aB aA p1) (own_k aN aI aF aB aA p2) : ¬ ((own_leq aN aA (own_k aN aI aF aB aA p1) (own_orV aN aA (own_k aN aI aF aB aA p1) (own_k aN aI aF aB aA p2))) = (0 : Int32)))).1) ?_
    show Steps p.tables e below (T9.setTop (mkF m 56 #[.val (.int p1), .val (.int p2), .val (.int p3), .val (.ref (own_k aN aI aF aB aA p1)), .val (.ref (own_k aN aI aF aB aA p2)), .val (.ref (own_k aN aI aF aB aA p3)), .val (.ref (own_orV aN aA (own_k aN aI aF aB aA p1) (own_k aN aI aF aB aA p2))), .val (.ref (own_orV aN aA (own_k aN aI aF aB aA p2) (own_k aN aI aF aB aA p1))), .unset, .unset] [])) _
    refine XS.aload X9.here hx rfl (hb hby at_56) rfl rfl ?_
    show Steps p.tables e below (T9.setTop (mkF m 58 #[.val (.int p1), .val (.int p2), .val (.int p3), .val (.ref (own_k aN aI aF aB aA p1)), .val (.ref (own_k aN aI aF aB aA p2)), .val (.ref (own_k aN aI aF aB aA p3)), .val (.ref (own_orV aN aA (own_k aN aI aF aB aA p1) (own_k aN aI aF aB aA p2))), .val (.ref (own_orV aN aA (own_k aN aI aF aB aA p2) (own_k aN aI aF aB aA p1))), .unset, .unset] [(.ref (own_k aN aI aF aB aA p2))])) _
    refine XS.aload X9.here hx rfl (hb hby at_58) rfl rfl ?_
    show Steps p.tables e below (T9.setTop (mkF m 60 #[.val (.int p1), .val (.int p2), .val (.int p3), .val (.ref (own_k aN aI aF aB aA p1)), .val (.ref (own_k aN aI aF aB aA p2)), .val (.ref (own_k aN aI aF aB aA p3)), .val (.ref (own_orV aN aA (own_k aN aI aF aB aA p1) (own_k aN aI aF aB aA p2))), .val (.ref (own_orV aN aA (own_k aN aI aF aB aA p2) (own_k aN aI aF aB aA p1))), .unset, .unset] [(.ref (own_orV aN aA (own_k aN aI aF aB aA p1) (own_k aN aI aF aB aA p2))), (.ref (own_k aN aI aF aB aA p2))])) _
    refine st10 _ ?_
    show Steps p.tables e below (T10.setTop (mkF m 63 #[.val (.int p1), .val (.int p2), .val (.int p3), .val (.ref (own_k aN aI aF aB aA p1)), .val (.ref (own_k aN aI aF aB aA p2)), .val (.ref (own_k aN aI aF aB aA p3)), .val (.ref (own_orV aN aA (own_k aN aI aF aB aA p1) (own_k aN aI aF aB aA p2))), .val (.ref (own_orV aN aA (own_k aN aI aF aB aA p2) (own_k aN aI aF aB aA p1))), .unset, .unset] [(.int (own_leq aN aA (own_k aN aI aF aB aA p2) (own_orV aN aA (own_k aN aI aF aB aA p1) (own_k aN aI aF aB aA p2))))])) _
    refine XS.ifNo X10.here hx rfl (hb hby at_63) rfl ((if0 _ _).trans (feq (own_l3 aN aA (own_k aN aI aF aB aA p1) (own_k aN aI aF aB aA p2) : ¬ ((own_leq aN aA (own_k aN aI aF aB aA p2) (own_orV aN aA (own_k aN aI aF aB aA p1) (own_k aN aI aF aB aA p2))) = (0 : Int32)))).1) ?_
    show Steps p.tables e below (T10.setTop (mkF m 66 #[.val (.int p1), .val (.int p2), .val (.int p3), .val (.ref (own_k aN aI aF aB aA p1)), .val (.ref (own_k aN aI aF aB aA p2)), .val (.ref (own_k aN aI aF aB aA p3)), .val (.ref (own_orV aN aA (own_k aN aI aF aB aA p1) (own_k aN aI aF aB aA p2))), .val (.ref (own_orV aN aA (own_k aN aI aF aB aA p2) (own_k aN aI aF aB aA p1))), .unset, .unset] [])) _
    refine XS.iconst X10.here hx rfl (hb hby at_66) ?_
    show Steps p.tables e below (T10.setTop (mkF m 67 #[.val (.int p1), .val (.int p2), .val (.int p3), .val (.ref (own_k aN aI aF aB aA p1)), .val (.ref (own_k aN aI aF aB aA p2)), .val (.ref (own_k aN aI aF aB aA p3)), .val (.ref (own_orV aN aA (own_k aN aI aF aB aA p1) (own_k aN aI aF aB aA p2))), .val (.ref (own_orV aN aA (own_k aN aI aF aB aA p2) (own_k aN aI aF aB aA p1))), .unset, .unset] [(.int (1 : Int32))])) _
    refine XS.goto X10.here hx rfl (pc0 := 67) (pc' := 71) rfl (hb hby at_67) (by decide) (by decide) ?_
    show Steps p.tables e below (T10.setTop (mkF m 71 #[.val (.int p1), .val (.int p2), .val (.int p3), .val (.ref (own_k aN aI aF aB aA p1)), .val (.ref (own_k aN aI aF aB aA p2)), .val (.ref (own_k aN aI aF aB aA p3)), .val (.ref (own_orV aN aA (own_k aN aI aF aB aA p1) (own_k aN aI aF aB aA p2))), .val (.ref (own_orV aN aA (own_k aN aI aF aB aA p2) (own_k aN aI aF aB aA p1))), .unset, .unset] [(.int (1 : Int32))])) _
    refine XS.istore X10.here hx rfl (hb hby at_71) rfl (l' := #[.val (.int p1), .val (.int p2), .val (.int p3), .val (.ref (own_k aN aI aF aB aA p1)), .val (.ref (own_k aN aI aF aB aA p2)), .val (.ref (own_k aN aI aF aB aA p3)), .val (.ref (own_orV aN aA (own_k aN aI aF aB aA p1) (own_k aN aI aF aB aA p2))), .val (.ref (own_orV aN aA (own_k aN aI aF aB aA p2) (own_k aN aI aF aB aA p1))), .val (.int (1 : Int32)), .unset]) rfl ?_
    show Steps p.tables e below (T10.setTop (mkF m 73 #[.val (.int p1), .val (.int p2), .val (.int p3), .val (.ref (own_k aN aI aF aB aA p1)), .val (.ref (own_k aN aI aF aB aA p2)), .val (.ref (own_k aN aI aF aB aA p3)), .val (.ref (own_orV aN aA (own_k aN aI aF aB aA p1) (own_k aN aI aF aB aA p2))), .val (.ref (own_orV aN aA (own_k aN aI aF aB aA p2) (own_k aN aI aF aB aA p1))), .val (.int (1 : Int32)), .unset] [])) _
    refine XS.aloadN X10.here hx rfl (hb hby at_73) rfl rfl ?_
    show Steps p.tables e below (T10.setTop (mkF m 74 #[.val (.int p1), .val (.int p2), .val (.int p3), .val (.ref (own_k aN aI aF aB aA p1)), .val (.ref (own_k aN aI aF aB aA p2)), .val (.ref (own_k aN aI aF aB aA p3)), .val (.ref (own_orV aN aA (own_k aN aI aF aB aA p1) (own_k aN aI aF aB aA p2))), .val (.ref (own_orV aN aA (own_k aN aI aF aB aA p2) (own_k aN aI aF aB aA p1))), .val (.int (1 : Int32)), .unset] [(.ref (own_k aN aI aF aB aA p1))])) _
    refine XS.aload X10.here hx rfl (hb hby at_74) rfl rfl ?_
    show Steps p.tables e below (T10.setTop (mkF m 76 #[.val (.int p1), .val (.int p2), .val (.int p3), .val (.ref (own_k aN aI aF aB aA p1)), .val (.ref (own_k aN aI aF aB aA p2)), .val (.ref (own_k aN aI aF aB aA p3)), .val (.ref (own_orV aN aA (own_k aN aI aF aB aA p1) (own_k aN aI aF aB aA p2))), .val (.ref (own_orV aN aA (own_k aN aI aF aB aA p2) (own_k aN aI aF aB aA p1))), .val (.int (1 : Int32)), .unset] [(.ref (own_k aN aI aF aB aA p3)), (.ref (own_k aN aI aF aB aA p1))])) _
    refine st11 _ ?_
    show Steps p.tables e below (T11.setTop (mkF m 79 #[.val (.int p1), .val (.int p2), .val (.int p3), .val (.ref (own_k aN aI aF aB aA p1)), .val (.ref (own_k aN aI aF aB aA p2)), .val (.ref (own_k aN aI aF aB aA p3)), .val (.ref (own_orV aN aA (own_k aN aI aF aB aA p1) (own_k aN aI aF aB aA p2))), .val (.ref (own_orV aN aA (own_k aN aI aF aB aA p2) (own_k aN aI aF aB aA p1))), .val (.int (1 : Int32)), .unset] [(.int (own_leq aN aA (own_k aN aI aF aB aA p1) (own_k aN aI aF aB aA p3)))])) _
    refine XS.ifNo X11.here hx rfl (hb hby at_79) rfl ((if0 _ _).trans (feq (hA : ¬ ((own_leq aN aA (own_k aN aI aF aB aA p1) (own_k aN aI aF aB aA p3)) = (0 : Int32)))).1) ?_
    show Steps p.tables e below (T11.setTop (mkF m 82 #[.val (.int p1), .val (.int p2), .val (.int p3), .val (.ref (own_k aN aI aF aB aA p1)), .val (.ref (own_k aN aI aF aB aA p2)), .val (.ref (own_k aN aI aF aB aA p3)), .val (.ref (own_orV aN aA (own_k aN aI aF aB aA p1) (own_k aN aI aF aB aA p2))), .val (.ref (own_orV aN aA (own_k aN aI aF aB aA p2) (own_k aN aI aF aB aA p1))), .val (.int (1 : Int32)), .unset] [])) _
    refine XS.aload X11.here hx rfl (hb hby at_82) rfl rfl ?_
    show Steps p.tables e below (T11.setTop (mkF m 84 #[.val (.int p1), .val (.int p2), .val (.int p3), .val (.ref (own_k aN aI aF aB aA p1)), .val (.ref (own_k aN aI aF aB aA p2)), .val (.ref (own_k aN aI aF aB aA p3)), .val (.ref (own_orV aN aA (own_k aN aI aF aB aA p1) (own_k aN aI aF aB aA p2))), .val (.ref (own_orV aN aA (own_k aN aI aF aB aA p2) (own_k aN aI aF aB aA p1))), .val (.int (1 : Int32)), .unset] [(.ref (own_k aN aI aF aB aA p2))])) _
    refine XS.aload X11.here hx rfl (hb hby at_84) rfl rfl ?_
    show Steps p.tables e below (T11.setTop (mkF m 86 #[.val (.int p1), .val (.int p2), .val (.int p3), .val (.ref (own_k aN aI aF aB aA p1)), .val (.ref (own_k aN aI aF aB aA p2)), .val (.ref (own_k aN aI aF aB aA p3)), .val (.ref (own_orV aN aA (own_k aN aI aF aB aA p1) (own_k aN aI aF aB aA p2))), .val (.ref (own_orV aN aA (own_k aN aI aF aB aA p2) (own_k aN aI aF aB aA p1))), .val (.int (1 : Int32)), .unset] [(.ref (own_k aN aI aF aB aA p3)), (.ref (own_k aN aI aF aB aA p2))])) _
    refine st12 _ ?_
    show Steps p.tables e below (T12.setTop (mkF m 89 #[.val (.int p1), .val (.int p2), .val (.int p3), .val (.ref (own_k aN aI aF aB aA p1)), .val (.ref (own_k aN aI aF aB aA p2)), .val (.ref (own_k aN aI aF aB aA p3)), .val (.ref (own_orV aN aA (own_k aN aI aF aB aA p1) (own_k aN aI aF aB aA p2))), .val (.ref (own_orV aN aA (own_k aN aI aF aB aA p2) (own_k aN aI aF aB aA p1))), .val (.int (1 : Int32)), .unset] [(.int (own_leq aN aA (own_k aN aI aF aB aA p2) (own_k aN aI aF aB aA p3)))])) _
    refine XS.ifYes X12.here hx rfl (pc0 := 89) (pc' := 102) rfl (hb hby at_89) rfl ((if0 _ _).trans (teq (hB : (own_leq aN aA (own_k aN aI aF aB aA p2) (own_k aN aI aF aB aA p3)) = (0 : Int32))).1) (by decide) (by decide) ?_
    show Steps p.tables e below (T12.setTop (mkF m 102 #[.val (.int p1), .val (.int p2), .val (.int p3), .val (.ref (own_k aN aI aF aB aA p1)), .val (.ref (own_k aN aI aF aB aA p2)), .val (.ref (own_k aN aI aF aB aA p3)), .val (.ref (own_orV aN aA (own_k aN aI aF aB aA p1) (own_k aN aI aF aB aA p2))), .val (.ref (own_orV aN aA (own_k aN aI aF aB aA p2) (own_k aN aI aF aB aA p1))), .val (.int (1 : Int32)), .unset] [])) _
    refine XS.iconst X12.here hx rfl (hb hby at_102) ?_
    show Steps p.tables e below (T12.setTop (mkF m 103 #[.val (.int p1), .val (.int p2), .val (.int p3), .val (.ref (own_k aN aI aF aB aA p1)), .val (.ref (own_k aN aI aF aB aA p2)), .val (.ref (own_k aN aI aF aB aA p3)), .val (.ref (own_orV aN aA (own_k aN aI aF aB aA p1) (own_k aN aI aF aB aA p2))), .val (.ref (own_orV aN aA (own_k aN aI aF aB aA p2) (own_k aN aI aF aB aA p1))), .val (.int (1 : Int32)), .unset] [(.int (1 : Int32))])) _
    refine XS.goto X12.here hx rfl (pc0 := 103) (pc' := 107) rfl (hb hby at_103) (by decide) (by decide) ?_
    show Steps p.tables e below (T12.setTop (mkF m 107 #[.val (.int p1), .val (.int p2), .val (.int p3), .val (.ref (own_k aN aI aF aB aA p1)), .val (.ref (own_k aN aI aF aB aA p2)), .val (.ref (own_k aN aI aF aB aA p3)), .val (.ref (own_orV aN aA (own_k aN aI aF aB aA p1) (own_k aN aI aF aB aA p2))), .val (.ref (own_orV aN aA (own_k aN aI aF aB aA p2) (own_k aN aI aF aB aA p1))), .val (.int (1 : Int32)), .unset] [(.int (1 : Int32))])) _
    refine XS.istore X12.here hx rfl (hb hby at_107) rfl (l' := #[.val (.int p1), .val (.int p2), .val (.int p3), .val (.ref (own_k aN aI aF aB aA p1)), .val (.ref (own_k aN aI aF aB aA p2)), .val (.ref (own_k aN aI aF aB aA p3)), .val (.ref (own_orV aN aA (own_k aN aI aF aB aA p1) (own_k aN aI aF aB aA p2))), .val (.ref (own_orV aN aA (own_k aN aI aF aB aA p2) (own_k aN aI aF aB aA p1))), .val (.int (1 : Int32)), .val (.int (1 : Int32))]) rfl ?_
    show Steps p.tables e below (T12.setTop (mkF m 109 #[.val (.int p1), .val (.int p2), .val (.int p3), .val (.ref (own_k aN aI aF aB aA p1)), .val (.ref (own_k aN aI aF aB aA p2)), .val (.ref (own_k aN aI aF aB aA p3)), .val (.ref (own_orV aN aA (own_k aN aI aF aB aA p1) (own_k aN aI aF aB aA p2))), .val (.ref (own_orV aN aA (own_k aN aI aF aB aA p2) (own_k aN aI aF aB aA p1))), .val (.int (1 : Int32)), .val (.int (1 : Int32))] [])) _
    refine XS.iload X12.here hx rfl (hb hby at_109) rfl ?_
    show Steps p.tables e below (T12.setTop (mkF m 111 #[.val (.int p1), .val (.int p2), .val (.int p3), .val (.ref (own_k aN aI aF aB aA p1)), .val (.ref (own_k aN aI aF aB aA p2)), .val (.ref (own_k aN aI aF aB aA p3)), .val (.ref (own_orV aN aA (own_k aN aI aF aB aA p1) (own_k aN aI aF aB aA p2))), .val (.ref (own_orV aN aA (own_k aN aI aF aB aA p2) (own_k aN aI aF aB aA p1))), .val (.int (1 : Int32)), .val (.int (1 : Int32))] [(.int (1 : Int32))])) _
    refine XS.ifNo X12.here hx rfl (hb hby at_111) rfl ((if0 _ _).trans (feq (by decide)).1) ?_
    show Steps p.tables e below (T12.setTop (mkF m 114 #[.val (.int p1), .val (.int p2), .val (.int p3), .val (.ref (own_k aN aI aF aB aA p1)), .val (.ref (own_k aN aI aF aB aA p2)), .val (.ref (own_k aN aI aF aB aA p3)), .val (.ref (own_orV aN aA (own_k aN aI aF aB aA p1) (own_k aN aI aF aB aA p2))), .val (.ref (own_orV aN aA (own_k aN aI aF aB aA p2) (own_k aN aI aF aB aA p1))), .val (.int (1 : Int32)), .val (.int (1 : Int32))] [])) _
    refine XS.iload X12.here hx rfl (hb hby at_114) rfl ?_
    show Steps p.tables e below (T12.setTop (mkF m 116 #[.val (.int p1), .val (.int p2), .val (.int p3), .val (.ref (own_k aN aI aF aB aA p1)), .val (.ref (own_k aN aI aF aB aA p2)), .val (.ref (own_k aN aI aF aB aA p3)), .val (.ref (own_orV aN aA (own_k aN aI aF aB aA p1) (own_k aN aI aF aB aA p2))), .val (.ref (own_orV aN aA (own_k aN aI aF aB aA p2) (own_k aN aI aF aB aA p1))), .val (.int (1 : Int32)), .val (.int (1 : Int32))] [(.int (1 : Int32))])) _
    refine XS.ifNo X12.here hx rfl (hb hby at_116) rfl ((if0 _ _).trans (feq (by decide)).1) ?_
    show Steps p.tables e below (T12.setTop (mkF m 119 #[.val (.int p1), .val (.int p2), .val (.int p3), .val (.ref (own_k aN aI aF aB aA p1)), .val (.ref (own_k aN aI aF aB aA p2)), .val (.ref (own_k aN aI aF aB aA p3)), .val (.ref (own_orV aN aA (own_k aN aI aF aB aA p1) (own_k aN aI aF aB aA p2))), .val (.ref (own_orV aN aA (own_k aN aI aF aB aA p2) (own_k aN aI aF aB aA p1))), .val (.int (1 : Int32)), .val (.int (1 : Int32))] [])) _
    refine XS.iconst X12.here hx rfl (hb hby at_119) ?_
    show Steps p.tables e below (T12.setTop (mkF m 120 #[.val (.int p1), .val (.int p2), .val (.int p3), .val (.ref (own_k aN aI aF aB aA p1)), .val (.ref (own_k aN aI aF aB aA p2)), .val (.ref (own_k aN aI aF aB aA p3)), .val (.ref (own_orV aN aA (own_k aN aI aF aB aA p1) (own_k aN aI aF aB aA p2))), .val (.ref (own_orV aN aA (own_k aN aI aF aB aA p2) (own_k aN aI aF aB aA p1))), .val (.int (1 : Int32)), .val (.int (1 : Int32))] [(.int (1 : Int32))])) _
    refine XS.goto X12.here hx rfl (pc0 := 120) (pc' := 124) rfl (hb hby at_120) (by decide) (by decide) ?_
    show Steps p.tables e below (T12.setTop (mkF m 124 #[.val (.int p1), .val (.int p2), .val (.int p3), .val (.ref (own_k aN aI aF aB aA p1)), .val (.ref (own_k aN aI aF aB aA p2)), .val (.ref (own_k aN aI aF aB aA p3)), .val (.ref (own_orV aN aA (own_k aN aI aF aB aA p1) (own_k aN aI aF aB aA p2))), .val (.ref (own_orV aN aA (own_k aN aI aF aB aA p2) (own_k aN aI aF aB aA p1))), .val (.int (1 : Int32)), .val (.int (1 : Int32))] [(.int (1 : Int32))])) _
    exact retN X12 hx (t := .boolean) Bd.returns (by simp) (hb hby at_124) hr
  · show Q0_ii Z p1 p2 p3 aN aI aF aB aA h0 n0 _ T12.heap _
    exact ⟨rfl, N12⟩
theorem pd_0_iii_0 : parseMethodDescriptor "(I)Lorg/graftloom/lua/LocalTypes$Kind;" = some ⟨[.int], some (.object "org/graftloom/lua/LocalTypes$Kind")⟩ := by decide +kernel
theorem pd_0_iii_1 : parseMethodDescriptor "(Lorg/graftloom/lua/LocalTypes$Kind;)Lorg/graftloom/lua/LocalTypes$Kind;" = some ⟨[(.object "org/graftloom/lua/LocalTypes$Kind")], some (.object "org/graftloom/lua/LocalTypes$Kind")⟩ := by decide +kernel
theorem pd_0_iii_2 : parseMethodDescriptor "(Lorg/graftloom/lua/LocalTypes$Kind;Lorg/graftloom/lua/LocalTypes$Kind;)Z" = some ⟨[(.object "org/graftloom/lua/LocalTypes$Kind"), (.object "org/graftloom/lua/LocalTypes$Kind")], some .boolean⟩ := by decide +kernel
def Q0_iii (Z : State) (p1 : Int32) (p2 : Int32) (p3 : Int32) (aN aI aF aB aA : Addr) (h0 : Heap) (n0 : Nat) (v : Option Value) (h : Heap) (L : List Loc) : Prop := v = some (.int (1 : Int32)) ∧ Fr n0 L
set_option maxRecDepth 65536 in
set_option maxHeartbeats 40000000 in
theorem rm0_iii (l : Launch) (Z : State) (a0 : Array Value) (hw : ∀ d ∈ tables_1, d.before a0 Z = true) (ws : List Jvm.Cond) (p1 : Int32) (p2 : Int32) (p3 : Int32) (aN aI aF aB aA : Addr) (h0 : Heap) (n0 : Nat) (Z0 : n0 ≤ h0.size) (B : own_K Z h0 aN aI aF aB aA) (hA : ¬ own_leq aN aA (own_k aN aI aF aB aA p1) (own_k aN aI aF aB aA p3) = 0) (hB : ¬ own_leq aN aA (own_k aN aI aF aB aA p2) (own_k aN aI aF aB aA p3) = 0) :
    MetFree l x (head1 (Jvm.Cond.code x code maxLocals ret :: ws) room_1) (fun a U => a = #[(.int p1), (.int p2), (.int p3)] ∧ Z.Warmed39 U.vm ∧ U.heap = h0) (fun _ _ _ _ _ => True) (fun _ U o U' => ∃ v L, o = .returned v ∧ Q0_iii Z p1 p2 p3 aN aI aF aB aA h0 n0 v U'.heap L ∧ FrameEnd U o U' L room_1.cells room_1.slots) := by
  refine MetFree.of_bodySF (plainFor_of_name pn_0) hisR ?_
  intro p e s m args below meth c s₁ Bd hml0 hP hK
  obtain ⟨rfl, hZ, hh⟩ := hP
  have hx := Bd.exec
  have hby := Bd.bytes
  have hml : c.maxLocals = 10 := hml0
  have hown : s.vm.findClass "org/graftloom/lua/KindOrPinLaw" = some m.cls := findClass_of_methodNamed Bd.named
  have hnm := (name_of_methodNamed Bd.named Bd.method).1
  have X0 : Stand p l e room_1 s m #[(.int p1), (.int p2), (.int p3)] below meth c s₁ [] 0 0 := Stand.of_body Bd
  have e0 : s₁.heap = h0 := by rw [← hh, Bd.state]; rfl
  have N0 := Fr.nil n0
  have pre0 : ∀ t, Steps p.tables e below (s₁.setTop (mkF m 0 #[.val (.int p1), .val (.int p2), .val (.int p3), .unset, .unset, .unset, .unset, .unset, .unset, .unset] [])) t → Steps p.tables e below (s₁.setTop (entryFrame m #[(.int p1), (.int p2), (.int p3)] maxLocals)) t := fun t k => castTop (ef_0 m p1 p2 p3) k
  obtain ⟨_, _, ⟨T4, L4, k4, n4⟩, -, X4, ⟨Lc4, hQ4, l4, y4, z4⟩, st4⟩ := Jvm.LawKit.callS X0 hx (y := (⟨"org/graftloom/lua/KindOrPinLaw", "pick", "(I)Lorg/graftloom/lua/LocalTypes$Kind;"⟩ : MethodName)) hown (mvT hZ (hw _ (List.mem_of_getElem? (i := 0) rfl))) (mvT hZ (hw _ (List.mem_of_getElem? (i := 1) rfl))) (mvT hZ (hw _ (List.mem_of_getElem? (i := 2) rfl))) (mvT hZ (hw _ (List.mem_of_getElem? (i := 3) rfl))) (by decide) (backOf (W := 0) (rm1 l Z a0 hw [] p1 aN aI aF aB aA h0 n0 Z0 B) hZ (hw _ (List.mem_of_getElem? (i := 3) rfl)) (hw _ (List.mem_of_getElem? (i := 2) rfl)) (by decide) (by decide)) (g := (mkF m 1 #[.val (.int p1), .val (.int p2), .val (.int p3), .unset, .unset, .unset, .unset, .unset, .unset, .unset] [(.int p1)])) rfl (by rw [hml]; rfl) (argsL := [(.int p1)]) (rest := []) (lenOf pd_0_iii_0 rfl) rfl (by show 2 * 0 + _ ≤ _; exact Nat.le_of_eq rfl) (hb hby at_1) (fun _ _ => ⟨rfl, e0, (by decide : 0 + 1 ≤ _), (by decide : 0 + 5 ≤ _)⟩)
  dsimp only [Pt.U, Pt.locs, Pt.cells, Pt.slots] at X4 l4 y4 z4 st4 hQ4
  subst l4 y4 z4
  obtain ⟨rfl, N4q, K4q⟩ := hQ4
  have N4 := Fr.app N0 N4q
  obtain ⟨_, _, ⟨T5, L5, k5, n5⟩, -, X5, ⟨Lc5, hQ5, l5, y5, z5⟩, st5⟩ := Jvm.LawKit.callS X4 hx (y := (⟨"org/graftloom/lua/KindOrPinLaw", "pick", "(I)Lorg/graftloom/lua/LocalTypes$Kind;"⟩ : MethodName)) hown (mvT hZ (hw _ (List.mem_of_getElem? (i := 0) rfl))) (mvT hZ (hw _ (List.mem_of_getElem? (i := 1) rfl))) (mvT hZ (hw _ (List.mem_of_getElem? (i := 2) rfl))) (mvT hZ (hw _ (List.mem_of_getElem? (i := 3) rfl))) (by decide) (backOf (W := 0) (rm1 l Z a0 hw [] p2 aN aI aF aB aA T4.heap n0 (Nat.le_trans Z0 K4q.1) (own_Kk B K4q)) hZ (hw _ (List.mem_of_getElem? (i := 3) rfl)) (hw _ (List.mem_of_getElem? (i := 2) rfl)) (by decide) (by decide)) (g := (mkF m 6 #[.val (.int p1), .val (.int p2), .val (.int p3), .val (.ref (own_k aN aI aF aB aA p1)), .unset, .unset, .unset, .unset, .unset, .unset] [(.int p2)])) rfl (by rw [hml]; rfl) (argsL := [(.int p2)]) (rest := []) (lenOf pd_0_iii_0 rfl) rfl (by show 2 * 0 + _ ≤ _; exact Nat.le_of_eq rfl) (hb hby at_6) (fun _ _ => ⟨rfl, rfl, (by decide : 0 + 2 ≤ _), (by decide : 0 + 10 ≤ _)⟩)
  dsimp only [Pt.U, Pt.locs, Pt.cells, Pt.slots] at X5 l5 y5 z5 st5 hQ5
  subst l5 y5 z5
  obtain ⟨rfl, N5q, K5q⟩ := hQ5
  have N5 := Fr.app N4 N5q
  obtain ⟨_, _, ⟨T6, L6, k6, n6⟩, -, X6, ⟨Lc6, hQ6, l6, y6, z6⟩, st6⟩ := Jvm.LawKit.callS X5 hx (y := (⟨"org/graftloom/lua/KindOrPinLaw", "pick", "(I)Lorg/graftloom/lua/LocalTypes$Kind;"⟩ : MethodName)) hown (mvT hZ (hw _ (List.mem_of_getElem? (i := 0) rfl))) (mvT hZ (hw _ (List.mem_of_getElem? (i := 1) rfl))) (mvT hZ (hw _ (List.mem_of_getElem? (i := 2) rfl))) (mvT hZ (hw _ (List.mem_of_getElem? (i := 3) rfl))) (by decide) (backOf (W := 0) (rm1 l Z a0 hw [] p3 aN aI aF aB aA T5.heap n0 (Nat.le_trans (Nat.le_trans Z0 K4q.1) K5q.1) (own_Kk (own_Kk B K4q) K5q)) hZ (hw _ (List.mem_of_getElem? (i := 3) rfl)) (hw _ (List.mem_of_getElem? (i := 2) rfl)) (by decide) (by decide)) (g := (mkF m 12 #[.val (.int p1), .val (.int p2), .val (.int p3), .val (.ref (own_k aN aI aF aB aA p1)), .val (.ref (own_k aN aI aF aB aA p2)), .unset, .unset, .unset, .unset, .unset] [(.int p3)])) rfl (by rw [hml]; rfl) (argsL := [(.int p3)]) (rest := []) (lenOf pd_0_iii_0 rfl) rfl (by show 2 * 0 + _ ≤ _; exact Nat.le_of_eq rfl) (hb hby at_12) (fun _ _ => ⟨rfl, rfl, (by decide : 0 + 3 ≤ _), (by decide : 0 + 15 ≤ _)⟩)
  dsimp only [Pt.U, Pt.locs, Pt.cells, Pt.slots] at X6 l6 y6 z6 st6 hQ6
  subst l6 y6 z6
  obtain ⟨rfl, N6q, K6q⟩ := hQ6
  have N6 := Fr.app N5 N6q
  obtain ⟨cq7, kq7, q7a, q7b, q7c⟩ := isOf hZ rfl (own_kE (own_Kk (own_Kk (own_Kk B K4q) K5q) K6q) p1)
  obtain ⟨_, _, ⟨T7, L7, k7, n7⟩, -, X7, ⟨Lc7, hQ7, l7, y7, z7⟩, st7⟩ := X6.virtualBack hx (y := (⟨"org/graftloom/lua/LocalTypes$Kind", "or", "(Lorg/graftloom/lua/LocalTypes$Kind;)Lorg/graftloom/lua/LocalTypes$Kind;"⟩ : MethodName)) (z := (⟨"org/graftloom/lua/LocalTypes$Kind", "or", "(Lorg/graftloom/lua/LocalTypes$Kind;)Lorg/graftloom/lua/LocalTypes$Kind;"⟩ : MethodName)) hown (mvT hZ (hw _ (List.mem_of_getElem? (i := 19) rfl))) (mvT hZ (hw _ (List.mem_of_getElem? (i := 20) rfl))) (notFace_of_selects (args := #[]) (mvT hZ (hw _ (List.mem_of_getElem? (i := 22) rfl)))) (mvT hZ (hw _ (List.mem_of_getElem? (i := 22) rfl))) (mvT hZ (hw _ (List.mem_of_getElem? (i := 21) rfl))) (by decide) (backOf (W := 0) (rm2 l Z a0 hw [] (own_k aN aI aF aB aA p1) (own_k aN aI aF aB aA p2) aN aI aF aB aA T6.heap n0 (Nat.le_trans (Nat.le_trans (Nat.le_trans Z0 K4q.1) K5q.1) K6q.1) (own_Kk (own_Kk (own_Kk B K4q) K5q) K6q)) hZ (hw _ (List.mem_of_getElem? (i := 23) rfl)) (hw _ (List.mem_of_getElem? (i := 7) rfl)) (by decide) (by decide)) q7a q7c (g := (mkF m 20 #[.val (.int p1), .val (.int p2), .val (.int p3), .val (.ref (own_k aN aI aF aB aA p1)), .val (.ref (own_k aN aI aF aB aA p2)), .val (.ref (own_k aN aI aF aB aA p3)), .unset, .unset, .unset, .unset] [(.ref (own_k aN aI aF aB aA p2)), (.ref (own_k aN aI aF aB aA p1))])) rfl (by rw [hml]; rfl) (Steps.refl _) (argsL := [(.ref (own_k aN aI aF aB aA p2))]) (rest := []) (lenOf pd_0_iii_1 rfl) rfl (by show 2 * 0 + _ ≤ _; exact Nat.le_of_eq rfl) (hb hby at_20) (fun _ _ => ⟨rfl, rfl, (by decide : 0 + 3 ≤ _), (by decide : 0 + 15 ≤ _)⟩)
  dsimp only [Pt.U, Pt.locs, Pt.cells, Pt.slots] at X7 l7 y7 z7 st7 hQ7
  subst l7 y7 z7
  obtain ⟨rfl, N7q, e7q⟩ := hQ7
  have N7 := Fr.app N6 N7q
  obtain ⟨cq8, kq8, q8a, q8b, q8c⟩ := isOf hZ e7q (own_kE (own_Kk (own_Kk (own_Kk B K4q) K5q) K6q) p2)
  obtain ⟨_, _, ⟨T8, L8, k8, n8⟩, -, X8, ⟨Lc8, hQ8, l8, y8, z8⟩, st8⟩ := X7.virtualBack hx (y := (⟨"org/graftloom/lua/LocalTypes$Kind", "or", "(Lorg/graftloom/lua/LocalTypes$Kind;)Lorg/graftloom/lua/LocalTypes$Kind;"⟩ : MethodName)) (z := (⟨"org/graftloom/lua/LocalTypes$Kind", "or", "(Lorg/graftloom/lua/LocalTypes$Kind;)Lorg/graftloom/lua/LocalTypes$Kind;"⟩ : MethodName)) hown (mvT hZ (hw _ (List.mem_of_getElem? (i := 19) rfl))) (mvT hZ (hw _ (List.mem_of_getElem? (i := 20) rfl))) (notFace_of_selects (args := #[]) (mvT hZ (hw _ (List.mem_of_getElem? (i := 22) rfl)))) (mvT hZ (hw _ (List.mem_of_getElem? (i := 22) rfl))) (mvT hZ (hw _ (List.mem_of_getElem? (i := 21) rfl))) (by decide) (backOf (W := 0) (rm2 l Z a0 hw [] (own_k aN aI aF aB aA p2) (own_k aN aI aF aB aA p1) aN aI aF aB aA T6.heap n0 (Nat.le_trans (Nat.le_trans (Nat.le_trans Z0 K4q.1) K5q.1) K6q.1) (own_Kk (own_Kk (own_Kk B K4q) K5q) K6q)) hZ (hw _ (List.mem_of_getElem? (i := 23) rfl)) (hw _ (List.mem_of_getElem? (i := 7) rfl)) (by decide) (by decide)) q8a q8c (g := (mkF m 28 #[.val (.int p1), .val (.int p2), .val (.int p3), .val (.ref (own_k aN aI aF aB aA p1)), .val (.ref (own_k aN aI aF aB aA p2)), .val (.ref (own_k aN aI aF aB aA p3)), .val (.ref (own_orV aN aA (own_k aN aI aF aB aA p1) (own_k aN aI aF aB aA p2))), .unset, .unset, .unset] [(.ref (own_k aN aI aF aB aA p1)), (.ref (own_k aN aI aF aB aA p2))])) rfl (by rw [hml]; rfl) (Steps.refl _) (argsL := [(.ref (own_k aN aI aF aB aA p1))]) (rest := []) (lenOf pd_0_iii_1 rfl) rfl (by show 2 * 0 + _ ≤ _; exact Nat.le_of_eq rfl) (hb hby at_28) (fun _ _ => ⟨rfl, e7q, (by decide : 0 + 3 ≤ _), (by decide : 0 + 15 ≤ _)⟩)
  dsimp only [Pt.U, Pt.locs, Pt.cells, Pt.slots] at X8 l8 y8 z8 st8 hQ8
  subst l8 y8 z8
  obtain ⟨rfl, N8q, e8q⟩ := hQ8
  have N8 := Fr.app N7 N8q
  obtain ⟨_, _, ⟨T9, L9, k9, n9⟩, -, X9, ⟨Lc9, hQ9, l9, y9, z9⟩, st9⟩ := Jvm.LawKit.callS X8 hx (y := (⟨"org/graftloom/lua/KindOrPinLaw", "leq", "(Lorg/graftloom/lua/LocalTypes$Kind;Lorg/graftloom/lua/LocalTypes$Kind;)Z"⟩ : MethodName)) hown (mvT hZ (hw _ (List.mem_of_getElem? (i := 25) rfl))) (mvT hZ (hw _ (List.mem_of_getElem? (i := 26) rfl))) (mvT hZ (hw _ (List.mem_of_getElem? (i := 2) rfl))) (mvT hZ (hw _ (List.mem_of_getElem? (i := 27) rfl))) (by decide) (backOf (W := 0) (rm3 l Z a0 hw [] (own_k aN aI aF aB aA p1) (own_orV aN aA (own_k aN aI aF aB aA p1) (own_k aN aI aF aB aA p2)) aN aI aF aB aA T6.heap n0 (Nat.le_trans (Nat.le_trans (Nat.le_trans Z0 K4q.1) K5q.1) K6q.1) (own_Kk (own_Kk (own_Kk B K4q) K5q) K6q)) hZ (hw _ (List.mem_of_getElem? (i := 27) rfl)) (hw _ (List.mem_of_getElem? (i := 2) rfl)) (by decide) (by decide)) (g := (mkF m 50 #[.val (.int p1), .val (.int p2), .val (.int p3), .val (.ref (own_k aN aI aF aB aA p1)), .val (.ref (own_k aN aI aF aB aA p2)), .val (.ref (own_k aN aI aF aB aA p3)), .val (.ref (own_orV aN aA (own_k aN aI aF aB aA p1) (own_k aN aI aF aB aA p2))), .val (.ref (own_orV aN aA (own_k aN aI aF aB aA p2) (own_k aN aI aF aB aA p1))), .unset, .unset] [(.ref (own_orV aN aA (own_k aN aI aF aB aA p1) (own_k aN aI aF aB aA p2))), (.ref (own_k aN aI aF aB aA p1))])) rfl (by rw [hml]; rfl) (argsL := [(.ref (own_k aN aI aF aB aA p1)), (.ref (own_orV aN aA (own_k aN aI aF aB aA p1) (own_k aN aI aF aB aA p2)))]) (rest := []) (lenOf pd_0_iii_2 rfl) rfl (by show 2 * 0 + _ ≤ _; exact Nat.le_of_eq rfl) (hb hby at_50) (fun _ _ => ⟨rfl, e8q, (by decide : 0 + 3 ≤ _), (by decide : 0 + 15 ≤ _)⟩)
  dsimp only [Pt.U, Pt.locs, Pt.cells, Pt.slots] at X9 l9 y9 z9 st9 hQ9
  subst l9 y9 z9
  obtain ⟨rfl, N9q, e9q⟩ := hQ9
  have N9 := Fr.app N8 N9q
  obtain ⟨_, _, ⟨T10, L10, k10, n10⟩, -, X10, ⟨Lc10, hQ10, l10, y10, z10⟩, st10⟩ := Jvm.LawKit.callS X9 hx (y := (⟨"org/graftloom/lua/KindOrPinLaw", "leq", "(Lorg/graftloom/lua/LocalTypes$Kind;Lorg/graftloom/lua/LocalTypes$Kind;)Z"⟩ : MethodName)) hown (mvT hZ (hw _ (List.mem_of_getElem? (i := 25) rfl))) (mvT hZ (hw _ (List.mem_of_getElem? (i := 26) rfl))) (mvT hZ (hw _ (List.mem_of_getElem? (i := 2) rfl))) (mvT hZ (hw _ (List.mem_of_getElem? (i := 27) rfl))) (by decide) (backOf (W := 0) (rm3 l Z a0 hw [] (own_k aN aI aF aB aA p2) (own_orV aN aA (own_k aN aI aF aB aA p1) (own_k aN aI aF aB aA p2)) aN aI aF aB aA T6.heap n0 (Nat.le_trans (Nat.le_trans (Nat.le_trans Z0 K4q.1) K5q.1) K6q.1) (own_Kk (own_Kk (own_Kk B K4q) K5q) K6q)) hZ (hw _ (List.mem_of_getElem? (i := 27) rfl)) (hw _ (List.mem_of_getElem? (i := 2) rfl)) (by decide) (by decide)) (g := (mkF m 60 #[.val (.int p1), .val (.int p2), .val (.int p3), .val (.ref (own_k aN aI aF aB aA p1)), .val (.ref (own_k aN aI aF aB aA p2)), .val (.ref (own_k aN aI aF aB aA p3)), .val (.ref (own_orV aN aA (own_k aN aI aF aB aA p1) (own_k aN aI aF aB aA p2))), .val (.ref (own_orV aN aA (own_k aN aI aF aB aA p2) (own_k aN aI aF aB aA p1))), .unset, .unset] [(.ref (own_orV aN aA (own_k aN aI aF aB aA p1) (own_k aN aI aF aB aA p2))), (.ref (own_k aN aI aF aB aA p2))])) rfl (by rw [hml]; rfl) (argsL := [(.ref (own_k aN aI aF aB aA p2)), (.ref (own_orV aN aA (own_k aN aI aF aB aA p1) (own_k aN aI aF aB aA p2)))]) (rest := []) (lenOf pd_0_iii_2 rfl) rfl (by show 2 * 0 + _ ≤ _; exact Nat.le_of_eq rfl) (hb hby at_60) (fun _ _ => ⟨rfl, e9q, (by decide : 0 + 3 ≤ _), (by decide : 0 + 15 ≤ _)⟩)
  dsimp only [Pt.U, Pt.locs, Pt.cells, Pt.slots] at X10 l10 y10 z10 st10 hQ10
  subst l10 y10 z10
  obtain ⟨rfl, N10q, e10q⟩ := hQ10
  have N10 := Fr.app N9 N10q
  obtain ⟨_, _, ⟨T11, L11, k11, n11⟩, -, X11, ⟨Lc11, hQ11, l11, y11, z11⟩, st11⟩ := Jvm.LawKit.callS X10 hx (y := (⟨"org/graftloom/lua/KindOrPinLaw", "leq", "(Lorg/graftloom/lua/LocalTypes$Kind;Lorg/graftloom/lua/LocalTypes$Kind;)Z"⟩ : MethodName)) hown (mvT hZ (hw _ (List.mem_of_getElem? (i := 25) rfl))) (mvT hZ (hw _ (List.mem_of_getElem? (i := 26) rfl))) (mvT hZ (hw _ (List.mem_of_getElem? (i := 2) rfl))) (mvT hZ (hw _ (List.mem_of_getElem? (i := 27) rfl))) (by decide) (backOf (W := 0) (rm3 l Z a0 hw [] (own_k aN aI aF aB aA p1) (own_k aN aI aF aB aA p3) aN aI aF aB aA T6.heap n0 (Nat.le_trans (Nat.le_trans (Nat.le_trans Z0 K4q.1) K5q.1) K6q.1) (own_Kk (own_Kk (own_Kk B K4q) K5q) K6q)) hZ (hw _ (List.mem_of_getElem? (i := 27) rfl)) (hw _ (List.mem_of_getElem? (i := 2) rfl)) (by decide) (by decide)) (g := (mkF m 76 #[.val (.int p1), .val (.int p2), .val (.int p3), .val (.ref (own_k aN aI aF aB aA p1)), .val (.ref (own_k aN aI aF aB aA p2)), .val (.ref (own_k aN aI aF aB aA p3)), .val (.ref (own_orV aN aA (own_k aN aI aF aB aA p1) (own_k aN aI aF aB aA p2))), .val (.ref (own_orV aN aA (own_k aN aI aF aB aA p2) (own_k aN aI aF aB aA p1))), .val (.int (1 : Int32)), .unset] [(.ref (own_k aN aI aF aB aA p3)), (.ref (own_k aN aI aF aB aA p1))])) rfl (by rw [hml]; rfl) (argsL := [(.ref (own_k aN aI aF aB aA p1)), (.ref (own_k aN aI aF aB aA p3))]) (rest := []) (lenOf pd_0_iii_2 rfl) rfl (by show 2 * 0 + _ ≤ _; exact Nat.le_of_eq rfl) (hb hby at_76) (fun _ _ => ⟨rfl, e10q, (by decide : 0 + 3 ≤ _), (by decide : 0 + 15 ≤ _)⟩)
  dsimp only [Pt.U, Pt.locs, Pt.cells, Pt.slots] at X11 l11 y11 z11 st11 hQ11
  subst l11 y11 z11
  obtain ⟨rfl, N11q, e11q⟩ := hQ11
  have N11 := Fr.app N10 N11q
  obtain ⟨_, _, ⟨T12, L12, k12, n12⟩, -, X12, ⟨Lc12, hQ12, l12, y12, z12⟩, st12⟩ := Jvm.LawKit.callS X11 hx (y := (⟨"org/graftloom/lua/KindOrPinLaw", "leq", "(Lorg/graftloom/lua/LocalTypes$Kind;Lorg/graftloom/lua/LocalTypes$Kind;)Z"⟩ : MethodName)) hown (mvT hZ (hw _ (List.mem_of_getElem? (i := 25) rfl))) (mvT hZ (hw _ (List.mem_of_getElem? (i := 26) rfl))) (mvT hZ (hw _ (List.mem_of_getElem? (i := 2) rfl))) (mvT hZ (hw _ (List.mem_of_getElem? (i := 27) rfl))) (by decide) (backOf (W := 0) (rm3 l Z a0 hw [] (own_k aN aI aF aB aA p2) (own_k aN aI aF aB aA p3) aN aI aF aB aA T6.heap n0 (Nat.le_trans (Nat.le_trans (Nat.le_trans Z0 K4q.1) K5q.1) K6q.1) (own_Kk (own_Kk (own_Kk B K4q) K5q) K6q)) hZ (hw _ (List.mem_of_getElem? (i := 27) rfl)) (hw _ (List.mem_of_getElem? (i := 2) rfl)) (by decide) (by decide)) (g := (mkF m 86 #[.val (.int p1), .val (.int p2), .val (.int p3), .val (.ref (own_k aN aI aF aB aA p1)), .val (.ref (own_k aN aI aF aB aA p2)), .val (.ref (own_k aN aI aF aB aA p3)), .val (.ref (own_orV aN aA (own_k aN aI aF aB aA p1) (own_k aN aI aF aB aA p2))), .val (.ref (own_orV aN aA (own_k aN aI aF aB aA p2) (own_k aN aI aF aB aA p1))), .val (.int (1 : Int32)), .unset] [(.ref (own_k aN aI aF aB aA p3)), (.ref (own_k aN aI aF aB aA p2))])) rfl (by rw [hml]; rfl) (argsL := [(.ref (own_k aN aI aF aB aA p2)), (.ref (own_k aN aI aF aB aA p3))]) (rest := []) (lenOf pd_0_iii_2 rfl) rfl (by show 2 * 0 + _ ≤ _; exact Nat.le_of_eq rfl) (hb hby at_86) (fun _ _ => ⟨rfl, e11q, (by decide : 0 + 3 ≤ _), (by decide : 0 + 15 ≤ _)⟩)
  dsimp only [Pt.U, Pt.locs, Pt.cells, Pt.slots] at X12 l12 y12 z12 st12 hQ12
  subst l12 y12 z12
  obtain ⟨rfl, N12q, e12q⟩ := hQ12
  have N12 := Fr.app N11 N12q
  obtain ⟨_, _, ⟨T13, L13, k13, n13⟩, -, X13, ⟨Lc13, hQ13, l13, y13, z13⟩, st13⟩ := Jvm.LawKit.callS X12 hx (y := (⟨"org/graftloom/lua/KindOrPinLaw", "leq", "(Lorg/graftloom/lua/LocalTypes$Kind;Lorg/graftloom/lua/LocalTypes$Kind;)Z"⟩ : MethodName)) hown (mvT hZ (hw _ (List.mem_of_getElem? (i := 25) rfl))) (mvT hZ (hw _ (List.mem_of_getElem? (i := 26) rfl))) (mvT hZ (hw _ (List.mem_of_getElem? (i := 2) rfl))) (mvT hZ (hw _ (List.mem_of_getElem? (i := 27) rfl))) (by decide) (backOf (W := 0) (rm3 l Z a0 hw [] (own_orV aN aA (own_k aN aI aF aB aA p1) (own_k aN aI aF aB aA p2)) (own_k aN aI aF aB aA p3) aN aI aF aB aA T6.heap n0 (Nat.le_trans (Nat.le_trans (Nat.le_trans Z0 K4q.1) K5q.1) K6q.1) (own_Kk (own_Kk (own_Kk B K4q) K5q) K6q)) hZ (hw _ (List.mem_of_getElem? (i := 27) rfl)) (hw _ (List.mem_of_getElem? (i := 2) rfl)) (by decide) (by decide)) (g := (mkF m 96 #[.val (.int p1), .val (.int p2), .val (.int p3), .val (.ref (own_k aN aI aF aB aA p1)), .val (.ref (own_k aN aI aF aB aA p2)), .val (.ref (own_k aN aI aF aB aA p3)), .val (.ref (own_orV aN aA (own_k aN aI aF aB aA p1) (own_k aN aI aF aB aA p2))), .val (.ref (own_orV aN aA (own_k aN aI aF aB aA p2) (own_k aN aI aF aB aA p1))), .val (.int (1 : Int32)), .unset] [(.ref (own_k aN aI aF aB aA p3)), (.ref (own_orV aN aA (own_k aN aI aF aB aA p1) (own_k aN aI aF aB aA p2)))])) rfl (by rw [hml]; rfl) (argsL := [(.ref (own_orV aN aA (own_k aN aI aF aB aA p1) (own_k aN aI aF aB aA p2))), (.ref (own_k aN aI aF aB aA p3))]) (rest := []) (lenOf pd_0_iii_2 rfl) rfl (by show 2 * 0 + _ ≤ _; exact Nat.le_of_eq rfl) (hb hby at_96) (fun _ _ => ⟨rfl, e12q, (by decide : 0 + 3 ≤ _), (by decide : 0 + 15 ≤ _)⟩)
  dsimp only [Pt.U, Pt.locs, Pt.cells, Pt.slots] at X13 l13 y13 z13 st13 hQ13
  subst l13 y13 z13
  obtain ⟨rfl, N13q, e13q⟩ := hQ13
  have N13 := Fr.app N12 N13q
  obtain ⟨fs, hr, hrun, hended, hW, hsame⟩ := X13.leave (v := some (.int (1 : Int32))) (fun h => by rw [Bd.returns] at h; cases h)
  refine ⟨_, _, pre0 _ ?_, hrun, hended, _, _, rfl, ?_, ⟨_, rfl⟩, hW, hsame.mono (by decide) (by decide)⟩
  · show Steps p.tables e below (s₁.setTop (mkF m 0 #[.val (.int p1), .val (.int p2), .val (.int p3), .unset, .unset, .unset, .unset, .unset, .unset, .unset] [])) _
    refine XS.iloadN X0.here hx rfl (hb hby at_0) rfl ?_
    show Steps p.tables e below (s₁.setTop (mkF m 1 #[.val (.int p1), .val (.int p2), .val (.int p3), .unset, .unset, .unset, .unset, .unset, .unset, .unset] [(.int p1)])) _
    refine st4 _ ?_
    show Steps p.tables e below (T4.setTop (mkF m 4 #[.val (.int p1), .val (.int p2), .val (.int p3), .unset, .unset, .unset, .unset, .unset, .unset, .unset] [(.ref (own_k aN aI aF aB aA p1))])) _
    refine XS.astoreN X4.here hx rfl (hb hby at_4) rfl rfl (l' := #[.val (.int p1), .val (.int p2), .val (.int p3), .val (.ref (own_k aN aI aF aB aA p1)), .unset, .unset, .unset, .unset, .unset, .unset]) rfl ?_
    show Steps p.tables e below (T4.setTop (mkF m 5 #[.val (.int p1), .val (.int p2), .val (.int p3), .val (.ref (own_k aN aI aF aB aA p1)), .unset, .unset, .unset, .unset, .unset, .unset] [])) _
    refine XS.iloadN X4.here hx rfl (hb hby at_5) rfl ?_
    show Steps p.tables e below (T4.setTop (mkF m 6 #[.val (.int p1), .val (.int p2), .val (.int p3), .val (.ref (own_k aN aI aF aB aA p1)), .unset, .unset, .unset, .unset, .unset, .unset] [(.int p2)])) _
    refine st5 _ ?_
    show Steps p.tables e below (T5.setTop (mkF m 9 #[.val (.int p1), .val (.int p2), .val (.int p3), .val (.ref (own_k aN aI aF aB aA p1)), .unset, .unset, .unset, .unset, .unset, .unset] [(.ref (own_k aN aI aF aB aA p2))])) _
    refine XS.astore X5.here hx rfl (hb hby at_9) rfl rfl (l' := #[.val (.int p1), .val (.int p2), .val (.int p3), .val (.ref (own_k aN aI aF aB aA p1)), .val (.ref (own_k aN aI aF aB aA p2)), .unset, .unset, .unset, .unset, .unset]) rfl ?_
    show Steps p.tables e below (T5.setTop (mkF m 11 #[.val (.int p1), .val (.int p2), .val (.int p3), .val (.ref (own_k aN aI aF aB aA p1)), .val (.ref (own_k aN aI aF aB aA p2)), .unset, .unset, .unset, .unset, .unset] [])) _
    refine XS.iloadN X5.here hx rfl (hb hby at_11) rfl ?_
    show Steps p.tables e below (T5.setTop (mkF m 12 #[.val (.int p1), .val (.int p2), .val (.int p3), .val (.ref (own_k aN aI aF aB aA p1)), .val (.ref (own_k aN aI aF aB aA p2)), .unset, .unset, .unset, .unset, .unset] [(.int p3)])) _
    refine st6 _ ?_
    show Steps p.tables e below (T6.setTop (mkF m 15 #[.val (.int p1), .val (.int p2), .val (.int p3), .val (.ref (own_k aN aI aF aB aA p1)), .val (.ref (own_k aN aI aF aB aA p2)), .unset, .unset, .unset, .unset, .unset] [(.ref (own_k aN aI aF aB aA p3))])) _
    refine XS.astore X6.here hx rfl (hb hby at_15) rfl rfl (l' := #[.val (.int p1), .val (.int p2), .val (.int p3), .val (.ref (own_k aN aI aF aB aA p1)), .val (.ref (own_k aN aI aF aB aA p2)), .val (.ref (own_k aN aI aF aB aA p3)), .unset, .unset, .unset, .unset]) rfl ?_
    show Steps p.tables e below (T6.setTop (mkF m 17 #[.val (.int p1), .val (.int p2), .val (.int p3), .val (.ref (own_k aN aI aF aB aA p1)), .val (.ref (own_k aN aI aF aB aA p2)), .val (.ref (own_k aN aI aF aB aA p3)), .unset, .unset, .unset, .unset] [])) _
    refine XS.aloadN X6.here hx rfl (hb hby at_17) rfl rfl ?_
    show Steps p.tables e below (T6.setTop (mkF m 18 #[.val (.int p1), .val (.int p2), .val (.int p3), .val (.ref (own_k aN aI aF aB aA p1)), .val (.ref (own_k aN aI aF aB aA p2)), .val (.ref (own_k aN aI aF aB aA p3)), .unset, .unset, .unset, .unset] [(.ref (own_k aN aI aF aB aA p1))])) _
    refine XS.aload X6.here hx rfl (hb hby at_18) rfl rfl ?_
    show Steps p.tables e below (T6.setTop (mkF m 20 #[.val (.int p1), .val (.int p2), .val (.int p3), .val (.ref (own_k aN aI aF aB aA p1)), .val (.ref (own_k aN aI aF aB aA p2)), .val (.ref (own_k aN aI aF aB aA p3)), .unset, .unset, .unset, .unset] [(.ref (own_k aN aI aF aB aA p2)), (.ref (own_k aN aI aF aB aA p1))])) _
    refine st7.trans ?_
    show Steps p.tables e below (T7.setTop (mkF m 23 #[.val (.int p1), .val (.int p2), .val (.int p3), .val (.ref (own_k aN aI aF aB aA p1)), .val (.ref (own_k aN aI aF aB aA p2)), .val (.ref (own_k aN aI aF aB aA p3)), .unset, .unset, .unset, .unset] [(.ref (own_orV aN aA (own_k aN aI aF aB aA p1) (own_k aN aI aF aB aA p2)))])) _
    refine XS.astore X7.here hx rfl (hb hby at_23) rfl rfl (l' := #[.val (.int p1), .val (.int p2), .val (.int p3), .val (.ref (own_k aN aI aF aB aA p1)), .val (.ref (own_k aN aI aF aB aA p2)), .val (.ref (own_k aN aI aF aB aA p3)), .val (.ref (own_orV aN aA (own_k aN aI aF aB aA p1) (own_k aN aI aF aB aA p2))), .unset, .unset, .unset]) rfl ?_
    show Steps p.tables e below (T7.setTop (mkF m 25 #[.val (.int p1), .val (.int p2), .val (.int p3), .val (.ref (own_k aN aI aF aB aA p1)), .val (.ref (own_k aN aI aF aB aA p2)), .val (.ref (own_k aN aI aF aB aA p3)), .val (.ref (own_orV aN aA (own_k aN aI aF aB aA p1) (own_k aN aI aF aB aA p2))), .unset, .unset, .unset] [])) _
    refine XS.aload X7.here hx rfl (hb hby at_25) rfl rfl ?_
    show Steps p.tables e below (T7.setTop (mkF m 27 #[.val (.int p1), .val (.int p2), .val (.int p3), .val (.ref (own_k aN aI aF aB aA p1)), .val (.ref (own_k aN aI aF aB aA p2)), .val (.ref (own_k aN aI aF aB aA p3)), .val (.ref (own_orV aN aA (own_k aN aI aF aB aA p1) (own_k aN aI aF aB aA p2))), .unset, .unset, .unset] [(.ref (own_k aN aI aF aB aA p2))])) _
    refine XS.aloadN X7.here hx rfl (hb hby at_27) rfl rfl ?_
    show Steps p.tables e below (T7.setTop (mkF m 28 #[.val (.int p1), .val (.int p2), .val (.int p3), .val (.ref (own_k aN aI aF aB aA p1)), .val (.ref (own_k aN aI aF aB aA p2)), .val (.ref (own_k aN aI aF aB aA p3)), .val (.ref (own_orV aN aA (own_k aN aI aF aB aA p1) (own_k aN aI aF aB aA p2))), .unset, .unset, .unset] [(.ref (own_k aN aI aF aB aA p1)), (.ref (own_k aN aI aF aB aA p2))])) _
    refine st8.trans ?_
    show Steps p.tables e below (T8.setTop (mkF m 31 #[.val (.int p1), .val (.int p2), .val (.int p3), .val (.ref (own_k aN aI aF aB aA p1)), .val (.ref (own_k aN aI aF aB aA p2)), .val (.ref (own_k aN aI aF aB aA p3)), .val (.ref (own_orV aN aA (own_k aN aI aF aB aA p1) (own_k aN aI aF aB aA p2))), .unset, .unset, .unset] [(.ref (own_orV aN aA (own_k aN aI aF aB aA p2) (own_k aN aI aF aB aA p1)))])) _
    refine XS.astore X8.here hx rfl (hb hby at_31) rfl rfl (l' := #[.val (.int p1), .val (.int p2), .val (.int p3), .val (.ref (own_k aN aI aF aB aA p1)), .val (.ref (own_k aN aI aF aB aA p2)), .val (.ref (own_k aN aI aF aB aA p3)), .val (.ref (own_orV aN aA (own_k aN aI aF aB aA p1) (own_k aN aI aF aB aA p2))), .val (.ref (own_orV aN aA (own_k aN aI aF aB aA p2) (own_k aN aI aF aB aA p1))), .unset, .unset]) rfl ?_
    show Steps p.tables e below (T8.setTop (mkF m 33 #[.val (.int p1), .val (.int p2), .val (.int p3), .val (.ref (own_k aN aI aF aB aA p1)), .val (.ref (own_k aN aI aF aB aA p2)), .val (.ref (own_k aN aI aF aB aA p3)), .val (.ref (own_orV aN aA (own_k aN aI aF aB aA p1) (own_k aN aI aF aB aA p2))), .val (.ref (own_orV aN aA (own_k aN aI aF aB aA p2) (own_k aN aI aF aB aA p1))), .unset, .unset] [])) _
    refine XS.aload X8.here hx rfl (hb hby at_33) rfl rfl ?_
    show Steps p.tables e below (T8.setTop (mkF m 35 #[.val (.int p1), .val (.int p2), .val (.int p3), .val (.ref (own_k aN aI aF aB aA p1)), .val (.ref (own_k aN aI aF aB aA p2)), .val (.ref (own_k aN aI aF aB aA p3)), .val (.ref (own_orV aN aA (own_k aN aI aF aB aA p1) (own_k aN aI aF aB aA p2))), .val (.ref (own_orV aN aA (own_k aN aI aF aB aA p2) (own_k aN aI aF aB aA p1))), .unset, .unset] [(.ref (own_orV aN aA (own_k aN aI aF aB aA p1) (own_k aN aI aF aB aA p2)))])) _
    refine XS.ifnullNo X8.here hx rfl (hb hby at_35) rfl ?_
    show Steps p.tables e below (T8.setTop (mkF m 38 #[.val (.int p1), .val (.int p2), .val (.int p3), .val (.ref (own_k aN aI aF aB aA p1)), .val (.ref (own_k aN aI aF aB aA p2)), .val (.ref (own_k aN aI aF aB aA p3)), .val (.ref (own_orV aN aA (own_k aN aI aF aB aA p1) (own_k aN aI aF aB aA p2))), .val (.ref (own_orV aN aA (own_k aN aI aF aB aA p2) (own_k aN aI aF aB aA p1))), .unset, .unset] [])) _
    refine XS.aload X8.here hx rfl (hb hby at_38) rfl rfl ?_
    show Steps p.tables e below (T8.setTop (mkF m 40 #[.val (.int p1), .val (.int p2), .val (.int p3), .val (.ref (own_k aN aI aF aB aA p1)), .val (.ref (own_k aN aI aF aB aA p2)), .val (.ref (own_k aN aI aF aB aA p3)), .val (.ref (own_orV aN aA (own_k aN aI aF aB aA p1) (own_k aN aI aF aB aA p2))), .val (.ref (own_orV aN aA (own_k aN aI aF aB aA p2) (own_k aN aI aF aB aA p1))), .unset, .unset] [(.ref (own_orV aN aA (own_k aN aI aF aB aA p1) (own_k aN aI aF aB aA p2)))])) _
    refine XS.aload X8.here hx rfl (hb hby at_40) rfl rfl ?_
    show Steps p.tables e below (T8.setTop (mkF m 42 #[.val (.int p1), .val (.int p2), .val (.int p3), .val (.ref (own_k aN aI aF aB aA p1)), .val (.ref (own_k aN aI aF aB aA p2)), .val (.ref (own_k aN aI aF aB aA p3)), .val (.ref (own_orV aN aA (own_k aN aI aF aB aA p1) (own_k aN aI aF aB aA p2))), .val (.ref (own_orV aN aA (own_k aN aI aF aB aA p2) (own_k aN aI aF aB aA p1))), .unset, .unset] [(.ref (own_orV aN aA (own_k aN aI aF aB aA p2) (own_k aN aI aF aB aA p1))), (.ref (own_orV aN aA (own_k aN aI aF aB aA p1) (own_k aN aI aF aB aA p2)))])) _
    refine Jvm.RoadKit.acmp (g := (mkF m 42 #[.val (.int p1), .val (.int p2), .val (.int p3), .val (.ref (own_k aN aI aF aB aA p1)), .val (.ref (own_k aN aI aF aB aA p2)), .val (.ref (own_k aN aI aF aB aA p3)), .val (.ref (own_orV aN aA (own_k aN aI aF aB aA p1) (own_k aN aI aF aB aA p2))), .val (.ref (own_orV aN aA (own_k aN aI aF aB aA p2) (own_k aN aI aF aB aA p1))), .unset, .unset] [(.ref (own_orV aN aA (own_k aN aI aF aB aA p2) (own_k aN aI aF aB aA p1))), (.ref (own_orV aN aA (own_k aN aI aF aB aA p1) (own_k aN aI aF aB aA p2)))])) X8 hx rfl rfl rfl (pc0 := 42) (pc' := 47) (same := true) rfl (hb hby at_42) rfl (decide_eq_true (congrArg Value.ref (own_l1 aN aA (own_k aN aI aF aB aA p1) (own_k aN aI aF aB aA p2)))) (by decide) (by decide) ?_
    show Steps p.tables e below (T8.setTop (mkF m 47 #[.val (.int p1), .val (.int p2), .val (.int p3), .val (.ref (own_k aN aI aF aB aA p1)), .val (.ref (own_k aN aI aF aB aA p2)), .val (.ref (own_k aN aI aF aB aA p3)), .val (.ref (own_orV aN aA (own_k aN aI aF aB aA p1) (own_k aN aI aF aB aA p2))), .val (.ref (own_orV aN aA (own_k aN aI aF aB aA p2) (own_k aN aI aF aB aA p1))), .unset, .unset] [])) _
    refine XS.aloadN X8.here hx rfl (hb hby at_47) rfl rfl ?_
    show Steps p.tables e below (T8.setTop (mkF m 48 #[.val (.int p1), .val (.int p2), .val (.int p3), .val (.ref (own_k aN aI aF aB aA p1)), .val (.ref (own_k aN aI aF aB aA p2)), .val (.ref (own_k aN aI aF aB aA p3)), .val (.ref (own_orV aN aA (own_k aN aI aF aB aA p1) (own_k aN aI aF aB aA p2))), .val (.ref (own_orV aN aA (own_k aN aI aF aB aA p2) (own_k aN aI aF aB aA p1))), .unset, .unset] [(.ref (own_k aN aI aF aB aA p1))])) _
    refine XS.aload X8.here hx rfl (hb hby at_48) rfl rfl ?_
    show Steps p.tables e below (T8.setTop (mkF m 50 #[.val (.int p1), .val (.int p2), .val (.int p3), .val (.ref (own_k aN aI aF aB aA p1)), .val (.ref (own_k aN aI aF aB aA p2)), .val (.ref (own_k aN aI aF aB aA p3)), .val (.ref (own_orV aN aA (own_k aN aI aF aB aA p1) (own_k aN aI aF aB aA p2))), .val (.ref (own_orV aN aA (own_k aN aI aF aB aA p2) (own_k aN aI aF aB aA p1))), .unset, .unset] [(.ref (own_orV aN aA (own_k aN aI aF aB aA p1) (own_k aN aI aF aB aA p2))), (.ref (own_k aN aI aF aB aA p1))])) _
    refine st9 _ ?_
    show Steps p.tables e below (T9.setTop (mkF m 53 #[.val (.int p1), .val (.int p2), .val (.int p3), .val (.ref (own_k aN aI aF aB aA p1)), .val (.ref (own_k aN aI aF aB aA p2)), .val (.ref (own_k aN aI aF aB aA p3)), .val (.ref (own_orV aN aA (own_k aN aI aF aB aA p1) (own_k aN aI aF aB aA p2))), .val (.ref (own_orV aN aA (own_k aN aI aF aB aA p2) (own_k aN aI aF aB aA p1))), .unset, .unset] [(.int (own_leq aN aA (own_k aN aI aF aB aA p1) (own_orV aN aA (own_k aN aI aF aB aA p1) (own_k aN aI aF aB aA p2))))])) _
    refine XS.ifNo X9.here hx rfl (hb hby at_53) rfl ((if0 _ _).trans (feq (own_l2 aN aA (own_k aN aI aF aB aA p1) (own_k aN aI aF aB aA p2) : ¬ ((own_leq aN aA (own_k aN aI aF aB aA p1) (own_orV aN aA (own_k aN aI aF aB aA p1) (own_k aN aI aF aB aA p2))) = (0 : Int32)))).1) ?_
    show Steps p.tables e below (T9.setTop (mkF m 56 #[.val (.int p1), .val (.int p2), .val (.int p3), .val (.ref (own_k aN aI aF aB aA p1)), .val (.ref (own_k aN aI aF aB aA p2)), .val (.ref (own_k aN aI aF aB aA p3)), .val (.ref (own_orV aN aA (own_k aN aI aF aB aA p1) (own_k aN aI aF aB aA p2))), .val (.ref (own_orV aN aA (own_k aN aI aF aB aA p2) (own_k aN aI aF aB aA p1))), .unset, .unset] [])) _
    refine XS.aload X9.here hx rfl (hb hby at_56) rfl rfl ?_
    show Steps p.tables e below (T9.setTop (mkF m 58 #[.val (.int p1), .val (.int p2), .val (.int p3), .val (.ref (own_k aN aI aF aB aA p1)), .val (.ref (own_k aN aI aF aB aA p2)), .val (.ref (own_k aN aI aF aB aA p3)), .val (.ref (own_orV aN aA (own_k aN aI aF aB aA p1) (own_k aN aI aF aB aA p2))), .val (.ref (own_orV aN aA (own_k aN aI aF aB aA p2) (own_k aN aI aF aB aA p1))), .unset, .unset] [(.ref (own_k aN aI aF aB aA p2))])) _
    refine XS.aload X9.here hx rfl (hb hby at_58) rfl rfl ?_
    show Steps p.tables e below (T9.setTop (mkF m 60 #[.val (.int p1), .val (.int p2), .val (.int p3), .val (.ref (own_k aN aI aF aB aA p1)), .val (.ref (own_k aN aI aF aB aA p2)), .val (.ref (own_k aN aI aF aB aA p3)), .val (.ref (own_orV aN aA (own_k aN aI aF aB aA p1) (own_k aN aI aF aB aA p2))), .val (.ref (own_orV aN aA (own_k aN aI aF aB aA p2) (own_k aN aI aF aB aA p1))), .unset, .unset] [(.ref (own_orV aN aA (own_k aN aI aF aB aA p1) (own_k aN aI aF aB aA p2))), (.ref (own_k aN aI aF aB aA p2))])) _
    refine st10 _ ?_
    show Steps p.tables e below (T10.setTop (mkF m 63 #[.val (.int p1), .val (.int p2), .val (.int p3), .val (.ref (own_k aN aI aF aB aA p1)), .val (.ref (own_k aN aI aF aB aA p2)), .val (.ref (own_k aN aI aF aB aA p3)), .val (.ref (own_orV aN aA (own_k aN aI aF aB aA p1) (own_k aN aI aF aB aA p2))), .val (.ref (own_orV aN aA (own_k aN aI aF aB aA p2) (own_k aN aI aF aB aA p1))), .unset, .unset] [(.int (own_leq aN aA (own_k aN aI aF aB aA p2) (own_orV aN aA (own_k aN aI aF aB aA p1) (own_k aN aI aF aB aA p2))))])) _
    refine XS.ifNo X10.here hx rfl (hb hby at_63) rfl ((if0 _ _).trans (feq (own_l3 aN aA (own_k aN aI aF aB aA p1) (own_k aN aI aF aB aA p2) : ¬ ((own_leq aN aA (own_k aN aI aF aB aA p2) (own_orV aN aA (own_k aN aI aF aB aA p1) (own_k aN aI aF aB aA p2))) = (0 : Int32)))).1) ?_
    show Steps p.tables e below (T10.setTop (mkF m 66 #[.val (.int p1), .val (.int p2), .val (.int p3), .val (.ref (own_k aN aI aF aB aA p1)), .val (.ref (own_k aN aI aF aB aA p2)), .val (.ref (own_k aN aI aF aB aA p3)), .val (.ref (own_orV aN aA (own_k aN aI aF aB aA p1) (own_k aN aI aF aB aA p2))), .val (.ref (own_orV aN aA (own_k aN aI aF aB aA p2) (own_k aN aI aF aB aA p1))), .unset, .unset] [])) _
    refine XS.iconst X10.here hx rfl (hb hby at_66) ?_
    show Steps p.tables e below (T10.setTop (mkF m 67 #[.val (.int p1), .val (.int p2), .val (.int p3), .val (.ref (own_k aN aI aF aB aA p1)), .val (.ref (own_k aN aI aF aB aA p2)), .val (.ref (own_k aN aI aF aB aA p3)), .val (.ref (own_orV aN aA (own_k aN aI aF aB aA p1) (own_k aN aI aF aB aA p2))), .val (.ref (own_orV aN aA (own_k aN aI aF aB aA p2) (own_k aN aI aF aB aA p1))), .unset, .unset] [(.int (1 : Int32))])) _
    refine XS.goto X10.here hx rfl (pc0 := 67) (pc' := 71) rfl (hb hby at_67) (by decide) (by decide) ?_
    show Steps p.tables e below (T10.setTop (mkF m 71 #[.val (.int p1), .val (.int p2), .val (.int p3), .val (.ref (own_k aN aI aF aB aA p1)), .val (.ref (own_k aN aI aF aB aA p2)), .val (.ref (own_k aN aI aF aB aA p3)), .val (.ref (own_orV aN aA (own_k aN aI aF aB aA p1) (own_k aN aI aF aB aA p2))), .val (.ref (own_orV aN aA (own_k aN aI aF aB aA p2) (own_k aN aI aF aB aA p1))), .unset, .unset] [(.int (1 : Int32))])) _
    refine XS.istore X10.here hx rfl (hb hby at_71) rfl (l' := #[.val (.int p1), .val (.int p2), .val (.int p3), .val (.ref (own_k aN aI aF aB aA p1)), .val (.ref (own_k aN aI aF aB aA p2)), .val (.ref (own_k aN aI aF aB aA p3)), .val (.ref (own_orV aN aA (own_k aN aI aF aB aA p1) (own_k aN aI aF aB aA p2))), .val (.ref (own_orV aN aA (own_k aN aI aF aB aA p2) (own_k aN aI aF aB aA p1))), .val (.int (1 : Int32)), .unset]) rfl ?_
    show Steps p.tables e below (T10.setTop (mkF m 73 #[.val (.int p1), .val (.int p2), .val (.int p3), .val (.ref (own_k aN aI aF aB aA p1)), .val (.ref (own_k aN aI aF aB aA p2)), .val (.ref (own_k aN aI aF aB aA p3)), .val (.ref (own_orV aN aA (own_k aN aI aF aB aA p1) (own_k aN aI aF aB aA p2))), .val (.ref (own_orV aN aA (own_k aN aI aF aB aA p2) (own_k aN aI aF aB aA p1))), .val (.int (1 : Int32)), .unset] [])) _
    refine XS.aloadN X10.here hx rfl (hb hby at_73) rfl rfl ?_
    show Steps p.tables e below (T10.setTop (mkF m 74 #[.val (.int p1), .val (.int p2), .val (.int p3), .val (.ref (own_k aN aI aF aB aA p1)), .val (.ref (own_k aN aI aF aB aA p2)), .val (.ref (own_k aN aI aF aB aA p3)), .val (.ref (own_orV aN aA (own_k aN aI aF aB aA p1) (own_k aN aI aF aB aA p2))), .val (.ref (own_orV aN aA (own_k aN aI aF aB aA p2) (own_k aN aI aF aB aA p1))), .val (.int (1 : Int32)), .unset] [(.ref (own_k aN aI aF aB aA p1))])) _
    refine XS.aload X10.here hx rfl (hb hby at_74) rfl rfl ?_
    show Steps p.tables e below (T10.setTop (mkF m 76 #[.val (.int p1), .val (.int p2), .val (.int p3), .val (.ref (own_k aN aI aF aB aA p1)), .val (.ref (own_k aN aI aF aB aA p2)), .val (.ref (own_k aN aI aF aB aA p3)), .val (.ref (own_orV aN aA (own_k aN aI aF aB aA p1) (own_k aN aI aF aB aA p2))), .val (.ref (own_orV aN aA (own_k aN aI aF aB aA p2) (own_k aN aI aF aB aA p1))), .val (.int (1 : Int32)), .unset] [(.ref (own_k aN aI aF aB aA p3)), (.ref (own_k aN aI aF aB aA p1))])) _
    refine st11 _ ?_
    show Steps p.tables e below (T11.setTop (mkF m 79 #[.val (.int p1), .val (.int p2), .val (.int p3), .val (.ref (own_k aN aI aF aB aA p1)), .val (.ref (own_k aN aI aF aB aA p2)), .val (.ref (own_k aN aI aF aB aA p3)), .val (.ref (own_orV aN aA (own_k aN aI aF aB aA p1) (own_k aN aI aF aB aA p2))), .val (.ref (own_orV aN aA (own_k aN aI aF aB aA p2) (own_k aN aI aF aB aA p1))), .val (.int (1 : Int32)), .unset] [(.int (own_leq aN aA (own_k aN aI aF aB aA p1) (own_k aN aI aF aB aA p3)))])) _
    refine XS.ifNo X11.here hx rfl (hb hby at_79) rfl ((if0 _ _).trans (feq (hA : ¬ ((own_leq aN aA (own_k aN aI aF aB aA p1) (own_k aN aI aF aB aA p3)) = (0 : Int32)))).1) ?_
    show Steps p.tables e below (T11.setTop (mkF m 82 #[.val (.int p1), .val (.int p2), .val (.int p3), .val (.ref (own_k aN aI aF aB aA p1)), .val (.ref (own_k aN aI aF aB aA p2)), .val (.ref (own_k aN aI aF aB aA p3)), .val (.ref (own_orV aN aA (own_k aN aI aF aB aA p1) (own_k aN aI aF aB aA p2))), .val (.ref (own_orV aN aA (own_k aN aI aF aB aA p2) (own_k aN aI aF aB aA p1))), .val (.int (1 : Int32)), .unset] [])) _
    refine XS.aload X11.here hx rfl (hb hby at_82) rfl rfl ?_
    show Steps p.tables e below (T11.setTop (mkF m 84 #[.val (.int p1), .val (.int p2), .val (.int p3), .val (.ref (own_k aN aI aF aB aA p1)), .val (.ref (own_k aN aI aF aB aA p2)), .val (.ref (own_k aN aI aF aB aA p3)), .val (.ref (own_orV aN aA (own_k aN aI aF aB aA p1) (own_k aN aI aF aB aA p2))), .val (.ref (own_orV aN aA (own_k aN aI aF aB aA p2) (own_k aN aI aF aB aA p1))), .val (.int (1 : Int32)), .unset] [(.ref (own_k aN aI aF aB aA p2))])) _
    refine XS.aload X11.here hx rfl (hb hby at_84) rfl rfl ?_
    show Steps p.tables e below (T11.setTop (mkF m 86 #[.val (.int p1), .val (.int p2), .val (.int p3), .val (.ref (own_k aN aI aF aB aA p1)), .val (.ref (own_k aN aI aF aB aA p2)), .val (.ref (own_k aN aI aF aB aA p3)), .val (.ref (own_orV aN aA (own_k aN aI aF aB aA p1) (own_k aN aI aF aB aA p2))), .val (.ref (own_orV aN aA (own_k aN aI aF aB aA p2) (own_k aN aI aF aB aA p1))), .val (.int (1 : Int32)), .unset] [(.ref (own_k aN aI aF aB aA p3)), (.ref (own_k aN aI aF aB aA p2))])) _
    refine st12 _ ?_
    show Steps p.tables e below (T12.setTop (mkF m 89 #[.val (.int p1), .val (.int p2), .val (.int p3), .val (.ref (own_k aN aI aF aB aA p1)), .val (.ref (own_k aN aI aF aB aA p2)), .val (.ref (own_k aN aI aF aB aA p3)), .val (.ref (own_orV aN aA (own_k aN aI aF aB aA p1) (own_k aN aI aF aB aA p2))), .val (.ref (own_orV aN aA (own_k aN aI aF aB aA p2) (own_k aN aI aF aB aA p1))), .val (.int (1 : Int32)), .unset] [(.int (own_leq aN aA (own_k aN aI aF aB aA p2) (own_k aN aI aF aB aA p3)))])) _
    refine XS.ifNo X12.here hx rfl (hb hby at_89) rfl ((if0 _ _).trans (feq (hB : ¬ ((own_leq aN aA (own_k aN aI aF aB aA p2) (own_k aN aI aF aB aA p3)) = (0 : Int32)))).1) ?_
    show Steps p.tables e below (T12.setTop (mkF m 92 #[.val (.int p1), .val (.int p2), .val (.int p3), .val (.ref (own_k aN aI aF aB aA p1)), .val (.ref (own_k aN aI aF aB aA p2)), .val (.ref (own_k aN aI aF aB aA p3)), .val (.ref (own_orV aN aA (own_k aN aI aF aB aA p1) (own_k aN aI aF aB aA p2))), .val (.ref (own_orV aN aA (own_k aN aI aF aB aA p2) (own_k aN aI aF aB aA p1))), .val (.int (1 : Int32)), .unset] [])) _
    refine XS.aload X12.here hx rfl (hb hby at_92) rfl rfl ?_
    show Steps p.tables e below (T12.setTop (mkF m 94 #[.val (.int p1), .val (.int p2), .val (.int p3), .val (.ref (own_k aN aI aF aB aA p1)), .val (.ref (own_k aN aI aF aB aA p2)), .val (.ref (own_k aN aI aF aB aA p3)), .val (.ref (own_orV aN aA (own_k aN aI aF aB aA p1) (own_k aN aI aF aB aA p2))), .val (.ref (own_orV aN aA (own_k aN aI aF aB aA p2) (own_k aN aI aF aB aA p1))), .val (.int (1 : Int32)), .unset] [(.ref (own_orV aN aA (own_k aN aI aF aB aA p1) (own_k aN aI aF aB aA p2)))])) _
    refine XS.aload X12.here hx rfl (hb hby at_94) rfl rfl ?_
    show Steps p.tables e below (T12.setTop (mkF m 96 #[.val (.int p1), .val (.int p2), .val (.int p3), .val (.ref (own_k aN aI aF aB aA p1)), .val (.ref (own_k aN aI aF aB aA p2)), .val (.ref (own_k aN aI aF aB aA p3)), .val (.ref (own_orV aN aA (own_k aN aI aF aB aA p1) (own_k aN aI aF aB aA p2))), .val (.ref (own_orV aN aA (own_k aN aI aF aB aA p2) (own_k aN aI aF aB aA p1))), .val (.int (1 : Int32)), .unset] [(.ref (own_k aN aI aF aB aA p3)), (.ref (own_orV aN aA (own_k aN aI aF aB aA p1) (own_k aN aI aF aB aA p2)))])) _
    refine st13 _ ?_
    show Steps p.tables e below (T13.setTop (mkF m 99 #[.val (.int p1), .val (.int p2), .val (.int p3), .val (.ref (own_k aN aI aF aB aA p1)), .val (.ref (own_k aN aI aF aB aA p2)), .val (.ref (own_k aN aI aF aB aA p3)), .val (.ref (own_orV aN aA (own_k aN aI aF aB aA p1) (own_k aN aI aF aB aA p2))), .val (.ref (own_orV aN aA (own_k aN aI aF aB aA p2) (own_k aN aI aF aB aA p1))), .val (.int (1 : Int32)), .unset] [(.int (own_leq aN aA (own_orV aN aA (own_k aN aI aF aB aA p1) (own_k aN aI aF aB aA p2)) (own_k aN aI aF aB aA p3)))])) _
    refine XS.ifNo X13.here hx rfl (hb hby at_99) rfl ((if0 _ _).trans (feq (own_l4 aN aA (own_k aN aI aF aB aA p1) (own_k aN aI aF aB aA p2) (own_k aN aI aF aB aA p3) hA hB : ¬ ((own_leq aN aA (own_orV aN aA (own_k aN aI aF aB aA p1) (own_k aN aI aF aB aA p2)) (own_k aN aI aF aB aA p3)) = (0 : Int32)))).1) ?_
    show Steps p.tables e below (T13.setTop (mkF m 102 #[.val (.int p1), .val (.int p2), .val (.int p3), .val (.ref (own_k aN aI aF aB aA p1)), .val (.ref (own_k aN aI aF aB aA p2)), .val (.ref (own_k aN aI aF aB aA p3)), .val (.ref (own_orV aN aA (own_k aN aI aF aB aA p1) (own_k aN aI aF aB aA p2))), .val (.ref (own_orV aN aA (own_k aN aI aF aB aA p2) (own_k aN aI aF aB aA p1))), .val (.int (1 : Int32)), .unset] [])) _
    refine XS.iconst X13.here hx rfl (hb hby at_102) ?_
    show Steps p.tables e below (T13.setTop (mkF m 103 #[.val (.int p1), .val (.int p2), .val (.int p3), .val (.ref (own_k aN aI aF aB aA p1)), .val (.ref (own_k aN aI aF aB aA p2)), .val (.ref (own_k aN aI aF aB aA p3)), .val (.ref (own_orV aN aA (own_k aN aI aF aB aA p1) (own_k aN aI aF aB aA p2))), .val (.ref (own_orV aN aA (own_k aN aI aF aB aA p2) (own_k aN aI aF aB aA p1))), .val (.int (1 : Int32)), .unset] [(.int (1 : Int32))])) _
    refine XS.goto X13.here hx rfl (pc0 := 103) (pc' := 107) rfl (hb hby at_103) (by decide) (by decide) ?_
    show Steps p.tables e below (T13.setTop (mkF m 107 #[.val (.int p1), .val (.int p2), .val (.int p3), .val (.ref (own_k aN aI aF aB aA p1)), .val (.ref (own_k aN aI aF aB aA p2)), .val (.ref (own_k aN aI aF aB aA p3)), .val (.ref (own_orV aN aA (own_k aN aI aF aB aA p1) (own_k aN aI aF aB aA p2))), .val (.ref (own_orV aN aA (own_k aN aI aF aB aA p2) (own_k aN aI aF aB aA p1))), .val (.int (1 : Int32)), .unset] [(.int (1 : Int32))])) _
    refine XS.istore X13.here hx rfl (hb hby at_107) rfl (l' := #[.val (.int p1), .val (.int p2), .val (.int p3), .val (.ref (own_k aN aI aF aB aA p1)), .val (.ref (own_k aN aI aF aB aA p2)), .val (.ref (own_k aN aI aF aB aA p3)), .val (.ref (own_orV aN aA (own_k aN aI aF aB aA p1) (own_k aN aI aF aB aA p2))), .val (.ref (own_orV aN aA (own_k aN aI aF aB aA p2) (own_k aN aI aF aB aA p1))), .val (.int (1 : Int32)), .val (.int (1 : Int32))]) rfl ?_
    show Steps p.tables e below (T13.setTop (mkF m 109 #[.val (.int p1), .val (.int p2), .val (.int p3), .val (.ref (own_k aN aI aF aB aA p1)), .val (.ref (own_k aN aI aF aB aA p2)), .val (.ref (own_k aN aI aF aB aA p3)), .val (.ref (own_orV aN aA (own_k aN aI aF aB aA p1) (own_k aN aI aF aB aA p2))), .val (.ref (own_orV aN aA (own_k aN aI aF aB aA p2) (own_k aN aI aF aB aA p1))), .val (.int (1 : Int32)), .val (.int (1 : Int32))] [])) _
    refine XS.iload X13.here hx rfl (hb hby at_109) rfl ?_
    show Steps p.tables e below (T13.setTop (mkF m 111 #[.val (.int p1), .val (.int p2), .val (.int p3), .val (.ref (own_k aN aI aF aB aA p1)), .val (.ref (own_k aN aI aF aB aA p2)), .val (.ref (own_k aN aI aF aB aA p3)), .val (.ref (own_orV aN aA (own_k aN aI aF aB aA p1) (own_k aN aI aF aB aA p2))), .val (.ref (own_orV aN aA (own_k aN aI aF aB aA p2) (own_k aN aI aF aB aA p1))), .val (.int (1 : Int32)), .val (.int (1 : Int32))] [(.int (1 : Int32))])) _
    refine XS.ifNo X13.here hx rfl (hb hby at_111) rfl ((if0 _ _).trans (feq (by decide)).1) ?_
    show Steps p.tables e below (T13.setTop (mkF m 114 #[.val (.int p1), .val (.int p2), .val (.int p3), .val (.ref (own_k aN aI aF aB aA p1)), .val (.ref (own_k aN aI aF aB aA p2)), .val (.ref (own_k aN aI aF aB aA p3)), .val (.ref (own_orV aN aA (own_k aN aI aF aB aA p1) (own_k aN aI aF aB aA p2))), .val (.ref (own_orV aN aA (own_k aN aI aF aB aA p2) (own_k aN aI aF aB aA p1))), .val (.int (1 : Int32)), .val (.int (1 : Int32))] [])) _
    refine XS.iload X13.here hx rfl (hb hby at_114) rfl ?_
    show Steps p.tables e below (T13.setTop (mkF m 116 #[.val (.int p1), .val (.int p2), .val (.int p3), .val (.ref (own_k aN aI aF aB aA p1)), .val (.ref (own_k aN aI aF aB aA p2)), .val (.ref (own_k aN aI aF aB aA p3)), .val (.ref (own_orV aN aA (own_k aN aI aF aB aA p1) (own_k aN aI aF aB aA p2))), .val (.ref (own_orV aN aA (own_k aN aI aF aB aA p2) (own_k aN aI aF aB aA p1))), .val (.int (1 : Int32)), .val (.int (1 : Int32))] [(.int (1 : Int32))])) _
    refine XS.ifNo X13.here hx rfl (hb hby at_116) rfl ((if0 _ _).trans (feq (by decide)).1) ?_
    show Steps p.tables e below (T13.setTop (mkF m 119 #[.val (.int p1), .val (.int p2), .val (.int p3), .val (.ref (own_k aN aI aF aB aA p1)), .val (.ref (own_k aN aI aF aB aA p2)), .val (.ref (own_k aN aI aF aB aA p3)), .val (.ref (own_orV aN aA (own_k aN aI aF aB aA p1) (own_k aN aI aF aB aA p2))), .val (.ref (own_orV aN aA (own_k aN aI aF aB aA p2) (own_k aN aI aF aB aA p1))), .val (.int (1 : Int32)), .val (.int (1 : Int32))] [])) _
    refine XS.iconst X13.here hx rfl (hb hby at_119) ?_
    show Steps p.tables e below (T13.setTop (mkF m 120 #[.val (.int p1), .val (.int p2), .val (.int p3), .val (.ref (own_k aN aI aF aB aA p1)), .val (.ref (own_k aN aI aF aB aA p2)), .val (.ref (own_k aN aI aF aB aA p3)), .val (.ref (own_orV aN aA (own_k aN aI aF aB aA p1) (own_k aN aI aF aB aA p2))), .val (.ref (own_orV aN aA (own_k aN aI aF aB aA p2) (own_k aN aI aF aB aA p1))), .val (.int (1 : Int32)), .val (.int (1 : Int32))] [(.int (1 : Int32))])) _
    refine XS.goto X13.here hx rfl (pc0 := 120) (pc' := 124) rfl (hb hby at_120) (by decide) (by decide) ?_
    show Steps p.tables e below (T13.setTop (mkF m 124 #[.val (.int p1), .val (.int p2), .val (.int p3), .val (.ref (own_k aN aI aF aB aA p1)), .val (.ref (own_k aN aI aF aB aA p2)), .val (.ref (own_k aN aI aF aB aA p3)), .val (.ref (own_orV aN aA (own_k aN aI aF aB aA p1) (own_k aN aI aF aB aA p2))), .val (.ref (own_orV aN aA (own_k aN aI aF aB aA p2) (own_k aN aI aF aB aA p1))), .val (.int (1 : Int32)), .val (.int (1 : Int32))] [(.int (1 : Int32))])) _
    exact retN X13 hx (t := .boolean) Bd.returns (by simp) (hb hby at_124) hr
  · show Q0_iii Z p1 p2 p3 aN aI aF aB aA h0 n0 _ T13.heap _
    exact ⟨rfl, N13⟩
def Q0 (v : Option Value) (L : List Loc) (n0 : Nat) : Prop := v = some (.int (1 : Int32)) ∧ Fr n0 L
theorem rm0 (l : Launch) (Z : State) (a0 : Array Value) (hw : ∀ d ∈ tables_1, d.before a0 Z = true) (ws : List Jvm.Cond) (p1 p2 p3 : Int32) (aN aI aF aB aA : Addr) (h0 : Heap) (n0 : Nat) (Z0 : n0 ≤ h0.size) (B : own_K Z h0 aN aI aF aB aA) :
    MetFree l x (head1 (Jvm.Cond.code x code maxLocals ret :: ws) room_1) (fun a U => a = #[(.int p1), (.int p2), (.int p3)] ∧ Z.Warmed39 U.vm ∧ U.heap = h0) (fun _ _ _ _ _ => True) (fun _ U o U' => ∃ v L, o = .returned v ∧ Q0 v L n0 ∧ FrameEnd U o U' L room_1.cells room_1.slots) := by
  by_cases hA : own_leq aN aA (own_k aN aI aF aB aA p1) (own_k aN aI aF aB aA p3) = 0
  · exact rm0_i l Z a0 hw ws p1 p2 p3 aN aI aF aB aA h0 n0 Z0 B hA
  · by_cases hB : own_leq aN aA (own_k aN aI aF aB aA p2) (own_k aN aI aF aB aA p3) = 0
    · exact rm0_ii l Z a0 hw ws p1 p2 p3 aN aI aF aB aA h0 n0 Z0 B hA hB
    · exact rm0_iii l Z a0 hw ws p1 p2 p3 aN aI aF aB aA h0 n0 Z0 B hA hB
theorem own_start {args : Array Value} {s : State} {f : String} (w1 : (Cond.initialized "org/graftloom/lua/LocalTypes$Kind").before args s = true) (w2 : (Cond.laysStatic "org/graftloom/lua/LocalTypes$Kind" f "Lorg/graftloom/lua/LocalTypes$Kind;").before args s = true)
    (h1 : (Cond.exactly (Term.static "org/graftloom/lua/LocalTypes$Kind" f "Lorg/graftloom/lua/LocalTypes$Kind;") "org/graftloom/lua/LocalTypes$Kind").value args s none s [] = some true) : ∃ a, own_c s s.heap f a := by
  obtain ⟨a, ea⟩ := exa_v h1
  exact ⟨a, Sta.start ea (Or.inr ⟨w1, w2⟩), Exa.start ea h1⟩
set_option maxRecDepth 65536 in
set_option maxHeartbeats 40000000 in
theorem comes_1 {Post : Tables → Env → Array Value → State → Outcome → State → Prop} (hpost : ∀ tb e args s v u, (limb_1_1.after args s (.returned v) u = true ∧ limb_1_2.after args s (.returned v) u = true ∧ True) → FrameEnd s (.returned v) u (Jvm.fieldLocs frame_1_writes args s ++ Jvm.arrayLocs frame_1_arrays args s ++ Jvm.staticLocs frame_1_statics s) 16 128 → Post tb e args s (.returned v) u) :
    ArmFor flags0 classFile x code maxLocals ret World_1 tables_1 room_1 Calls_1 rest_1 Pre_1 Post := by
  intro l hfl _ _ p e ha hc hk s m args below hf hA hF happ hP
  obtain ⟨hcalls, hrest, hpre⟩ := hP
  obtain ⟨-, -, -, hnamed, -, -, -, hat⟩ := (Spec.applies_iff hf).mp happ
  obtain ⟨hg, hn⟩ := and_e (Cond.before_iff.mp (show (Jvm.Cond.and given_1 narrow_1).before args s = true from hpre))
  obtain ⟨g14, g15⟩ := and_e hg
  obtain ⟨g16, g17⟩ := and_e g15
  obtain ⟨g18, g19⟩ := and_e g17
  obtain ⟨w0, w1, w2, rfl⟩ : ∃ w0 w1 w2 : Value, args = #[w0, w1, w2] := by
    have hs : args.size = 3 := by simpa [Cond.value, given_1] using g14
    obtain ⟨L⟩ := args
    match L, hs with
    | [w0, w1, w2], _ => exact ⟨w0, w1, w2, rfl⟩
  have hw := fun d (hd : d ∈ tables_1) => atoms_spec (ws := Jvm.Cond.code x code maxLocals ret :: tables_1) hat d (List.mem_cons_of_mem _ hd)
  have hfit : Fit s := fun {y c} hc i hi => by
    obtain ⟨ha, rfl⟩ := Array.getElem?_eq_some_iff.mp hc
    have q := List.all_eq_true.mp ((Array.all_eq_true_iff_forall_mem.mp hF) _ (Array.getElem_mem ha)) i (List.mem_range.mpr hi)
    simpa [Array.getElem?_eq_getElem hi] using q
  obtain ⟨i0, ei0⟩ := is_v g16
  obtain rfl : w0 = (.int i0) := Option.some.inj ei0
  obtain ⟨i1, ei1⟩ := is_v g18
  obtain rfl : w1 = (.int i1) := Option.some.inj ei1
  obtain ⟨i2, ei2⟩ := is_v g19
  obtain rfl : w2 = (.int i2) := Option.some.inj ei2
  obtain ⟨nr0, nrr0⟩ := and_e hn
  obtain ⟨nr1, nrr1⟩ := and_e nrr0
  obtain ⟨nr2, nrr2⟩ := and_e nrr1
  obtain ⟨nr3, nrr3⟩ := and_e nrr2
  obtain ⟨nr4, nrr4⟩ := and_e nrr3
  obtain ⟨nr5, nrr5⟩ := and_e nrr4
  obtain ⟨nr6, nrr6⟩ := and_e nrr5
  obtain ⟨nr7, nrr7⟩ := and_e nrr6
  obtain ⟨nr8, nr9⟩ := and_e nrr7
  obtain ⟨aN, BN⟩ := own_start (hw _ (List.mem_of_getElem? (i := 7) rfl)) (hw _ (List.mem_of_getElem? (i := 8) rfl)) nr0
  obtain ⟨aI, BI⟩ := own_start (hw _ (List.mem_of_getElem? (i := 7) rfl)) (hw _ (List.mem_of_getElem? (i := 11) rfl)) nr1
  obtain ⟨aF, BF⟩ := own_start (hw _ (List.mem_of_getElem? (i := 7) rfl)) (hw _ (List.mem_of_getElem? (i := 13) rfl)) nr2
  obtain ⟨aB, BB⟩ := own_start (hw _ (List.mem_of_getElem? (i := 7) rfl)) (hw _ (List.mem_of_getElem? (i := 15) rfl)) nr3
  obtain ⟨aA, BA⟩ := own_start (hw _ (List.mem_of_getElem? (i := 7) rfl)) (hw _ (List.mem_of_getElem? (i := 17) rfl)) nr4
  obtain ⟨n, o, h1, h2, h3, _, L, rfl, ⟨rfl, N⟩, hq⟩ := rm0 l s _ hw tables_1 i0 i1 i2 aN aI aF aB aA s.heap s.heap.size (Nat.le_refl _) ⟨BN, BI, BF, BB, BA⟩ p e ha hc hk s m _ below hf ((Spec.applies_iff_loose hf).mp happ).1 ⟨rfl, State.Warmed39.refl s, rfl⟩ trivial
  refine ⟨n, _, h1, h2, h3, hpost _ _ _ _ _ _ ⟨Cond.after_iff.mpr rfl, Cond.after_iff.mpr (eq_i res_at (Term.int_eval (1)) rfl), trivial⟩ ⟨hq.1, hq.2.1, (hq.2.2.sift fun y hy => Or.inr (N y hy)).mono (by decide) (by decide)⟩⟩
theorem main_1_1 : Claimed_1_1 := comes_1 fun _ _ _ _ _ _ h hF => ⟨h.1, hF⟩
theorem main_1_2 : Claimed_1_2 := comes_1 fun _ _ _ _ _ _ h hF => ⟨h.2.1, hF⟩
end Jvm.Pilot.@@N@@
namespace Jvm.Pilot.@@N@@
open Jvm Jvm.ClassFile Sem Op Lib Jvm.Free Jvm.Stand Jvm.Pilot.@@N@@.Jvm.D
/-! MADE BY PROGRAM (witnessworld.py) out of the Statement's table words and the real class files: 13 classes; the members and pool entries that the words name. The judged class is class 1, her method 3. -/
namespace start1
open Jvm.ClassFile
def u (s : String) : CpInfo := .utf8 (stringToUtf16 s)
/-- a pool by its gaps: so many unusable entries, then the entry; so many at the end -/
def gap : Nat → List CpInfo → List CpInfo
  | 0, r => r
  | n + 1, r => .unusable :: gap n r
def poolList (es : List (Nat × CpInfo)) (last : Nat) : List CpInfo := es.foldr (fun e r => gap e.1 (e.2 :: r)) (gap last [])
def pool (es : List (Nat × CpInfo)) (last : Nat) : Array CpInfo := ⟨poolList es last⟩
def fileOf (pool : Array CpInfo) (this : Nat) (attrs : Array Attribute := #[]) (ms : Array MethodInfo := #[]) (fl : Nat := 33) (sup : Nat := 0) (ifs : Array Nat := #[]) (fds : Array FieldInfo := #[]) : ClassFile where
  minorVersion := 0
  majorVersion := 65
  constantPool := pool
  accessFlags := fl
  thisClass := this
  superClass := sup
  interfaces := ifs
  fields := fds
  methods := ms
  attributes := attrs
def plain (name : String) (sup : Option ClassId) : Class where
  name := name
  kind := .ordinary
  loader := none
  accessFlags := 33
  super := sup
  interfaces := #[]
  cf := none
  fields := #[]
  methods := #[]
  instanceTypes := #[]
  staticTypes := #[]
  resolved := #[]
  callSites := []
  init := .initialized
  statics := none
  mirror := none

def pool0 : Array CpInfo := pool [(5, u "<init>"), (0, u "()V"), (1, .class_ 10), (1, u "java/lang/Object")] 113

def k0m0 : Method := { name := "<init>", desc := "()V", sig := { parameters := [], returnType := none }, accessFlags := 1, code := none }
/-- java/lang/Object -/
def k0 : Class := { plain "java/lang/Object" none with
  accessFlags := 33
  interfaces := #[]
  cf := some (fileOf pool0 8 #[] #[{ accessFlags := 1, nameIndex := 5, descriptorIndex := 6, attributes := #[] }] 33 0 #[] #[])
  fields := #[]
  methods := #[k0m0]
  instanceTypes := #[]
  staticTypes := #[]
  resolved := Array.replicate 124 none
  statics := none }

def pool1 : Array CpInfo := pool [(2, .class_ 4), (1, u "java/lang/Object"), (0, u "<init>"), (0, u "()V"), (0, .class_ 8), (0, u "org/graftloom/lua/LocalTypes$Kind"), (0, .fieldref 7 10), (0, .nameAndType 11 12), (0, u "NONE"), (0, u "Lorg/graftloom/lua/LocalTypes$Kind;"), (0, .fieldref 7 14), (0, .nameAndType 15 12), (0, u "INTEGER"), (0, .fieldref 7 17), (0, .nameAndType 18 12), (0, u "FLOAT"), (0, .fieldref 7 20), (0, .nameAndType 21 12), (0, u "BOOLEAN"), (0, .fieldref 7 23), (0, .nameAndType 24 12), (0, u "ANY"), (0, .integer 2147483647), (0, .methodref 27 28), (0, .class_ 29), (0, .nameAndType 30 31), (0, u "org/graftloom/lua/KindOrPinLaw"), (0, u "pick"), (0, u "(I)Lorg/graftloom/lua/LocalTypes$Kind;"), (0, .methodref 7 33), (0, .nameAndType 34 35), (0, u "or"), (0, u "(Lorg/graftloom/lua/LocalTypes$Kind;)Lorg/graftloom/lua/LocalTypes$Kind;"), (0, .methodref 27 37), (0, .nameAndType 38 39), (0, u "leq"), (0, u "(Lorg/graftloom/lua/LocalTypes$Kind;Lorg/graftloom/lua/LocalTypes$Kind;)Z"), (3, u "law"), (0, u "(III)Z")] 6

def k1m0 : Method := { name := "<init>", desc := "()V", sig := { parameters := [], returnType := none }, accessFlags := 1, code := none }
def k1c1 : Code := { maxStack := 4, maxLocals := 2, code := method_2_code, exceptionTable := #[], attributes := #[] }
def k1m1 : Method := { name := "pick", desc := "(I)Lorg/graftloom/lua/LocalTypes$Kind;", sig := { parameters := [.int], returnType := some (.object "org/graftloom/lua/LocalTypes$Kind") }, accessFlags := 10, code := some k1c1 }
def k1c2 : Code := { maxStack := 2, maxLocals := 2, code := method_3_code, exceptionTable := #[], attributes := #[] }
def k1m2 : Method := { name := "leq", desc := "(Lorg/graftloom/lua/LocalTypes$Kind;Lorg/graftloom/lua/LocalTypes$Kind;)Z", sig := { parameters := [(.object "org/graftloom/lua/LocalTypes$Kind"), (.object "org/graftloom/lua/LocalTypes$Kind")], returnType := some .boolean }, accessFlags := 10, code := some k1c2 }
def k1c3 : Code := { maxStack := 2, maxLocals := 10, code := code, exceptionTable := #[], attributes := #[] }
def k1m3 : Method := { name := "law", desc := "(III)Z", sig := { parameters := [.int, .int, .int], returnType := some .boolean }, accessFlags := 9, code := some k1c3 }
/-- org/graftloom/lua/KindOrPinLaw -/
def k1 : Class := { plain "org/graftloom/lua/KindOrPinLaw" (some 0) with
  accessFlags := 49
  interfaces := #[]
  cf := some (fileOf pool1 27 #[] #[{ accessFlags := 1, nameIndex := 5, descriptorIndex := 6, attributes := #[] }, { accessFlags := 10, nameIndex := 30, descriptorIndex := 31, attributes := #[] }, { accessFlags := 10, nameIndex := 38, descriptorIndex := 39, attributes := #[] }, { accessFlags := 9, nameIndex := 43, descriptorIndex := 44, attributes := #[] }] 49 2 #[] #[])
  fields := #[]
  methods := #[k1m0, k1m1, k1m2, k1m3]
  instanceTypes := #[]
  staticTypes := #[]
  resolved := Array.replicate 51 none
  statics := none }

def pool2 : Array CpInfo := pool [(1, .class_ 2), (0, u "java/lang/constant/Constable"), (0, .class_ 4), (0, u "java/lang/Object")] 6

/-- java/lang/constant/Constable -/
def k2 : Class := { plain "java/lang/constant/Constable" (some 0) with
  accessFlags := 1537
  interfaces := #[]
  cf := some (fileOf pool2 1 #[] #[] 1537 3 #[] #[])
  fields := #[]
  methods := #[]
  instanceTypes := #[]
  staticTypes := #[]
  resolved := Array.replicate 11 none
  statics := none }

def pool3 : Array CpInfo := pool [(1, .class_ 2), (0, u "java/lang/Comparable"), (0, .class_ 4), (0, u "java/lang/Object")] 7

/-- java/lang/Comparable -/
def k3 : Class := { plain "java/lang/Comparable" (some 0) with
  accessFlags := 1537
  interfaces := #[]
  cf := some (fileOf pool3 1 #[] #[] 1537 3 #[] #[])
  fields := #[]
  methods := #[]
  instanceTypes := #[]
  staticTypes := #[]
  resolved := Array.replicate 12 none
  statics := none }

def pool4 : Array CpInfo := pool [(1, .class_ 2), (0, u "java/io/Serializable"), (0, .class_ 4), (0, u "java/lang/Object")] 2

/-- java/io/Serializable -/
def k4 : Class := { plain "java/io/Serializable" (some 0) with
  accessFlags := 1537
  interfaces := #[]
  cf := some (fileOf pool4 1 #[] #[] 1537 3 #[] #[])
  fields := #[]
  methods := #[]
  instanceTypes := #[]
  staticTypes := #[]
  resolved := Array.replicate 7 none
  statics := none }

def pool5 : Array CpInfo := pool [(2, .class_ 4), (1, u "java/lang/Enum"), (0, u "name"), (0, u "Ljava/lang/String;"), (2, u "ordinal"), (0, u "I"), (1, .class_ 14), (1, u "java/lang/Object"), (4, u "hash"), (86, .class_ 108), (1, u "java/lang/Enum$EnumDesc"), (2, .class_ 112), (0, u "java/lang/constant/Constable"), (0, .class_ 114), (0, u "java/lang/Comparable"), (0, .class_ 116), (0, u "java/io/Serializable")] 87

/-- java/lang/Enum -/
def k5 : Class := { plain "java/lang/Enum" (some 0) with
  accessFlags := 1057
  interfaces := #[2, 3, 4]
  cf := some (fileOf pool5 2 #[.nestMembers #[106]] #[] 1057 12 #[111, 113, 115] #[{ accessFlags := 18, nameIndex := 5, descriptorIndex := 6, attributes := #[] }, { accessFlags := 18, nameIndex := 9, descriptorIndex := 10, attributes := #[] }, { accessFlags := 2, nameIndex := 19, descriptorIndex := 10, attributes := #[] }])
  fields := #[{ name := "name", type := (.object "java/lang/String"), accessFlags := 18, slot := 0, constantValue := 0 }, { name := "ordinal", type := .int, accessFlags := 18, slot := 1, constantValue := 0 }, { name := "hash", type := .int, accessFlags := 2, slot := 2, constantValue := 0 }]
  methods := #[]
  instanceTypes := #[(.object "java/lang/String"), .int, .int]
  staticTypes := #[]
  resolved := Array.replicate 204 none
  statics := none }

def pool6 : Array CpInfo := pool [(1, .class_ 2), (0, u "org/graftloom/lua/LocalTypes$Kind"), (0, .fieldref 1 4), (0, .nameAndType 5 6), (0, u "NONE"), (0, u "Lorg/graftloom/lua/LocalTypes$Kind;"), (2, u "INTEGER"), (2, u "FLOAT"), (2, u "BOOLEAN"), (0, .fieldref 1 17), (0, .nameAndType 18 6), (0, u "ANY"), (2, u "$VALUES"), (0, u "[Lorg/graftloom/lua/LocalTypes$Kind;"), (6, .class_ 31), (1, u "java/lang/Enum"), (23, u "or"), (0, u "(Lorg/graftloom/lua/LocalTypes$Kind;)Lorg/graftloom/lua/LocalTypes$Kind;"), (6, .class_ 64), (0, u "org/graftloom/lua/LocalTypes")] 2

def k6c0 : Code := { maxStack := 2, maxLocals := 3, code := prog_133_method_4_code, exceptionTable := #[], attributes := #[] }
def k6m0 : Method := { name := "or", desc := "(Lorg/graftloom/lua/LocalTypes$Kind;)Lorg/graftloom/lua/LocalTypes$Kind;", sig := { parameters := [(.object "org/graftloom/lua/LocalTypes$Kind")], returnType := some (.object "org/graftloom/lua/LocalTypes$Kind") }, accessFlags := 0, code := some k6c0 }
/-- org/graftloom/lua/LocalTypes$Kind -/
def k6 : Class := { plain "org/graftloom/lua/LocalTypes$Kind" (some 5) with
  accessFlags := 16432
  interfaces := #[]
  cf := some (fileOf pool6 1 #[.nestHost 63] #[{ accessFlags := 0, nameIndex := 55, descriptorIndex := 56, attributes := #[] }] 16432 29 #[] #[{ accessFlags := 16409, nameIndex := 5, descriptorIndex := 6, attributes := #[] }, { accessFlags := 16409, nameIndex := 9, descriptorIndex := 6, attributes := #[] }, { accessFlags := 16409, nameIndex := 12, descriptorIndex := 6, attributes := #[] }, { accessFlags := 16409, nameIndex := 15, descriptorIndex := 6, attributes := #[] }, { accessFlags := 16409, nameIndex := 18, descriptorIndex := 6, attributes := #[] }, { accessFlags := 4122, nameIndex := 21, descriptorIndex := 22, attributes := #[] }])
  fields := #[{ name := "NONE", type := (.object "org/graftloom/lua/LocalTypes$Kind"), accessFlags := 16409, slot := 0, constantValue := 0 }, { name := "INTEGER", type := (.object "org/graftloom/lua/LocalTypes$Kind"), accessFlags := 16409, slot := 1, constantValue := 0 }, { name := "FLOAT", type := (.object "org/graftloom/lua/LocalTypes$Kind"), accessFlags := 16409, slot := 2, constantValue := 0 }, { name := "BOOLEAN", type := (.object "org/graftloom/lua/LocalTypes$Kind"), accessFlags := 16409, slot := 3, constantValue := 0 }, { name := "ANY", type := (.object "org/graftloom/lua/LocalTypes$Kind"), accessFlags := 16409, slot := 4, constantValue := 0 }, { name := "$VALUES", type := (.array (.object "org/graftloom/lua/LocalTypes$Kind")), accessFlags := 4122, slot := 5, constantValue := 0 }]
  methods := #[k6m0]
  instanceTypes := #[(.object "java/lang/String"), .int, .int]
  staticTypes := #[(.object "org/graftloom/lua/LocalTypes$Kind"), (.object "org/graftloom/lua/LocalTypes$Kind"), (.object "org/graftloom/lua/LocalTypes$Kind"), (.object "org/graftloom/lua/LocalTypes$Kind"), (.object "org/graftloom/lua/LocalTypes$Kind"), (.array (.object "org/graftloom/lua/LocalTypes$Kind"))]
  resolved := Array.replicate 67 none
  statics := some 0 }

def pool7 : Array CpInfo := pool [(1, u "java/lang/Cloneable"), (0, .class_ 1), (0, u "java/lang/Object"), (0, .class_ 3)] 3

/-- java/lang/Cloneable -/
def k7 : Class := { plain "java/lang/Cloneable" (some 0) with
  accessFlags := 1537
  interfaces := #[]
  cf := some (fileOf pool7 2 #[] #[] 1537 4 #[] #[])
  fields := #[]
  methods := #[]
  instanceTypes := #[]
  staticTypes := #[]
  resolved := Array.replicate 8 none
  statics := none }

/-- the primitive byte -/
def k8 : Class := { plain "byte" none with kind := .primitive 'B', accessFlags := 0x411 }
/-- [B -/
def k9 : Class := { plain "[B" (some 0) with kind := .array 8 .byte, interfaces := #[7, 4], accessFlags := 1041 }

/-- the primitive int -/
def k10 : Class := { plain "int" none with kind := .primitive 'I', accessFlags := 0x411 }
/-- [I -/
def k11 : Class := { plain "[I" (some 0) with kind := .array 10 .int, interfaces := #[7, 4], accessFlags := 1041 }

/-- [Lorg/graftloom/lua/LocalTypes$Kind; -/
def k12 : Class := { plain "[Lorg/graftloom/lua/LocalTypes$Kind;" (some 0) with kind := .array 6 (.object "org/graftloom/lua/LocalTypes$Kind"), interfaces := #[7, 4], accessFlags := 1041 }

def heap : Heap := #[{ cls := 6, slots := #[.ref 1, .ref 2, .ref 3, .ref 4, .ref 5, .null], vm := .statics 6 },
  { cls := 6, slots := #[.null, .int 0, .int 0], vm := .none },
  { cls := 6, slots := #[.null, .int 1, .int 0], vm := .none },
  { cls := 6, slots := #[.null, .int 2, .int 0], vm := .none },
  { cls := 6, slots := #[.null, .int 3, .int 0], vm := .none },
  { cls := 6, slots := #[.null, .int 4, .int 0], vm := .none }]
def classes : Array Class := #[k0, k1, k2, k3, k4, k5, k6, k7, k8, k9, k10, k11, k12]
def interned : List (Array UInt16 × Addr) := []
def slotsUsed : Nat := 21
def theMethod : MethodId := ⟨1, 3⟩
def args0 : Array Value := #[.int 5, .int 6, .int 1]
def aboutOver (below : List Frame) : State where
  vm := { classes := classes, interned := interned.toArray }
  heap := heap
  slotsUsed := slotsUsed
  threads := #[{ frames := .invoking theMethod args0 :: below }]
def below0 : List Frame := [.native { method := ⟨0, 0⟩, args := #[] }]
def about1 : State := aboutOver below0
def p0 : Program := .bare "" "" ""
def e0 : Env := launch0.env 0 0 0
theorem w_frames : about1.frames = Frame.invoking theMethod args0 :: below0 := rfl
set_option maxRecDepth 65536 in
theorem w_args : argsFit about1.vm theMethod args0 = true := by decide +kernel
set_option maxRecDepth 65536 in
theorem w_heap : heapFits about1 = true := by decide +kernel
set_option maxRecDepth 65536 in
theorem w_runnable : about1.curStatus? = some .runnable := by decide +kernel
set_option maxRecDepth 65536 in
theorem w_alone : about1.alone = true := by decide +kernel
set_option maxRecDepth 65536 in
theorem w_named : about1.methodNamed? x = some theMethod := by decide +kernel
set_option maxRecDepth 65536 in
theorem w_hears : about1.hears theMethod below0 = true := by decide +kernel
set_option maxRecDepth 65536 in
theorem w_ripe : about1.ripe theMethod args0 below0 = true := by decide +kernel
theorem w_running : about1.status = .running := rfl
set_option maxRecDepth 65536 in
theorem w_room : about1.hasRoom e0.platform room_1 = true :=
  launch0.hasRoom_least _ room_1 (by decide +kernel) (by decide +kernel) (by decide +kernel) (by decide +kernel) (by decide +kernel) (by decide +kernel)
theorem allAtoms_all (ts : List Jvm.Cond) (a : Array Jvm.Value) (st : Jvm.State) : (allAtoms ts).before a st = ts.all (fun c => c.before a st) := by
  induction ts with
  | nil => rfl
  | cons c t ih =>
    show (Jvm.Cond.and c (allAtoms t)).before a st = _
    rw [Jvm.Cond.before_and, ih, List.all_cons]
def words1 : List Jvm.Cond := Jvm.Cond.code x code maxLocals ret :: tables_1
/-- a 'code' word, met by the world's own term for the bytes: nothing is compared byte by byte -/
theorem code_word {y : MethodName} {bytes : ByteArray} {mx : Nat} {rt : Option FieldType} {a : Array Value} {s : State} {m : MethodId} {meth : Method} {c : Code} (h1 : s.methodNamed? y = some m) (h2 : s.vm.method? m = some meth) (h3 : meth.code = some c) (h4 : c.code = bytes)
    (h5 : (c.maxLocals == mx && c.exceptionTable.isEmpty && decide (c.maxStack ≤ mostOperands) && decide (meth.sig.returnType = rt) && !meth.locks && decide (parseMethodDescriptor y.desc = some meth.sig)) = true) : (Jvm.Cond.code y bytes mx rt).before a s = true := by
  simp only [Bool.and_eq_true, beq_iff_eq, Bool.not_eq_true', decide_eq_true_eq] at h5
  obtain ⟨⟨⟨⟨⟨g1, g2⟩, g3⟩, g4⟩, g5⟩, g6⟩ := h5
  simp [Cond.before, Cond.holds, Cond.value, h1, h2, h3, h4, g1, g2, g3, g4, g5, g6]
def isCode : Jvm.Cond → Bool
  | .code _ _ _ _ => true
  | _ => false
theorem all_split {L : List Jvm.Cond} {P : Jvm.Cond → Bool} (h1 : L.all (fun c => isCode c || P c) = true) (h2 : ∀ c ∈ L.filter isCode, P c = true) : L.all P = true := by
  refine List.all_eq_true.mpr fun c hc => ?_
  have h := List.all_eq_true.mp h1 c hc
  rcases Bool.eq_false_or_eq_true (isCode c) with hi | hi
  · exact h2 c (List.mem_filter.mpr ⟨hc, hi⟩)
  · simpa [hi] using h
set_option maxRecDepth 65536 in
theorem w_c0 : (Jvm.Cond.code x code maxLocals ret).before args0 about1 = true := code_word (m := ⟨1, 3⟩) (meth := k1m3) (c := k1c3) (by decide +kernel) rfl rfl rfl (by decide +kernel)
set_option maxRecDepth 65536 in
theorem w_c1 : (Jvm.Cond.code ({ cls := "org/graftloom/lua/KindOrPinLaw", name := "pick", desc := "(I)Lorg/graftloom/lua/LocalTypes$Kind;" } : Jvm.MethodName) method_2_code (2 : Nat) (Option.some (Jvm.ClassFile.FieldType.object "org/graftloom/lua/LocalTypes$Kind"))).before args0 about1 = true := code_word (m := ⟨1, 1⟩) (meth := k1m1) (c := k1c1) (by decide +kernel) rfl rfl rfl (by decide +kernel)
set_option maxRecDepth 65536 in
theorem w_c2 : (Jvm.Cond.code ({ cls := "org/graftloom/lua/LocalTypes$Kind", name := "or", desc := "(Lorg/graftloom/lua/LocalTypes$Kind;)Lorg/graftloom/lua/LocalTypes$Kind;" } : Jvm.MethodName) prog_133_method_4_code (3 : Nat) (Option.some (Jvm.ClassFile.FieldType.object "org/graftloom/lua/LocalTypes$Kind"))).before args0 about1 = true := code_word (m := ⟨6, 0⟩) (meth := k6m0) (c := k6c0) (by decide +kernel) rfl rfl rfl (by decide +kernel)
set_option maxRecDepth 65536 in
theorem w_c3 : (Jvm.Cond.code ({ cls := "org/graftloom/lua/KindOrPinLaw", name := "leq", desc := "(Lorg/graftloom/lua/LocalTypes$Kind;Lorg/graftloom/lua/LocalTypes$Kind;)Z" } : Jvm.MethodName) method_3_code (2 : Nat) (Option.some Jvm.ClassFile.FieldType.boolean)).before args0 about1 = true := code_word (m := ⟨1, 2⟩) (meth := k1m2) (c := k1c2) (by decide +kernel) rfl rfl rfl (by decide +kernel)
def codes1 : List Jvm.Cond := [Jvm.Cond.code x code maxLocals ret, Jvm.Cond.code ({ cls := "org/graftloom/lua/KindOrPinLaw", name := "pick", desc := "(I)Lorg/graftloom/lua/LocalTypes$Kind;" } : Jvm.MethodName) method_2_code (2 : Nat) (Option.some (Jvm.ClassFile.FieldType.object "org/graftloom/lua/LocalTypes$Kind")), Jvm.Cond.code ({ cls := "org/graftloom/lua/LocalTypes$Kind", name := "or", desc := "(Lorg/graftloom/lua/LocalTypes$Kind;)Lorg/graftloom/lua/LocalTypes$Kind;" } : Jvm.MethodName) prog_133_method_4_code (3 : Nat) (Option.some (Jvm.ClassFile.FieldType.object "org/graftloom/lua/LocalTypes$Kind")), Jvm.Cond.code ({ cls := "org/graftloom/lua/KindOrPinLaw", name := "leq", desc := "(Lorg/graftloom/lua/LocalTypes$Kind;Lorg/graftloom/lua/LocalTypes$Kind;)Z" } : Jvm.MethodName) method_3_code (2 : Nat) (Option.some Jvm.ClassFile.FieldType.boolean)]
set_option maxRecDepth 65536 in
theorem codes_eq : words1.filter isCode = codes1 := rfl
theorem w_codes : ∀ c ∈ words1.filter isCode, c.before args0 about1 = true := by
  rw [codes_eq]
  intro c hc
  simp only [codes1, List.mem_cons, List.not_mem_nil, or_false] at hc
  rcases hc with rfl | rfl | rfl | rfl
  · exact w_c0
  · exact w_c1
  · exact w_c2
  · exact w_c3
set_option maxRecDepth 65536 in
theorem w_t1 : (words1.take 24).all (fun c => isCode c || c.before args0 about1) = true := by decide +kernel
set_option maxRecDepth 65536 in
theorem w_t2 : (words1.drop 24).all (fun c => isCode c || c.before args0 about1) = true := by decide +kernel
theorem w_tables : (allAtoms (Jvm.Cond.code x code maxLocals ret :: tables_1)).before args0 about1 = true := by
  rw [allAtoms_all]
  show words1.all (fun c => c.before args0 about1) = true
  refine all_split ?_ w_codes
  rw [← List.take_append_drop 24 words1, List.all_append, w_t1, w_t2]
  rfl
set_option maxRecDepth 65536 in
theorem w_case : (Jvm.Cond.and given_1 narrow_1).before args0 about1 = true := by decide +kernel
theorem w_applies : (headSpec (Jvm.Cond.code x code maxLocals ret :: tables_1) room_1).applies x e0.platform about1 = true :=
  (Spec.applies_iff w_frames).mpr ⟨w_running, w_runnable, w_alone, w_named, w_hears, w_ripe, w_room, w_tables⟩
theorem atStart : AtStart classFile x code maxLocals ret World_1 tables_1 room_1 Calls_1 rest_1 Pre_1 launch0 p0 e0 about1 theMethod args0 below0 :=
  ⟨lists_1, trivial, launch0.admits_env _ _ _, launch0.least_env, fairChoices_fair.cas, fairChoices_fair.clock, w_frames, w_args, w_heap, w_applies, trivial, trivial, w_case⟩
end start1
theorem witness_1 : WitnessClaimed_1 := ⟨start1.p0, start1.e0, start1.about1, start1.theMethod, start1.args0, start1.below0, start1.atStart⟩
end Jvm.Pilot.@@N@@
