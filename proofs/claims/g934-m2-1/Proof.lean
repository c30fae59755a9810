import JvmDerived
import JvmDerived.Pilot.@@N@@Statement
import JvmDerived.Pilot.@@N@@Code
set_option linter.unusedVariables false
set_option linter.unusedSimpArgs false
namespace Jvm.RoadKit
open Sem ClassFile Op Lib Jvm.Stand Jvm.Free Jvm.LawKit
section New
variable {p : Program} {l : Launch} {e : Env} {R : Room} {s : State} {m : MethodId} {args : Array Value} {below : List Frame} {meth : Method} {c : Code} {T : State} {locs : List Loc} {cells slots : Nat}
theorem retI (X : Stand p l e R s m args below meth c T locs cells slots) (hx : p.tables.exec = Jvm.exec) {pc : Nat} {Ls : Array Slot} {z : Int32} {rest : List Value} (hret : meth.sig.returnType = some .int) (hd : decode c.code pc = .ok (.ireturn, 1)) {fs : List Frame}
    (hl : ∀ (f : JFrame) (acts : List Action), f.method = m → f.locked = none → f.entered = [] → (doReturn e (T.setTop f) acts (some (.int z))).1 = T.setFrames fs) : Steps p.tables e below (T.setTop (mkF m pc Ls (.int z :: rest))) (T.setFrames fs) := by
  have hm' : T.vm.method? m = some meth := X.method'
  have hn : narrow .int (.int z) = .int z := rfl
  show Steps p.tables e below (T.setTop { method := m, pc := pc, locals := Ls, stack := _ :: rest, locked := none }) _
  jvm_step X.here [X.here.top, hx, hd, hm', hret, hn]
  first | (intro acts; rw [hl _ acts rfl rfl rfl]) | rw [hl _ _ rfl rfl rfl]
  exact Steps.refl _
end New
end Jvm.RoadKit
namespace Jvm.Pilot.@@N@@
open Jvm Jvm.ClassFile Sem Op Lib Jvm.Free Jvm.Stand Jvm.LawKit Jvm.RoadKit Bundle Jvm.Pilot.@@N@@.Jvm.D
theorem own_n32 : ∀ n, n < 9 → (Int32.ofNat n).toNatClampNeg = n := by decide
theorem own_nn : ∀ n, n < 9 → ¬ Int32.ofNat n < 0 := by decide
theorem own_lti : ∀ n, n < 9 → ∀ i, i < n → Int32.ofNat i < Int32.ofNat n := by decide
theorem own_one (i : Nat) : Int32.ofNat i + (1 : Int32) = Int32.ofNat (i + 1) := (Int32.ofNat_add i 1).symm
/-- what decodeLong holds behind t turns over the bytes f -/
def own_d (f : Nat → Int32) : Nat → Int64
  | 0 => (f 0).toInt64
  | t + 1 => (own_d f t <<< ((8 : Int32) &&& 0x3f).toInt64) ||| ((f (t + 1)) &&& (255 : Int32)).toInt64
theorem own_lt : ∀ n, n < 9 → ∀ i, i < 8 → (Int32.ofNat i < Int32.ofNat n → i < n) := by decide
theorem own_nlt : ∀ n, n < 9 → ∀ i, i < 8 → (¬ Int32.ofNat i < Int32.ofNat n → n ≤ i) := by decide
theorem own_mask (x : Int32) : ∃ n : Nat, 1 ≤ n ∧ n < 9 ∧ (x &&& (7 : Int32)) + (1 : Int32) = Int32.ofNat n := by
  refine ⟨(x &&& 7).toBitVec.toNat + 1, by omega, ?_, ?_⟩
  · have : (x &&& 7).toBitVec.toNat ≤ 7 := by
      simp only [Int32.toBitVec_and, BitVec.toNat_and]
      exact Nat.and_le_right
    omega
  · rw [Int32.ofNat_add]
    congr 1
    apply Int32.toBitVec_inj.mp
    show _ = BitVec.ofNat 32 _
    rw [BitVec.ofNat_toNat]; simp
/-- the byte that the law lays at place i -/
def own_c (x : Int64) (n i : Int32) : Int8 := (((x.toUInt64 >>> (((8 : Int32) * ((n - (1 : Int32)) - i)) &&& 0x3f).toInt64.toUInt64).toInt64).toInt32).toInt8
def own_b (x : Int64) (n i : Int32) : Int32 := nar .byte ((own_c x n i).toInt32)
theorem own_b_eq (x : Int64) (n i : Int32) : own_b x n i = (own_c x n i).toInt32 := by
  show (own_c x n i).toInt32.toInt8.toInt32 = _
  simp
theorem own_nar_b (x : Int64) (n i : Int32) : nar .byte (own_b x n i) = own_b x n i := by
  rw [own_b_eq]
  show (own_c x n i).toInt32.toInt8.toInt32 = _
  simp
def own_vals (x : Int64) (n t : Nat) : List Value := (List.range n).map fun j => .int (if j < t then own_b x (Int32.ofNat n) (Int32.ofNat j) else 0)
theorem own_vals_zero (v : Int64) (n : Nat) : own_vals v n 0 = [] ++ List.replicate n (.int (0 : Int32)) := by
  apply List.ext_getElem
  · simp [own_vals]
  · intro i h1 h2
    simp [own_vals]
theorem own_vals_len (v : Int64) (n t : Nat) : (own_vals v n t).length = n := by simp [own_vals]
theorem own_vals_set (v : Int64) (n k : Nat) (h : k < n) : (own_vals v n k).set k (.int (nar .byte (own_b v (Int32.ofNat n) (Int32.ofNat k)))) = own_vals v n (k + 1) := by
  rw [own_nar_b]
  apply List.ext_getElem
  · simp [own_vals]
  · intro i h1 h2
    rw [List.getElem_set]
    by_cases q : k = i
    · subst q
      simp [own_vals]
    · rw [if_neg q]
      by_cases r : i < k
      · have a1 : i < k + 1 := by omega
        simp [own_vals, r, a1]
      · have a1 : ¬ i < k + 1 := by omega
        simp [own_vals, r, a1]
theorem own_vals_end (v : Int64) (n k : Nat) (h : n ≤ k) : own_vals v n (k + 1) = own_vals v n k := by
  apply List.ext_getElem
  · simp [own_vals]
  · intro i h1 h2
    simp [own_vals] at h1
    have a1 : i < k + 1 := by omega
    have a2 : i < k := by omega
    simp [own_vals, a1, a2]
theorem own_vals_at (v : Int64) (n i : Nat) (h : i < n) (d : Value) : (own_vals v n 8).getD i d = .int (if i < 8 then own_b v (Int32.ofNat n) (Int32.ofNat i) else 0) := by
  simp [own_vals, List.getD_eq_getElem?_getD, h]
theorem own_amt : ∀ n, n < 9 → ∀ i, i < n → (((8 : Int32) * ((Int32.ofNat n - (1 : Int32)) - Int32.ofNat i)) &&& 0x3f).toInt64.toUInt64.toBitVec = BitVec.ofNat 64 (8 * (n - 1 - i)) := by decide
theorem own_c_bit (x : Int64) {n i j : Nat} (hn : n < 9) (hi : i < n) (hj : j < 8) : (own_c x (Int32.ofNat n) (Int32.ofNat i)).toBitVec.getLsbD j = x.toBitVec.getLsbD (8 * (n - 1 - i) + j) := by
  unfold own_c
  rw [Int32.toBitVec_toInt8, Int64.toBitVec_toInt32]
  have h1 : j < 32 := by omega
  have h2 : j < 64 := by omega
  simp only [BitVec.getLsbD_signExtend, hj, h1, h2, decide_true, Bool.true_and, if_true]
  show (x.toUInt64 >>> (((8 : Int32) * ((Int32.ofNat n - (1 : Int32)) - Int32.ofNat i)) &&& 0x3f).toInt64.toUInt64).toBitVec.getLsbD j = _
  rw [UInt64.toBitVec_shiftRight, own_amt n hn i hi]
  have em : (BitVec.ofNat 64 (8 * (n - 1 - i)) % 64) = BitVec.ofNat 64 (8 * (n - 1 - i)) := by
    apply BitVec.eq_of_toNat_eq
    rw [BitVec.toNat_umod, BitVec.toNat_ofNat]
    show (8 * (n - 1 - i)) % 2 ^ 64 % 64 = _
    omega
  rw [em, BitVec.ushiftRight_eq', BitVec.getLsbD_ushiftRight, BitVec.toNat_ofNat]
  have e3 : 8 * (n - 1 - i) % 2 ^ 64 = 8 * (n - 1 - i) := by omega
  rw [e3]
  rfl
/-- the value shifted up, so that its sign stands at bit 63 -/
def own_y (x : BitVec 64) (n : Nat) : BitVec 64 := x <<< (64 - 8 * n)
theorem own_y_bit (x : BitVec 64) {n q : Nat} (hn : n < 9) (h : 64 - 8 * n ≤ q) (hq : q < 64) : (own_y x n).getLsbD q = x.getLsbD (q - (64 - 8 * n)) := by
  unfold own_y
  rw [BitVec.getLsbD_shiftLeft]
  have : ¬ q < 64 - 8 * n := by omega
  simp [hq, this]
theorem own_d_bv (x : Int64) {n : Nat} (hn1 : 1 ≤ n) (hn : n < 9) : ∀ t, t < n → (own_d (fun j => own_b x (Int32.ofNat n) (Int32.ofNat j)) t).toBitVec = (own_y x.toBitVec n).sshiftRight (64 - 8 * (t + 1)) := by
  intro t
  induction t with
  | zero =>
    intro _
    show (own_b x (Int32.ofNat n) (Int32.ofNat 0)).toInt64.toBitVec = _
    rw [own_b_eq, Int32.toBitVec_toInt64, Int8.toBitVec_toInt32]
    apply BitVec.eq_of_getLsbD_eq
    intro j hj
    rw [BitVec.getLsbD_sshiftRight]
    have hj' : ¬ 64 ≤ j := by omega
    simp only [hj', decide_false, Bool.not_false, Bool.true_and]
    have m1 : (own_c x (Int32.ofNat n) (Int32.ofNat 0)).toBitVec.msb = (own_y x.toBitVec n).msb := by
      rw [BitVec.msb_eq_getLsbD_last, BitVec.msb_eq_getLsbD_last, own_c_bit x hn (by omega) (by omega), own_y_bit _ hn (by omega) (by omega)]
      congr 1; omega
    by_cases q : j < 8
    · have a1 : 64 - 8 * (0 + 1) + j < 64 := by omega
      rw [if_pos a1, own_y_bit _ hn (by omega) a1]
      have h1 : j < 32 := by omega
      simp only [BitVec.getLsbD_signExtend, hj, h1, q, decide_true, Bool.true_and, if_true]
      rw [own_c_bit x hn (by omega) q]
      congr 1; omega
    · have a1 : ¬ 64 - 8 * (0 + 1) + j < 64 := by omega
      rw [if_neg a1, ← m1]
      by_cases r : j < 32
      · simp only [BitVec.getLsbD_signExtend, hj, r, q, decide_true, Bool.true_and, if_true, if_false]
      · simp only [BitVec.getLsbD_signExtend, BitVec.msb_signExtend, hj, r, q, decide_true, Bool.true_and, if_true, if_false]
        simp
  | succ t ih =>
    intro ht
    have e : ((8 : Int32) &&& 0x3f).toInt64 = 8 := by decide
    have e2 : (8 : Int64).toBitVec.smod 64 = 8#64 := by decide
    rw [own_d, e, Int64.toBitVec_or, Int64.toBitVec_shiftLeft, ih (by omega), e2, own_b_eq, Int32.toBitVec_toInt64, Int32.toBitVec_and, Int8.toBitVec_toInt32]
    apply BitVec.eq_of_getLsbD_eq
    intro j hj
    rw [BitVec.getLsbD_or, BitVec.shiftLeft_eq', BitVec.getLsbD_shiftLeft, BitVec.getLsbD_sshiftRight, BitVec.getLsbD_sshiftRight]
    have t8 : (8#64).toNat = 8 := rfl
    rw [t8]
    have hj' : ¬ 64 ≤ j := by omega
    have hj8 : ¬ 64 ≤ j - 8 := by omega
    have b255 : ∀ q, (255 : Int32).toBitVec.getLsbD q = decide (q < 8) := by
      intro q
      by_cases r : q < 32
      · revert q; decide
      · have : ¬ q < 8 := by omega
        rw [BitVec.getLsbD_of_ge _ _ (by omega)]
        simp [this]
    have mz : (((own_c x (Int32.ofNat n) (Int32.ofNat (t + 1))).toBitVec.signExtend 32) &&& (255 : Int32).toBitVec).msb = false := by
      rw [BitVec.msb_and]
      have : (255 : Int32).toBitVec.msb = false := by decide
      rw [this, Bool.and_false]
    by_cases q : j < 8
    · have h1 : j < 32 := by omega
      have a1 : 64 - 8 * (t + 1 + 1) + j < 64 := by omega
      simp only [hj, hj', q, h1, decide_true, decide_false, Bool.not_true, Bool.not_false, Bool.true_and, Bool.false_and, Bool.false_or, Bool.and_true, BitVec.getLsbD_signExtend, BitVec.getLsbD_and, b255, if_true, Bool.and_false]
      rw [if_pos a1, own_y_bit _ hn (by omega) a1, own_c_bit x hn (by omega) q]
      congr 1; omega
    · have zb : (((own_c x (Int32.ofNat n) (Int32.ofNat (t + 1))).toBitVec.signExtend 32 &&& (255 : Int32).toBitVec).signExtend 64).getLsbD j = false := by
        rw [BitVec.getLsbD_signExtend, mz]
        by_cases r : j < 32
        · rw [if_pos r, BitVec.getLsbD_and, b255]; simp [q]
        · rw [if_neg r]; simp
      rw [zb]
      simp only [hj, hj', hj8, q, decide_true, decide_false, Bool.not_true, Bool.not_false, Bool.true_and, Bool.and_true, Bool.or_false]
      have e9 : 64 - 8 * (t + 1) + (j - 8) = 64 - 8 * (t + 1 + 1) + j := by omega
      rw [e9]
theorem own_s1 : ∀ n, n < 9 → 1 ≤ n → ((((64 : Int32) - ((8 : Int32) * Int32.ofNat n)) &&& 0x3f).toInt64).toBitVec.smod 64 = BitVec.ofNat 64 (64 - 8 * n) := by decide
theorem own_key (x : Int64) {n : Nat} (hn1 : 1 ≤ n) (hn : n < 9) : own_d (fun j => own_b x (Int32.ofNat n) (Int32.ofNat j)) (n - 1) = (x <<< (((64 : Int32) - ((8 : Int32) * Int32.ofNat n)) &&& 0x3f).toInt64) >>> (((64 : Int32) - ((8 : Int32) * Int32.ofNat n)) &&& 0x3f).toInt64 := by
  apply Int64.toBitVec_inj.mp
  rw [own_d_bv x hn1 hn _ (by omega), Int64.toBitVec_shiftRight, Int64.toBitVec_shiftLeft, own_s1 n hn hn1, BitVec.sshiftRight_eq', BitVec.shiftLeft_eq', BitVec.toNat_ofNat]
  have e3 : (64 - 8 * n) % 2 ^ 64 = 64 - 8 * n := by omega
  have e4 : 64 - 8 * (n - 1 + 1) = 64 - 8 * n := by omega
  rw [e3, e4]
  rfl
theorem d1_0 : decode method_3_code 0 = .ok (.lload_n 0, 1) := by decide +kernel
theorem d1_1 : decode method_3_code 1 = .ok (.bipush 8, 2) := by decide +kernel
theorem d1_3 : decode method_3_code 3 = .ok (.iload_n 2, 1) := by decide +kernel
theorem d1_4 : decode method_3_code 4 = .ok (.iconst 1, 1) := by decide +kernel
theorem d1_5 : decode method_3_code 5 = .ok (.isub, 1) := by decide +kernel
theorem d1_6 : decode method_3_code 6 = .ok (.iload_n 3, 1) := by decide +kernel
theorem d1_7 : decode method_3_code 7 = .ok (.isub, 1) := by decide +kernel
theorem d1_8 : decode method_3_code 8 = .ok (.imul, 1) := by decide +kernel
theorem d1_9 : decode method_3_code 9 = .ok (.lushr, 1) := by decide +kernel
theorem d1_10 : decode method_3_code 10 = .ok (.l2i, 1) := by decide +kernel
theorem d1_11 : decode method_3_code 11 = .ok (.i2b, 1) := by decide +kernel
theorem d1_12 : decode method_3_code 12 = .ok (.ireturn, 1) := by decide +kernel
def Q1 (q1 : Int64) (p2 p3 : Int32) (h0 : Heap) (n0 : Nat) (v : Option Value) (h : Heap) (L : List Loc) : Prop := v = some (.int (own_b q1 p2 p3)) ∧ Fr n0 L ∧ h = h0
theorem pn1 : plainName "com/example/fatrow/fatrow/engine/FixedIntegerCodecDecodeLongPinLaw" = true := by first | (simp [plainName, overriddenIn]; done) | decide +kernel
theorem ef1 (m : MethodId) (x0 : Int64) (x1 : Int32) (x2 : Int32) : entryFrame m #[(.long x0), (.int x1), (.int x2)] 4 = mkF m 0 #[.val (.long x0), .second, .val (.int x1), .val (.int x2)] [] := by first | (simp [entryFrame, mkF, argsToLocals, Value.category]; done) | rfl
set_option maxRecDepth 65536 in
set_option maxHeartbeats 40000000 in
theorem rm1 (l : Launch) (Z : State) (a0 : Array Value) (hw : ∀ d ∈ tables_1, d.before a0 Z = true) (ws : List Jvm.Cond) (q1 : Int64) (p2 p3 : Int32) (h0 : Heap) (n0 : Nat) (Z0 : n0 ≤ h0.size)  :
    MetFree l (⟨"com/example/fatrow/fatrow/engine/FixedIntegerCodecDecodeLongPinLaw", "byteAt", "(JII)B"⟩ : MethodName) (head1 (Jvm.Cond.code (⟨"com/example/fatrow/fatrow/engine/FixedIntegerCodecDecodeLongPinLaw", "byteAt", "(JII)B"⟩ : MethodName) method_3_code 4 (some .byte) :: ws) ({ frames := 0, cells := 0, slots := 0, locals := 0 } : Room)) (fun a U => a = #[(.long q1), (.int p2), (.int p3)] ∧ Z.Warmed39 U.vm ∧ U.heap = h0) (fun _ _ _ _ _ => True) (fun _ U o U' => ∃ v L, o = .returned v ∧ Q1 q1 p2 p3 h0 n0 v U'.heap L ∧ FrameEnd U o U' L ({ frames := 0, cells := 0, slots := 0, locals := 0 } : Room).cells ({ frames := 0, cells := 0, slots := 0, locals := 0 } : Room).slots) := by
  refine MetFree.of_bodySF (plainFor_of_name pn1) hisR ?_
  intro p e s m args below meth c s₁ Bd hml0 hP hK
  obtain ⟨rfl, hZ, hh⟩ := hP
  have hx := Bd.exec
  have hby := Bd.bytes
  have hml : c.maxLocals = 4 := hml0
  have hown : s.vm.findClass "com/example/fatrow/fatrow/engine/FixedIntegerCodecDecodeLongPinLaw" = some m.cls := findClass_of_methodNamed Bd.named
  have hnm := (name_of_methodNamed Bd.named Bd.method).1
  have X0 : Stand p l e ({ frames := 0, cells := 0, slots := 0, locals := 0 } : Room) s m #[(.long q1), (.int p2), (.int p3)] below meth c s₁ [] 0 0 := Stand.of_body Bd
  have e0 : s₁.heap = h0 := by rw [← hh, Bd.state]; rfl
  have N0 := Fr.nil n0
  have pre0 : ∀ t, Steps p.tables e below (s₁.setTop (mkF m 0 #[.val (.long q1), .second, .val (.int p2), .val (.int p3)] [])) t → Steps p.tables e below (s₁.setTop (entryFrame m #[(.long q1), (.int p2), (.int p3)] 4)) t := fun t k => castTop (ef1 m q1 p2 p3) k
  obtain ⟨fs, hr, hrun, hended, hW, hsame⟩ := X0.leave (v := some (.int (nar .byte ((((q1.toUInt64 >>> (((8 : Int32) * ((p2 - (1 : Int32)) - p3)) &&& 0x3f).toInt64.toUInt64).toInt64).toInt32).toInt8.toInt32)))) (fun h => by rw [Bd.returns] at h; cases h)
  refine ⟨_, _, pre0 _ ?_, hrun, hended, _, _, rfl, ?_, ⟨_, rfl⟩, hW, hsame.mono (by decide) (by decide)⟩
  · show Steps p.tables e below (s₁.setTop (mkF m 0 #[.val (.long q1), .second, .val (.int p2), .val (.int p3)] [])) _
    refine XS.lloadN X0.here hx rfl (hb hby d1_0) rfl ?_
    show Steps p.tables e below (s₁.setTop (mkF m 1 #[.val (.long q1), .second, .val (.int p2), .val (.int p3)] [(.long q1)])) _
    refine XS.bipush X0.here hx rfl (hb hby d1_1) ?_
    show Steps p.tables e below (s₁.setTop (mkF m 3 #[.val (.long q1), .second, .val (.int p2), .val (.int p3)] [(.int (8 : Int32)), (.long q1)])) _
    refine XS.iloadN X0.here hx rfl (hb hby d1_3) rfl ?_
    show Steps p.tables e below (s₁.setTop (mkF m 4 #[.val (.long q1), .second, .val (.int p2), .val (.int p3)] [(.int p2), (.int (8 : Int32)), (.long q1)])) _
    refine XS.iconst X0.here hx rfl (hb hby d1_4) ?_
    show Steps p.tables e below (s₁.setTop (mkF m 5 #[.val (.long q1), .second, .val (.int p2), .val (.int p3)] [(.int (1 : Int32)), (.int p2), (.int (8 : Int32)), (.long q1)])) _
    refine XS.isub X0.here hx rfl (hb hby d1_5) rfl ?_
    show Steps p.tables e below (s₁.setTop (mkF m 6 #[.val (.long q1), .second, .val (.int p2), .val (.int p3)] [(.int (p2 - (1 : Int32))), (.int (8 : Int32)), (.long q1)])) _
    refine XS.iloadN X0.here hx rfl (hb hby d1_6) rfl ?_
    show Steps p.tables e below (s₁.setTop (mkF m 7 #[.val (.long q1), .second, .val (.int p2), .val (.int p3)] [(.int p3), (.int (p2 - (1 : Int32))), (.int (8 : Int32)), (.long q1)])) _
    refine XS.isub X0.here hx rfl (hb hby d1_7) rfl ?_
    show Steps p.tables e below (s₁.setTop (mkF m 8 #[.val (.long q1), .second, .val (.int p2), .val (.int p3)] [(.int ((p2 - (1 : Int32)) - p3)), (.int (8 : Int32)), (.long q1)])) _
    refine XS.imul X0.here hx rfl (hb hby d1_8) rfl ?_
    show Steps p.tables e below (s₁.setTop (mkF m 9 #[.val (.long q1), .second, .val (.int p2), .val (.int p3)] [(.int ((8 : Int32) * ((p2 - (1 : Int32)) - p3))), (.long q1)])) _
    refine XS.lushr X0.here hx rfl (hb hby d1_9) rfl ?_
    show Steps p.tables e below (s₁.setTop (mkF m 10 #[.val (.long q1), .second, .val (.int p2), .val (.int p3)] [(.long ((q1.toUInt64 >>> (((8 : Int32) * ((p2 - (1 : Int32)) - p3)) &&& 0x3f).toInt64.toUInt64).toInt64))])) _
    refine XS.l2i X0.here hx rfl (hb hby d1_10) rfl ?_
    show Steps p.tables e below (s₁.setTop (mkF m 11 #[.val (.long q1), .second, .val (.int p2), .val (.int p3)] [(.int (((q1.toUInt64 >>> (((8 : Int32) * ((p2 - (1 : Int32)) - p3)) &&& 0x3f).toInt64.toUInt64).toInt64).toInt32))])) _
    refine XS.i2b X0.here hx rfl (hb hby d1_11) rfl ?_
    show Steps p.tables e below (s₁.setTop (mkF m 12 #[.val (.long q1), .second, .val (.int p2), .val (.int p3)] [(.int ((((q1.toUInt64 >>> (((8 : Int32) * ((p2 - (1 : Int32)) - p3)) &&& 0x3f).toInt64.toUInt64).toInt64).toInt32).toInt8.toInt32))])) _
    exact retN X0 hx (t := .byte) Bd.returns (by simp) (hb hby d1_12) hr
  · show Q1 q1 p2 p3 h0 n0 _ s₁.heap _
    rw [e0]
    exact ⟨rfl, N0, rfl⟩
theorem d2_0 : decode prog_15_method_10_code 0 = .ok (.aload_n 0, 1) := by decide +kernel
theorem d2_1 : decode prog_15_method_10_code 1 = .ok (.iconst 0, 1) := by decide +kernel
theorem d2_2 : decode prog_15_method_10_code 2 = .ok (.baload, 1) := by decide +kernel
theorem d2_3 : decode prog_15_method_10_code 3 = .ok (.i2l, 1) := by decide +kernel
theorem d2_4 : decode prog_15_method_10_code 4 = .ok (.lstore_n 1, 1) := by decide +kernel
theorem d2_5 : decode prog_15_method_10_code 5 = .ok (.iconst 1, 1) := by decide +kernel
theorem d2_6 : decode prog_15_method_10_code 6 = .ok (.istore_n 3, 1) := by decide +kernel
theorem d2_7 : decode prog_15_method_10_code 7 = .ok (.iload_n 3, 1) := by decide +kernel
theorem d2_8 : decode prog_15_method_10_code 8 = .ok (.aload_n 0, 1) := by decide +kernel
theorem d2_9 : decode prog_15_method_10_code 9 = .ok (.arraylength, 1) := by decide +kernel
theorem d2_10 : decode prog_15_method_10_code 10 = .ok (.if_icmp .ge 23, 3) := by decide +kernel
theorem d2_13 : decode prog_15_method_10_code 13 = .ok (.lload_n 1, 1) := by decide +kernel
theorem d2_14 : decode prog_15_method_10_code 14 = .ok (.bipush 8, 2) := by decide +kernel
theorem d2_16 : decode prog_15_method_10_code 16 = .ok (.lshl, 1) := by decide +kernel
theorem d2_17 : decode prog_15_method_10_code 17 = .ok (.aload_n 0, 1) := by decide +kernel
theorem d2_18 : decode prog_15_method_10_code 18 = .ok (.iload_n 3, 1) := by decide +kernel
theorem d2_19 : decode prog_15_method_10_code 19 = .ok (.baload, 1) := by decide +kernel
theorem d2_20 : decode prog_15_method_10_code 20 = .ok (.sipush 255, 3) := by decide +kernel
theorem d2_23 : decode prog_15_method_10_code 23 = .ok (.iand, 1) := by decide +kernel
theorem d2_24 : decode prog_15_method_10_code 24 = .ok (.i2l, 1) := by decide +kernel
theorem d2_25 : decode prog_15_method_10_code 25 = .ok (.lor, 1) := by decide +kernel
theorem d2_26 : decode prog_15_method_10_code 26 = .ok (.lstore_n 1, 1) := by decide +kernel
theorem d2_27 : decode prog_15_method_10_code 27 = .ok (.iinc 3 1, 3) := by decide +kernel
theorem d2_30 : decode prog_15_method_10_code 30 = .ok (.goto (-23), 3) := by decide +kernel
theorem d2_33 : decode prog_15_method_10_code 33 = .ok (.lload_n 1, 1) := by decide +kernel
theorem d2_34 : decode prog_15_method_10_code 34 = .ok (.lreturn, 1) := by decide +kernel
def Q2 (f : Nat → Int32) (n : Nat) (h0 : Heap) (n0 : Nat) (v : Option Value) (h : Heap) (L : List Loc) : Prop := v = some (.long (own_d f (n - 1))) ∧ Fr n0 L ∧ h = h0
theorem pn2 : plainName "com/example/fatrow/fatrow/engine/FixedIntegerCodec" = true := by first | (simp [plainName, overriddenIn]; done) | decide +kernel
theorem ef2 (m : MethodId) (x0 : Addr) : entryFrame m #[(.ref x0)] 4 = mkF m 0 #[.val (.ref x0), .unset, .unset, .unset] [] := by first | (simp [entryFrame, mkF, argsToLocals, Value.category]; done) | rfl
set_option maxRecDepth 65536 in
set_option maxHeartbeats 40000000 in
theorem rm2 (l : Launch) (Z : State) (a0 : Array Value) (hw : ∀ d ∈ tables_1, d.before a0 Z = true) (ws : List Jvm.Cond) (a1 : Addr) (n : Nat) (f : Nat → Int32) (cl : Cell) (h0 : Heap) (n0 : Nat) (Z0 : n0 ≤ h0.size) (hn1 : 1 ≤ n) (hn : n < 9) (Ar : Arr Z h0 a1 cl .byte) (Sz : cl.slots.size = (Int32.ofNat n).toNatClampNeg) (hat : ∀ j, j < n → cl.slots[j]? = some (.int (f j))) :
    MetFree l (⟨"com/example/fatrow/fatrow/engine/FixedIntegerCodec", "decodeLong", "([B)J"⟩ : MethodName) (head1 (Jvm.Cond.code (⟨"com/example/fatrow/fatrow/engine/FixedIntegerCodec", "decodeLong", "([B)J"⟩ : MethodName) prog_15_method_10_code 4 (some .long) :: ws) ({ frames := 0, cells := 0, slots := 0, locals := 0 } : Room)) (fun a U => a = #[(.ref a1)] ∧ Z.Warmed39 U.vm ∧ U.heap = h0) (fun _ _ _ _ _ => True) (fun _ U o U' => ∃ v L, o = .returned v ∧ Q2 f n h0 n0 v U'.heap L ∧ FrameEnd U o U' L ({ frames := 0, cells := 0, slots := 0, locals := 0 } : Room).cells ({ frames := 0, cells := 0, slots := 0, locals := 0 } : Room).slots) := by
  refine MetFree.of_bodySF (plainFor_of_name pn2) hisR ?_
  intro p e s m args below meth c s₁ Bd hml0 hP hK
  obtain ⟨rfl, hZ, hh⟩ := hP
  have hx := Bd.exec
  have hby := Bd.bytes
  have hml : c.maxLocals = 4 := hml0
  have hown : s.vm.findClass "com/example/fatrow/fatrow/engine/FixedIntegerCodec" = some m.cls := findClass_of_methodNamed Bd.named
  have hnm := (name_of_methodNamed Bd.named Bd.method).1
  have X0 : Stand p l e ({ frames := 0, cells := 0, slots := 0, locals := 0 } : Room) s m #[(.ref a1)] below meth c s₁ [] 0 0 := Stand.of_body Bd
  have e0 : s₁.heap = h0 := by rw [← hh, Bd.state]; rfl
  have N0 := Fr.nil n0
  have pre0 : ∀ t, Steps p.tables e below (s₁.setTop (mkF m 0 #[.val (.ref a1), .unset, .unset, .unset] [])) t → Steps p.tables e below (s₁.setTop (entryFrame m #[(.ref a1)] 4)) t := fun t k => castTop (ef2 m a1) k
  have hin : ∀ i, i < n → ¬ (Int32.ofNat i < 0 ∨ cl.slots.size ≤ (Int32.ofNat i).toNatClampNeg) := fun i hi => by
    rw [Sz, own_n32 n hn, own_n32 i (by omega)]
    exact fun q => q.elim (own_nn i (by omega)) (fun q => by omega)
  have hats : ∀ i, i < n → cl.slots[(Int32.ofNat i).toNatClampNeg]? = some (.int (f i)) := fun i hi => by rw [own_n32 i (by omega)]; exact hat i hi
  have loop : ∀ (k t : Nat) (T1 : State) (L1 : List Loc), t + 1 + k = n → Stand p l e ({ frames := 0, cells := 0, slots := 0, locals := 0 } : Room) s m #[(.ref a1)] below meth c T1 L1 0 0 → T1.heap = h0 → Fr n0 L1 → ∃ (T' : State) (L' : List Loc), Stand p l e ({ frames := 0, cells := 0, slots := 0, locals := 0 } : Room) s m #[(.ref a1)] below meth c T' L' 0 0 ∧ T'.heap = h0 ∧ Fr n0 L' ∧ ∀ target, Steps p.tables e below (T'.setTop (mkF m 33 #[.val (.ref a1), .val (.long (own_d f (n - 1))), .second, .val (.int (Int32.ofNat n))] [])) target → Steps p.tables e below (T1.setTop (mkF m 7 #[.val (.ref a1), .val (.long (own_d f t)), .second, .val (.int (Int32.ofNat (t + 1)))] [])) target := by
    intro k
    induction k with
    | zero =>
      intro t T1 L1 hk Xa ea Na
      have ht : t = n - 1 := by omega
      have ht1 : t + 1 = n := by omega
      refine ⟨T1, L1, Xa, ea, Na, fun target kt => ?_⟩
      rw [ht1, ht]
      show Steps p.tables e below (T1.setTop (mkF m 7 #[.val (.ref a1), .val (.long (own_d f (n - 1))), .second, .val (.int (Int32.ofNat n))] [])) _
      refine XS.iloadN Xa.here hx rfl (hb hby d2_7) rfl ?_
      show Steps p.tables e below (T1.setTop (mkF m 8 #[.val (.ref a1), .val (.long (own_d f (n - 1))), .second, .val (.int (Int32.ofNat n))] [(.int (Int32.ofNat n))])) _
      refine XS.aloadN Xa.here hx rfl (hb hby d2_8) rfl rfl ?_
      show Steps p.tables e below (T1.setTop (mkF m 9 #[.val (.ref a1), .val (.long (own_d f (n - 1))), .second, .val (.int (Int32.ofNat n))] [(.ref a1), (.int (Int32.ofNat n))])) _
      refine Xa.arraylength hx (by rw [ea]; exact Ar.1) (State.isArrayOf_alike hZ.alike Ar.2.1) (g := (mkF m 9 #[.val (.ref a1), .val (.long (own_d f (n - 1))), .second, .val (.int (Int32.ofNat n))] [(.ref a1), (.int (Int32.ofNat n))])) rfl rfl (hb hby d2_9) _ ?_
      rw [len_of Sz (own_nn n hn)]
      show Steps p.tables e below (T1.setTop (mkF m 10 #[.val (.ref a1), .val (.long (own_d f (n - 1))), .second, .val (.int (Int32.ofNat n))] [(.int (Int32.ofNat n)), (.int (Int32.ofNat n))])) _
      refine XS.icmpYes Xa.here hx rfl (pc0 := 10) (pc' := 33) rfl (hb hby d2_10) rfl (flt ((Int32.lt_irrefl) : ¬ ((Int32.ofNat n) < (Int32.ofNat n)))).2.1 (by decide) (by decide) ?_
      exact kt
    | succ k ih =>
      intro t T1 L1 hk Xa ea Na
      obtain ⟨T', L', X', e', N', st'⟩ := ih (t + 1) T1 _ (by omega) Xa ea Na
      refine ⟨T', L', X', e', N', fun target kt => ?_⟩
      show Steps p.tables e below (T1.setTop (mkF m 7 #[.val (.ref a1), .val (.long (own_d f t)), .second, .val (.int (Int32.ofNat (t + 1)))] [])) _
      refine XS.iloadN Xa.here hx rfl (hb hby d2_7) rfl ?_
      show Steps p.tables e below (T1.setTop (mkF m 8 #[.val (.ref a1), .val (.long (own_d f t)), .second, .val (.int (Int32.ofNat (t + 1)))] [(.int (Int32.ofNat (t + 1)))])) _
      refine XS.aloadN Xa.here hx rfl (hb hby d2_8) rfl rfl ?_
      show Steps p.tables e below (T1.setTop (mkF m 9 #[.val (.ref a1), .val (.long (own_d f t)), .second, .val (.int (Int32.ofNat (t + 1)))] [(.ref a1), (.int (Int32.ofNat (t + 1)))])) _
      refine Xa.arraylength hx (by rw [ea]; exact Ar.1) (State.isArrayOf_alike hZ.alike Ar.2.1) (g := (mkF m 9 #[.val (.ref a1), .val (.long (own_d f t)), .second, .val (.int (Int32.ofNat (t + 1)))] [(.ref a1), (.int (Int32.ofNat (t + 1)))])) rfl rfl (hb hby d2_9) _ ?_
      rw [len_of Sz (own_nn n hn)]
      show Steps p.tables e below (T1.setTop (mkF m 10 #[.val (.ref a1), .val (.long (own_d f t)), .second, .val (.int (Int32.ofNat (t + 1)))] [(.int (Int32.ofNat n)), (.int (Int32.ofNat (t + 1)))])) _
      refine XS.icmpNo Xa.here hx rfl (hb hby d2_10) rfl (tlt ((own_lti n hn (t + 1) (by omega)) : (Int32.ofNat (t + 1)) < (Int32.ofNat n))).2.1 ?_
      show Steps p.tables e below (T1.setTop (mkF m 13 #[.val (.ref a1), .val (.long (own_d f t)), .second, .val (.int (Int32.ofNat (t + 1)))] [])) _
      refine XS.lloadN Xa.here hx rfl (hb hby d2_13) rfl ?_
      show Steps p.tables e below (T1.setTop (mkF m 14 #[.val (.ref a1), .val (.long (own_d f t)), .second, .val (.int (Int32.ofNat (t + 1)))] [(.long (own_d f t))])) _
      refine XS.bipush Xa.here hx rfl (hb hby d2_14) ?_
      show Steps p.tables e below (T1.setTop (mkF m 16 #[.val (.ref a1), .val (.long (own_d f t)), .second, .val (.int (Int32.ofNat (t + 1)))] [(.int (8 : Int32)), (.long (own_d f t))])) _
      refine XS.lshl Xa.here hx rfl (hb hby d2_16) rfl ?_
      show Steps p.tables e below (T1.setTop (mkF m 17 #[.val (.ref a1), .val (.long (own_d f t)), .second, .val (.int (Int32.ofNat (t + 1)))] [(.long ((own_d f t) <<< ((8 : Int32) &&& 0x3f).toInt64))])) _
      refine XS.aloadN Xa.here hx rfl (hb hby d2_17) rfl rfl ?_
      show Steps p.tables e below (T1.setTop (mkF m 18 #[.val (.ref a1), .val (.long (own_d f t)), .second, .val (.int (Int32.ofNat (t + 1)))] [(.ref a1), (.long ((own_d f t) <<< ((8 : Int32) &&& 0x3f).toInt64))])) _
      refine XS.iloadN Xa.here hx rfl (hb hby d2_18) rfl ?_
      show Steps p.tables e below (T1.setTop (mkF m 19 #[.val (.ref a1), .val (.long (own_d f t)), .second, .val (.int (Int32.ofNat (t + 1)))] [(.int (Int32.ofNat (t + 1))), (.ref a1), (.long ((own_d f t) <<< ((8 : Int32) &&& 0x3f).toInt64))])) _
      refine Xa.baloadBytes hx (j := (Int32.ofNat (t + 1))) (v := (.int (f (t + 1)))) (by rw [ea]; exact Ar.1) (State.isArrayOf_alike hZ.alike Ar.2.1) Ar.2.2 (hin (t + 1) (by omega)) (hats (t + 1) (by omega)) (g := (mkF m 19 #[.val (.ref a1), .val (.long (own_d f t)), .second, .val (.int (Int32.ofNat (t + 1)))] [(.int (Int32.ofNat (t + 1))), (.ref a1), (.long ((own_d f t) <<< ((8 : Int32) &&& 0x3f).toInt64))])) rfl rfl (hb hby d2_19) _ ?_
      show Steps p.tables e below (T1.setTop (mkF m 20 #[.val (.ref a1), .val (.long (own_d f t)), .second, .val (.int (Int32.ofNat (t + 1)))] [(.int (f (t + 1))), (.long ((own_d f t) <<< ((8 : Int32) &&& 0x3f).toInt64))])) _
      refine XS.sipush Xa.here hx rfl (hb hby d2_20) ?_
      show Steps p.tables e below (T1.setTop (mkF m 23 #[.val (.ref a1), .val (.long (own_d f t)), .second, .val (.int (Int32.ofNat (t + 1)))] [(.int (255 : Int32)), (.int (f (t + 1))), (.long ((own_d f t) <<< ((8 : Int32) &&& 0x3f).toInt64))])) _
      refine XS.iand Xa.here hx rfl (hb hby d2_23) rfl ?_
      show Steps p.tables e below (T1.setTop (mkF m 24 #[.val (.ref a1), .val (.long (own_d f t)), .second, .val (.int (Int32.ofNat (t + 1)))] [(.int ((f (t + 1)) &&& (255 : Int32))), (.long ((own_d f t) <<< ((8 : Int32) &&& 0x3f).toInt64))])) _
      refine XS.i2l Xa.here hx rfl (hb hby d2_24) rfl ?_
      show Steps p.tables e below (T1.setTop (mkF m 25 #[.val (.ref a1), .val (.long (own_d f t)), .second, .val (.int (Int32.ofNat (t + 1)))] [(.long (((f (t + 1)) &&& (255 : Int32)).toInt64)), (.long ((own_d f t) <<< ((8 : Int32) &&& 0x3f).toInt64))])) _
      refine XS.lor Xa.here hx rfl (hb hby d2_25) rfl ?_
      show Steps p.tables e below (T1.setTop (mkF m 26 #[.val (.ref a1), .val (.long (own_d f t)), .second, .val (.int (Int32.ofNat (t + 1)))] [(.long (((own_d f t) <<< ((8 : Int32) &&& 0x3f).toInt64) ||| (((f (t + 1)) &&& (255 : Int32)).toInt64)))])) _
      refine XS.lstoreN Xa.here hx rfl (hb hby d2_26) rfl (l' := #[.val (.ref a1), .val (.long (((own_d f t) <<< ((8 : Int32) &&& 0x3f).toInt64) ||| (((f (t + 1)) &&& (255 : Int32)).toInt64))), .second, .val (.int (Int32.ofNat (t + 1)))]) rfl ?_
      show Steps p.tables e below (T1.setTop (mkF m 27 #[.val (.ref a1), .val (.long (((own_d f t) <<< ((8 : Int32) &&& 0x3f).toInt64) ||| (((f (t + 1)) &&& (255 : Int32)).toInt64))), .second, .val (.int (Int32.ofNat (t + 1)))] [])) _
      refine XS.iinc Xa.here hx rfl (hb hby d2_27) rfl (l' := #[.val (.ref a1), .val (.long (((own_d f t) <<< ((8 : Int32) &&& 0x3f).toInt64) ||| (((f (t + 1)) &&& (255 : Int32)).toInt64))), .second, .val (.int ((Int32.ofNat (t + 1)) + (1 : Int32)))]) rfl ?_
      show Steps p.tables e below (T1.setTop (mkF m 30 #[.val (.ref a1), .val (.long (((own_d f t) <<< ((8 : Int32) &&& 0x3f).toInt64) ||| (((f (t + 1)) &&& (255 : Int32)).toInt64))), .second, .val (.int ((Int32.ofNat (t + 1)) + (1 : Int32)))] [])) _
      refine XS.goto Xa.here hx rfl (pc0 := 30) (pc' := 7) rfl (hb hby d2_30) (by decide) (by decide) ?_
      rw [own_one]
      exact st' target kt
  obtain ⟨TL, LL, XL, eL, NL, stL⟩ := loop (n - 1) 0 s₁ [] (by omega) X0 e0 N0
  obtain ⟨fs, hr, hrun, hended, hW, hsame⟩ := XL.leave (v := some (.long (own_d f (n - 1)))) (fun h => by rw [Bd.returns] at h; cases h)
  refine ⟨_, _, pre0 _ ?_, hrun, hended, _, _, rfl, ?_, ⟨_, rfl⟩, hW, hsame.mono (by decide) (by decide)⟩
  · show Steps p.tables e below (s₁.setTop (mkF m 0 #[.val (.ref a1), .unset, .unset, .unset] [])) _
    refine XS.aloadN X0.here hx rfl (hb hby d2_0) rfl rfl ?_
    show Steps p.tables e below (s₁.setTop (mkF m 1 #[.val (.ref a1), .unset, .unset, .unset] [(.ref a1)])) _
    refine XS.iconst X0.here hx rfl (hb hby d2_1) ?_
    show Steps p.tables e below (s₁.setTop (mkF m 2 #[.val (.ref a1), .unset, .unset, .unset] [(.int (0 : Int32)), (.ref a1)])) _
    refine X0.baloadBytes hx (j := (0 : Int32)) (v := (.int (f 0))) (by rw [e0]; exact Ar.1) (State.isArrayOf_alike hZ.alike Ar.2.1) Ar.2.2 (hin 0 (by omega)) (hats 0 (by omega)) (g := (mkF m 2 #[.val (.ref a1), .unset, .unset, .unset] [(.int (0 : Int32)), (.ref a1)])) rfl rfl (hb hby d2_2) _ ?_
    show Steps p.tables e below (s₁.setTop (mkF m 3 #[.val (.ref a1), .unset, .unset, .unset] [(.int (f 0))])) _
    refine XS.i2l X0.here hx rfl (hb hby d2_3) rfl ?_
    show Steps p.tables e below (s₁.setTop (mkF m 4 #[.val (.ref a1), .unset, .unset, .unset] [(.long ((f 0).toInt64))])) _
    refine XS.lstoreN X0.here hx rfl (hb hby d2_4) rfl (l' := #[.val (.ref a1), .val (.long ((f 0).toInt64)), .second, .unset]) rfl ?_
    show Steps p.tables e below (s₁.setTop (mkF m 5 #[.val (.ref a1), .val (.long ((f 0).toInt64)), .second, .unset] [])) _
    refine XS.iconst X0.here hx rfl (hb hby d2_5) ?_
    show Steps p.tables e below (s₁.setTop (mkF m 6 #[.val (.ref a1), .val (.long ((f 0).toInt64)), .second, .unset] [(.int (1 : Int32))])) _
    refine XS.istoreN X0.here hx rfl (hb hby d2_6) rfl (l' := #[.val (.ref a1), .val (.long ((f 0).toInt64)), .second, .val (.int (1 : Int32))]) rfl ?_
    refine stL _ ?_
    show Steps p.tables e below (TL.setTop (mkF m 33 #[.val (.ref a1), .val (.long (own_d f (n - 1))), .second, .val (.int (Int32.ofNat n))] [])) _
    refine XS.lloadN XL.here hx rfl (hb hby d2_33) rfl ?_
    show Steps p.tables e below (TL.setTop (mkF m 34 #[.val (.ref a1), .val (.long (own_d f (n - 1))), .second, .val (.int (Int32.ofNat n))] [(.long (own_d f (n - 1)))])) _
    exact retOut XL hx Bd.returns rfl (by simp [Value.isRef, FieldType.isReference]) (hb hby d2_34) hr
  · show Q2 f n h0 n0 _ TL.heap _
    rw [eL]
    exact ⟨rfl, NL, rfl⟩
theorem pd0_0 : parseMethodDescriptor "(JII)B" = some ⟨[.long, .int, .int], some .byte⟩ := by decide +kernel
theorem pd0_1 : parseMethodDescriptor "([B)J" = some ⟨[(.array .byte)], some .long⟩ := by decide +kernel
def Q0 (n0 : Nat) (v : Option Value) (h : Heap) (L : List Loc) : Prop := v = some (.int (1 : Int32)) ∧ Fr n0 L
theorem pn0 : plainName "com/example/fatrow/fatrow/engine/FixedIntegerCodecDecodeLongPinLaw" = true := by first | (simp [plainName, overriddenIn]; done) | decide +kernel
theorem ef0 (m : MethodId) (x0 : Int64) (x1 : Int32) : entryFrame m #[(.long x0), (.int x1)] maxLocals = mkF m 0 #[.val (.long x0), .second, .val (.int x1), .unset, .unset, .unset, .unset, .unset] [] := by first | (simp [entryFrame, mkF, argsToLocals, Value.category, maxLocals]; done) | rfl
set_option maxRecDepth 65536 in
set_option maxHeartbeats 40000000 in
theorem rm0 (l : Launch) (Z : State) (a0 : Array Value) (hw : ∀ d ∈ tables_1, d.before a0 Z = true) (ws : List Jvm.Cond) (q1 : Int64) (p2 : Int32) (h0 : Heap) (n0 : Nat) (Z0 : n0 ≤ h0.size)  :
    MetFree l x (head1 (Jvm.Cond.code x code maxLocals ret :: ws) room_1) (fun a U => a = #[(.long q1), (.int p2)] ∧ Z.Warmed39 U.vm ∧ U.heap = h0) (fun _ _ _ _ _ => True) (fun _ U o U' => ∃ v L, o = .returned v ∧ Q0 n0 v U'.heap L ∧ FrameEnd U o U' L room_1.cells room_1.slots) := by
  refine MetFree.of_bodySF (plainFor_of_name pn0) hisR ?_
  intro p e s m args below meth c s₁ Bd hml0 hP hK
  obtain ⟨rfl, hZ, hh⟩ := hP
  have hx := Bd.exec
  have hby := Bd.bytes
  have hml : c.maxLocals = 8 := hml0
  have hown : s.vm.findClass "com/example/fatrow/fatrow/engine/FixedIntegerCodecDecodeLongPinLaw" = some m.cls := findClass_of_methodNamed Bd.named
  have hnm := (name_of_methodNamed Bd.named Bd.method).1
  have X0 : Stand p l e room_1 s m #[(.long q1), (.int p2)] below meth c s₁ [] 0 0 := Stand.of_body Bd
  have e0 : s₁.heap = h0 := by rw [← hh, Bd.state]; rfl
  have N0 := Fr.nil n0
  have pre0 : ∀ t, Steps p.tables e below (s₁.setTop (mkF m 0 #[.val (.long q1), .second, .val (.int p2), .unset, .unset, .unset, .unset, .unset] [])) t → Steps p.tables e below (s₁.setTop (entryFrame m #[(.long q1), (.int p2)] maxLocals)) t := fun t k => castTop (ef0 m q1 p2) k
  obtain ⟨n, hn1, hn, hm⟩ := own_mask p2
  obtain ⟨T1, h1, k1, X1, e1, E1, A1, st1⟩ := newP X0 hx hZ (hw _ (List.mem_of_getElem? (i := 0) rfl)) e0 (g := (mkF m 8 #[.val (.long q1), .second, .val (.int p2), .val (.int (Int32.ofNat n)), .unset, .unset, .unset, .unset] [(.int (Int32.ofNat n))])) rfl (hb hby at_8) rfl (own_nn n hn) (cap := 8) (by rw [own_n32 n hn]; omega) (by decide) (by decide) (by decide)
  obtain ⟨b1, g1⟩ : ∃ z, z = h0.size := ⟨_, rfl⟩
  rw [← g1] at A1 st1
  have gn_b1 : n0 ≤ b1 := Nat.le_trans Z0 (Nat.le_of_eq g1.symm)
  have Zs1 : n0 ≤ h1.size := Nat.le_trans Z0 E1.1
  have Va_b1 := Arv.new A1 (own_nn n hn)
  have V0 : Arv Z h1 b1 k1 .byte (Int32.ofNat n) (own_vals q1 n 0) (.int (0 : Int32)) := by rw [own_vals_zero]; exact Va_b1.pad (pad_rep [] (.int (0 : Int32)) n)
  obtain ⟨_, _, ⟨T2, L2, k2, n2⟩, -, X2, ⟨Lc2, hQ2, l2, y2, z2⟩, st2⟩ := Jvm.LawKit.callS X1 hx (y := (⟨"com/example/fatrow/fatrow/engine/FixedIntegerCodecDecodeLongPinLaw", "byteAt", "(JII)B"⟩ : MethodName)) hown (mvT hZ (hw _ (List.mem_of_getElem? (i := 1) rfl))) (mvT hZ (hw _ (List.mem_of_getElem? (i := 2) rfl))) (mvT hZ (hw _ (List.mem_of_getElem? (i := 3) rfl))) (mvT hZ (hw _ (List.mem_of_getElem? (i := 4) rfl))) (by decide) (backOf (W := 2) (rm1 l Z a0 hw [] q1 (Int32.ofNat n) (0 : Int32) h1 n0 Zs1) hZ (hw _ (List.mem_of_getElem? (i := 4) rfl)) (hw _ (List.mem_of_getElem? (i := 3) rfl)) (by decide) (by decide)) (g := (mkF m 18 #[.val (.long q1), .second, .val (.int p2), .val (.int (Int32.ofNat n)), .val (.ref b1), .unset, .unset, .unset] [(.int (0 : Int32)), (.int (Int32.ofNat n)), (.long q1), (.int (0 : Int32)), (.ref b1)])) rfl (by rw [hml]; rfl) (argsL := [(.long q1), (.int (Int32.ofNat n)), (.int (0 : Int32))]) (rest := [(.int (0 : Int32)), (.ref b1)]) (lenOf pd0_0 rfl) rfl (by show 2 * 0 + _ ≤ _; exact Nat.le_of_eq rfl) (hb hby at_18) (fun _ _ => ⟨rfl, e1, (by decide : 1 + 0 ≤ _), (by decide : 8 + 0 ≤ _)⟩)
  dsimp only [Pt.U, Pt.locs, Pt.cells, Pt.slots] at X2 l2 y2 z2 st2 hQ2
  subst l2 y2 z2
  obtain ⟨rfl, Nq2, e2⟩ := hQ2
  have N2 := Fr.app N0 Nq2
  obtain ⟨cl3, Ar3, q3, Sz3, Nn3, Hs3, Gs3⟩ := V0
  have hin3 : ¬ ((0 : Int32) < 0 ∨ cl3.slots.size ≤ ((0 : Int32)).toNatClampNeg) := by rw [Sz3, own_n32 n hn]; exact fun q => q.elim (by decide) (fun q => by have q' : n ≤ 0 := q; omega)
  obtain ⟨T4, h4, X4, e4, W4, st4⟩ := stB X2 hx hZ e2 Ar3 (j := (0 : Int32)) hin3 (g := (mkF m 21 #[.val (.long q1), .second, .val (.int p2), .val (.int (Int32.ofNat n)), .val (.ref b1), .unset, .unset, .unset] [(.int (own_b q1 (Int32.ofNat n) (0 : Int32))), (.int (0 : Int32)), (.ref b1)])) rfl rfl (hb hby at_21)
  have V_W4 := Arv.set Ar3 q3 Sz3 Nn3 Hs3 Gs3 (fits_nar_byte _) W4 0 rfl (by rw [own_vals_len]; omega)
  have V_W4' : Arv Z h4 b1 k1 .byte (Int32.ofNat n) (own_vals q1 n 1) (.int (0 : Int32)) := by rw [← own_vals_set q1 n 0 (by omega)]; exact V_W4
  have N4 := Fr.snoc X4 N2 gn_b1
  have Zs4 : n0 ≤ h4.size := Nat.le_trans Zs1 (Keep.of_wr W4).1
  obtain ⟨T5, h5, L5, X5, e5, N5, Zs5, V5, st5⟩ : ∃ (T' : State) (h' : Heap) (L' : List Loc), Stand p l e room_1 s m #[(.long q1), (.int p2)] below meth c T' L' 1 8 ∧ T'.heap = h' ∧ Fr n0 L' ∧ n0 ≤ h'.size ∧ Arv Z h' b1 k1 .byte (Int32.ofNat n) (own_vals q1 n 2) (.int (0 : Int32)) ∧ ∀ target, Steps p.tables e below (T'.setTop (mkF m 37 #[.val (.long q1), .second, .val (.int p2), .val (.int (Int32.ofNat n)), .val (.ref b1), .unset, .unset, .unset] [])) target → Steps p.tables e below (T4.setTop (mkF m 22 #[.val (.long q1), .second, .val (.int p2), .val (.int (Int32.ofNat n)), .val (.ref b1), .unset, .unset, .unset] [])) target := by
    by_cases hc1 : (1 : Int32) < (Int32.ofNat n)
    · have hk1 : 1 < n := own_lt n hn 1 (by decide) hc1
      obtain ⟨_, _, ⟨T6, L6, k6, n6⟩, -, X6, ⟨Lc6, hQ6, l6, y6, z6⟩, st6⟩ := Jvm.LawKit.callS X4 hx (y := (⟨"com/example/fatrow/fatrow/engine/FixedIntegerCodecDecodeLongPinLaw", "byteAt", "(JII)B"⟩ : MethodName)) hown (mvT hZ (hw _ (List.mem_of_getElem? (i := 1) rfl))) (mvT hZ (hw _ (List.mem_of_getElem? (i := 2) rfl))) (mvT hZ (hw _ (List.mem_of_getElem? (i := 3) rfl))) (mvT hZ (hw _ (List.mem_of_getElem? (i := 4) rfl))) (by decide) (backOf (W := 2) (rm1 l Z a0 hw [] q1 (Int32.ofNat n) (1 : Int32) h4 n0 Zs4) hZ (hw _ (List.mem_of_getElem? (i := 4) rfl)) (hw _ (List.mem_of_getElem? (i := 3) rfl)) (by decide) (by decide)) (g := (mkF m 33 #[.val (.long q1), .second, .val (.int p2), .val (.int (Int32.ofNat n)), .val (.ref b1), .unset, .unset, .unset] [(.int (1 : Int32)), (.int (Int32.ofNat n)), (.long q1), (.int (1 : Int32)), (.ref b1)])) rfl (by rw [hml]; rfl) (argsL := [(.long q1), (.int (Int32.ofNat n)), (.int (1 : Int32))]) (rest := [(.int (1 : Int32)), (.ref b1)]) (lenOf pd0_0 rfl) rfl (by show 2 * 0 + _ ≤ _; exact Nat.le_of_eq rfl) (hb hby at_33) (fun _ _ => ⟨rfl, e4, (by decide : 1 + 0 ≤ _), (by decide : 8 + 0 ≤ _)⟩)
      dsimp only [Pt.U, Pt.locs, Pt.cells, Pt.slots] at X6 l6 y6 z6 st6 hQ6
      subst l6 y6 z6
      obtain ⟨rfl, Nq6, e6⟩ := hQ6
      have N6 := Fr.app N4 Nq6
      obtain ⟨cl7, Ar7, q7, Sz7, Nn7, Hs7, Gs7⟩ := V_W4'
      have hin7 : ¬ ((1 : Int32) < 0 ∨ cl7.slots.size ≤ ((1 : Int32)).toNatClampNeg) := by rw [Sz7, own_n32 n hn]; exact fun q => q.elim (by decide) (fun q => by have q' : n ≤ 1 := q; omega)
      obtain ⟨T8, h8, X8, e8, W8, st8⟩ := stB X6 hx hZ e6 Ar7 (j := (1 : Int32)) hin7 (g := (mkF m 36 #[.val (.long q1), .second, .val (.int p2), .val (.int (Int32.ofNat n)), .val (.ref b1), .unset, .unset, .unset] [(.int (own_b q1 (Int32.ofNat n) (1 : Int32))), (.int (1 : Int32)), (.ref b1)])) rfl rfl (hb hby at_36)
      have V_W8 := Arv.set Ar7 q7 Sz7 Nn7 Hs7 Gs7 (fits_nar_byte _) W8 1 rfl (by rw [own_vals_len]; omega)
      have V_W8' : Arv Z h8 b1 k1 .byte (Int32.ofNat n) (own_vals q1 n 2) (.int (0 : Int32)) := by rw [← own_vals_set q1 n 1 (by omega)]; exact V_W8
      have N8 := Fr.snoc X8 N6 gn_b1
      have Zs8 : n0 ≤ h8.size := Nat.le_trans Zs4 (Keep.of_wr W8).1
      refine ⟨T8, _, _, X8, e8, N8, Zs8, V_W8', fun target kt => ?_⟩
      show Steps p.tables e below (T4.setTop (mkF m 22 #[.val (.long q1), .second, .val (.int p2), .val (.int (Int32.ofNat n)), .val (.ref b1), .unset, .unset, .unset] [])) _
      refine XS.iloadN X4.here hx rfl (hb hby at_22) rfl ?_
      show Steps p.tables e below (T4.setTop (mkF m 23 #[.val (.long q1), .second, .val (.int p2), .val (.int (Int32.ofNat n)), .val (.ref b1), .unset, .unset, .unset] [(.int (Int32.ofNat n))])) _
      refine XS.iconst X4.here hx rfl (hb hby at_23) ?_
      show Steps p.tables e below (T4.setTop (mkF m 24 #[.val (.long q1), .second, .val (.int p2), .val (.int (Int32.ofNat n)), .val (.ref b1), .unset, .unset, .unset] [(.int (1 : Int32)), (.int (Int32.ofNat n))])) _
      refine XS.icmpNo X4.here hx rfl (hb hby at_24) rfl (tlt (hc1 : (1 : Int32) < (Int32.ofNat n))).2.2.2 ?_
      show Steps p.tables e below (T4.setTop (mkF m 27 #[.val (.long q1), .second, .val (.int p2), .val (.int (Int32.ofNat n)), .val (.ref b1), .unset, .unset, .unset] [])) _
      refine XS.aload X4.here hx rfl (hb hby at_27) rfl rfl ?_
      show Steps p.tables e below (T4.setTop (mkF m 29 #[.val (.long q1), .second, .val (.int p2), .val (.int (Int32.ofNat n)), .val (.ref b1), .unset, .unset, .unset] [(.ref b1)])) _
      refine XS.iconst X4.here hx rfl (hb hby at_29) ?_
      show Steps p.tables e below (T4.setTop (mkF m 30 #[.val (.long q1), .second, .val (.int p2), .val (.int (Int32.ofNat n)), .val (.ref b1), .unset, .unset, .unset] [(.int (1 : Int32)), (.ref b1)])) _
      refine XS.lloadN X4.here hx rfl (hb hby at_30) rfl ?_
      show Steps p.tables e below (T4.setTop (mkF m 31 #[.val (.long q1), .second, .val (.int p2), .val (.int (Int32.ofNat n)), .val (.ref b1), .unset, .unset, .unset] [(.long q1), (.int (1 : Int32)), (.ref b1)])) _
      refine XS.iloadN X4.here hx rfl (hb hby at_31) rfl ?_
      show Steps p.tables e below (T4.setTop (mkF m 32 #[.val (.long q1), .second, .val (.int p2), .val (.int (Int32.ofNat n)), .val (.ref b1), .unset, .unset, .unset] [(.int (Int32.ofNat n)), (.long q1), (.int (1 : Int32)), (.ref b1)])) _
      refine XS.iconst X4.here hx rfl (hb hby at_32) ?_
      show Steps p.tables e below (T4.setTop (mkF m 33 #[.val (.long q1), .second, .val (.int p2), .val (.int (Int32.ofNat n)), .val (.ref b1), .unset, .unset, .unset] [(.int (1 : Int32)), (.int (Int32.ofNat n)), (.long q1), (.int (1 : Int32)), (.ref b1)])) _
      refine st6 _ ?_
      show Steps p.tables e below (T6.setTop (mkF m 36 #[.val (.long q1), .second, .val (.int p2), .val (.int (Int32.ofNat n)), .val (.ref b1), .unset, .unset, .unset] [(.int (own_b q1 (Int32.ofNat n) (1 : Int32))), (.int (1 : Int32)), (.ref b1)])) _
      refine st8 _ ?_
      exact kt
    · have hk1 : n ≤ 1 := own_nlt n hn 1 (by decide) hc1
      have V1' : Arv Z h4 b1 k1 .byte (Int32.ofNat n) (own_vals q1 n 2) (.int (0 : Int32)) := by rw [own_vals_end q1 n 1 hk1]; exact V_W4'
      refine ⟨T4, _, _, X4, e4, N4, Zs4, V1', fun target kt => ?_⟩
      show Steps p.tables e below (T4.setTop (mkF m 22 #[.val (.long q1), .second, .val (.int p2), .val (.int (Int32.ofNat n)), .val (.ref b1), .unset, .unset, .unset] [])) _
      refine XS.iloadN X4.here hx rfl (hb hby at_22) rfl ?_
      show Steps p.tables e below (T4.setTop (mkF m 23 #[.val (.long q1), .second, .val (.int p2), .val (.int (Int32.ofNat n)), .val (.ref b1), .unset, .unset, .unset] [(.int (Int32.ofNat n))])) _
      refine XS.iconst X4.here hx rfl (hb hby at_23) ?_
      show Steps p.tables e below (T4.setTop (mkF m 24 #[.val (.long q1), .second, .val (.int p2), .val (.int (Int32.ofNat n)), .val (.ref b1), .unset, .unset, .unset] [(.int (1 : Int32)), (.int (Int32.ofNat n))])) _
      refine XS.icmpYes X4.here hx rfl (pc0 := 24) (pc' := 37) rfl (hb hby at_24) rfl (flt (hc1 : ¬ ((1 : Int32) < (Int32.ofNat n)))).2.2.2 (by decide) (by decide) ?_
      exact kt
  obtain ⟨T9, h9, L9, X9, e9, N9, Zs9, V9, st9⟩ : ∃ (T' : State) (h' : Heap) (L' : List Loc), Stand p l e room_1 s m #[(.long q1), (.int p2)] below meth c T' L' 1 8 ∧ T'.heap = h' ∧ Fr n0 L' ∧ n0 ≤ h'.size ∧ Arv Z h' b1 k1 .byte (Int32.ofNat n) (own_vals q1 n 3) (.int (0 : Int32)) ∧ ∀ target, Steps p.tables e below (T'.setTop (mkF m 52 #[.val (.long q1), .second, .val (.int p2), .val (.int (Int32.ofNat n)), .val (.ref b1), .unset, .unset, .unset] [])) target → Steps p.tables e below (T5.setTop (mkF m 37 #[.val (.long q1), .second, .val (.int p2), .val (.int (Int32.ofNat n)), .val (.ref b1), .unset, .unset, .unset] [])) target := by
    by_cases hc2 : (2 : Int32) < (Int32.ofNat n)
    · have hk2 : 2 < n := own_lt n hn 2 (by decide) hc2
      obtain ⟨_, _, ⟨T10, L10, k10, n10⟩, -, X10, ⟨Lc10, hQ10, l10, y10, z10⟩, st10⟩ := Jvm.LawKit.callS X5 hx (y := (⟨"com/example/fatrow/fatrow/engine/FixedIntegerCodecDecodeLongPinLaw", "byteAt", "(JII)B"⟩ : MethodName)) hown (mvT hZ (hw _ (List.mem_of_getElem? (i := 1) rfl))) (mvT hZ (hw _ (List.mem_of_getElem? (i := 2) rfl))) (mvT hZ (hw _ (List.mem_of_getElem? (i := 3) rfl))) (mvT hZ (hw _ (List.mem_of_getElem? (i := 4) rfl))) (by decide) (backOf (W := 2) (rm1 l Z a0 hw [] q1 (Int32.ofNat n) (2 : Int32) h5 n0 Zs5) hZ (hw _ (List.mem_of_getElem? (i := 4) rfl)) (hw _ (List.mem_of_getElem? (i := 3) rfl)) (by decide) (by decide)) (g := (mkF m 48 #[.val (.long q1), .second, .val (.int p2), .val (.int (Int32.ofNat n)), .val (.ref b1), .unset, .unset, .unset] [(.int (2 : Int32)), (.int (Int32.ofNat n)), (.long q1), (.int (2 : Int32)), (.ref b1)])) rfl (by rw [hml]; rfl) (argsL := [(.long q1), (.int (Int32.ofNat n)), (.int (2 : Int32))]) (rest := [(.int (2 : Int32)), (.ref b1)]) (lenOf pd0_0 rfl) rfl (by show 2 * 0 + _ ≤ _; exact Nat.le_of_eq rfl) (hb hby at_48) (fun _ _ => ⟨rfl, e5, (by decide : 1 + 0 ≤ _), (by decide : 8 + 0 ≤ _)⟩)
      dsimp only [Pt.U, Pt.locs, Pt.cells, Pt.slots] at X10 l10 y10 z10 st10 hQ10
      subst l10 y10 z10
      obtain ⟨rfl, Nq10, e10⟩ := hQ10
      have N10 := Fr.app N5 Nq10
      obtain ⟨cl11, Ar11, q11, Sz11, Nn11, Hs11, Gs11⟩ := V5
      have hin11 : ¬ ((2 : Int32) < 0 ∨ cl11.slots.size ≤ ((2 : Int32)).toNatClampNeg) := by rw [Sz11, own_n32 n hn]; exact fun q => q.elim (by decide) (fun q => by have q' : n ≤ 2 := q; omega)
      obtain ⟨T12, h12, X12, e12, W12, st12⟩ := stB X10 hx hZ e10 Ar11 (j := (2 : Int32)) hin11 (g := (mkF m 51 #[.val (.long q1), .second, .val (.int p2), .val (.int (Int32.ofNat n)), .val (.ref b1), .unset, .unset, .unset] [(.int (own_b q1 (Int32.ofNat n) (2 : Int32))), (.int (2 : Int32)), (.ref b1)])) rfl rfl (hb hby at_51)
      have V_W12 := Arv.set Ar11 q11 Sz11 Nn11 Hs11 Gs11 (fits_nar_byte _) W12 2 rfl (by rw [own_vals_len]; omega)
      have V_W12' : Arv Z h12 b1 k1 .byte (Int32.ofNat n) (own_vals q1 n 3) (.int (0 : Int32)) := by rw [← own_vals_set q1 n 2 (by omega)]; exact V_W12
      have N12 := Fr.snoc X12 N10 gn_b1
      have Zs12 : n0 ≤ h12.size := Nat.le_trans Zs5 (Keep.of_wr W12).1
      refine ⟨T12, _, _, X12, e12, N12, Zs12, V_W12', fun target kt => ?_⟩
      show Steps p.tables e below (T5.setTop (mkF m 37 #[.val (.long q1), .second, .val (.int p2), .val (.int (Int32.ofNat n)), .val (.ref b1), .unset, .unset, .unset] [])) _
      refine XS.iloadN X5.here hx rfl (hb hby at_37) rfl ?_
      show Steps p.tables e below (T5.setTop (mkF m 38 #[.val (.long q1), .second, .val (.int p2), .val (.int (Int32.ofNat n)), .val (.ref b1), .unset, .unset, .unset] [(.int (Int32.ofNat n))])) _
      refine XS.iconst X5.here hx rfl (hb hby at_38) ?_
      show Steps p.tables e below (T5.setTop (mkF m 39 #[.val (.long q1), .second, .val (.int p2), .val (.int (Int32.ofNat n)), .val (.ref b1), .unset, .unset, .unset] [(.int (2 : Int32)), (.int (Int32.ofNat n))])) _
      refine XS.icmpNo X5.here hx rfl (hb hby at_39) rfl (tlt (hc2 : (2 : Int32) < (Int32.ofNat n))).2.2.2 ?_
      show Steps p.tables e below (T5.setTop (mkF m 42 #[.val (.long q1), .second, .val (.int p2), .val (.int (Int32.ofNat n)), .val (.ref b1), .unset, .unset, .unset] [])) _
      refine XS.aload X5.here hx rfl (hb hby at_42) rfl rfl ?_
      show Steps p.tables e below (T5.setTop (mkF m 44 #[.val (.long q1), .second, .val (.int p2), .val (.int (Int32.ofNat n)), .val (.ref b1), .unset, .unset, .unset] [(.ref b1)])) _
      refine XS.iconst X5.here hx rfl (hb hby at_44) ?_
      show Steps p.tables e below (T5.setTop (mkF m 45 #[.val (.long q1), .second, .val (.int p2), .val (.int (Int32.ofNat n)), .val (.ref b1), .unset, .unset, .unset] [(.int (2 : Int32)), (.ref b1)])) _
      refine XS.lloadN X5.here hx rfl (hb hby at_45) rfl ?_
      show Steps p.tables e below (T5.setTop (mkF m 46 #[.val (.long q1), .second, .val (.int p2), .val (.int (Int32.ofNat n)), .val (.ref b1), .unset, .unset, .unset] [(.long q1), (.int (2 : Int32)), (.ref b1)])) _
      refine XS.iloadN X5.here hx rfl (hb hby at_46) rfl ?_
      show Steps p.tables e below (T5.setTop (mkF m 47 #[.val (.long q1), .second, .val (.int p2), .val (.int (Int32.ofNat n)), .val (.ref b1), .unset, .unset, .unset] [(.int (Int32.ofNat n)), (.long q1), (.int (2 : Int32)), (.ref b1)])) _
      refine XS.iconst X5.here hx rfl (hb hby at_47) ?_
      show Steps p.tables e below (T5.setTop (mkF m 48 #[.val (.long q1), .second, .val (.int p2), .val (.int (Int32.ofNat n)), .val (.ref b1), .unset, .unset, .unset] [(.int (2 : Int32)), (.int (Int32.ofNat n)), (.long q1), (.int (2 : Int32)), (.ref b1)])) _
      refine st10 _ ?_
      show Steps p.tables e below (T10.setTop (mkF m 51 #[.val (.long q1), .second, .val (.int p2), .val (.int (Int32.ofNat n)), .val (.ref b1), .unset, .unset, .unset] [(.int (own_b q1 (Int32.ofNat n) (2 : Int32))), (.int (2 : Int32)), (.ref b1)])) _
      refine st12 _ ?_
      exact kt
    · have hk2 : n ≤ 2 := own_nlt n hn 2 (by decide) hc2
      have V2' : Arv Z h5 b1 k1 .byte (Int32.ofNat n) (own_vals q1 n 3) (.int (0 : Int32)) := by rw [own_vals_end q1 n 2 hk2]; exact V5
      refine ⟨T5, _, _, X5, e5, N5, Zs5, V2', fun target kt => ?_⟩
      show Steps p.tables e below (T5.setTop (mkF m 37 #[.val (.long q1), .second, .val (.int p2), .val (.int (Int32.ofNat n)), .val (.ref b1), .unset, .unset, .unset] [])) _
      refine XS.iloadN X5.here hx rfl (hb hby at_37) rfl ?_
      show Steps p.tables e below (T5.setTop (mkF m 38 #[.val (.long q1), .second, .val (.int p2), .val (.int (Int32.ofNat n)), .val (.ref b1), .unset, .unset, .unset] [(.int (Int32.ofNat n))])) _
      refine XS.iconst X5.here hx rfl (hb hby at_38) ?_
      show Steps p.tables e below (T5.setTop (mkF m 39 #[.val (.long q1), .second, .val (.int p2), .val (.int (Int32.ofNat n)), .val (.ref b1), .unset, .unset, .unset] [(.int (2 : Int32)), (.int (Int32.ofNat n))])) _
      refine XS.icmpYes X5.here hx rfl (pc0 := 39) (pc' := 52) rfl (hb hby at_39) rfl (flt (hc2 : ¬ ((2 : Int32) < (Int32.ofNat n)))).2.2.2 (by decide) (by decide) ?_
      exact kt
  obtain ⟨T13, h13, L13, X13, e13, N13, Zs13, V13, st13⟩ : ∃ (T' : State) (h' : Heap) (L' : List Loc), Stand p l e room_1 s m #[(.long q1), (.int p2)] below meth c T' L' 1 8 ∧ T'.heap = h' ∧ Fr n0 L' ∧ n0 ≤ h'.size ∧ Arv Z h' b1 k1 .byte (Int32.ofNat n) (own_vals q1 n 4) (.int (0 : Int32)) ∧ ∀ target, Steps p.tables e below (T'.setTop (mkF m 67 #[.val (.long q1), .second, .val (.int p2), .val (.int (Int32.ofNat n)), .val (.ref b1), .unset, .unset, .unset] [])) target → Steps p.tables e below (T9.setTop (mkF m 52 #[.val (.long q1), .second, .val (.int p2), .val (.int (Int32.ofNat n)), .val (.ref b1), .unset, .unset, .unset] [])) target := by
    by_cases hc3 : (3 : Int32) < (Int32.ofNat n)
    · have hk3 : 3 < n := own_lt n hn 3 (by decide) hc3
      obtain ⟨_, _, ⟨T14, L14, k14, n14⟩, -, X14, ⟨Lc14, hQ14, l14, y14, z14⟩, st14⟩ := Jvm.LawKit.callS X9 hx (y := (⟨"com/example/fatrow/fatrow/engine/FixedIntegerCodecDecodeLongPinLaw", "byteAt", "(JII)B"⟩ : MethodName)) hown (mvT hZ (hw _ (List.mem_of_getElem? (i := 1) rfl))) (mvT hZ (hw _ (List.mem_of_getElem? (i := 2) rfl))) (mvT hZ (hw _ (List.mem_of_getElem? (i := 3) rfl))) (mvT hZ (hw _ (List.mem_of_getElem? (i := 4) rfl))) (by decide) (backOf (W := 2) (rm1 l Z a0 hw [] q1 (Int32.ofNat n) (3 : Int32) h9 n0 Zs9) hZ (hw _ (List.mem_of_getElem? (i := 4) rfl)) (hw _ (List.mem_of_getElem? (i := 3) rfl)) (by decide) (by decide)) (g := (mkF m 63 #[.val (.long q1), .second, .val (.int p2), .val (.int (Int32.ofNat n)), .val (.ref b1), .unset, .unset, .unset] [(.int (3 : Int32)), (.int (Int32.ofNat n)), (.long q1), (.int (3 : Int32)), (.ref b1)])) rfl (by rw [hml]; rfl) (argsL := [(.long q1), (.int (Int32.ofNat n)), (.int (3 : Int32))]) (rest := [(.int (3 : Int32)), (.ref b1)]) (lenOf pd0_0 rfl) rfl (by show 2 * 0 + _ ≤ _; exact Nat.le_of_eq rfl) (hb hby at_63) (fun _ _ => ⟨rfl, e9, (by decide : 1 + 0 ≤ _), (by decide : 8 + 0 ≤ _)⟩)
      dsimp only [Pt.U, Pt.locs, Pt.cells, Pt.slots] at X14 l14 y14 z14 st14 hQ14
      subst l14 y14 z14
      obtain ⟨rfl, Nq14, e14⟩ := hQ14
      have N14 := Fr.app N9 Nq14
      obtain ⟨cl15, Ar15, q15, Sz15, Nn15, Hs15, Gs15⟩ := V9
      have hin15 : ¬ ((3 : Int32) < 0 ∨ cl15.slots.size ≤ ((3 : Int32)).toNatClampNeg) := by rw [Sz15, own_n32 n hn]; exact fun q => q.elim (by decide) (fun q => by have q' : n ≤ 3 := q; omega)
      obtain ⟨T16, h16, X16, e16, W16, st16⟩ := stB X14 hx hZ e14 Ar15 (j := (3 : Int32)) hin15 (g := (mkF m 66 #[.val (.long q1), .second, .val (.int p2), .val (.int (Int32.ofNat n)), .val (.ref b1), .unset, .unset, .unset] [(.int (own_b q1 (Int32.ofNat n) (3 : Int32))), (.int (3 : Int32)), (.ref b1)])) rfl rfl (hb hby at_66)
      have V_W16 := Arv.set Ar15 q15 Sz15 Nn15 Hs15 Gs15 (fits_nar_byte _) W16 3 rfl (by rw [own_vals_len]; omega)
      have V_W16' : Arv Z h16 b1 k1 .byte (Int32.ofNat n) (own_vals q1 n 4) (.int (0 : Int32)) := by rw [← own_vals_set q1 n 3 (by omega)]; exact V_W16
      have N16 := Fr.snoc X16 N14 gn_b1
      have Zs16 : n0 ≤ h16.size := Nat.le_trans Zs9 (Keep.of_wr W16).1
      refine ⟨T16, _, _, X16, e16, N16, Zs16, V_W16', fun target kt => ?_⟩
      show Steps p.tables e below (T9.setTop (mkF m 52 #[.val (.long q1), .second, .val (.int p2), .val (.int (Int32.ofNat n)), .val (.ref b1), .unset, .unset, .unset] [])) _
      refine XS.iloadN X9.here hx rfl (hb hby at_52) rfl ?_
      show Steps p.tables e below (T9.setTop (mkF m 53 #[.val (.long q1), .second, .val (.int p2), .val (.int (Int32.ofNat n)), .val (.ref b1), .unset, .unset, .unset] [(.int (Int32.ofNat n))])) _
      refine XS.iconst X9.here hx rfl (hb hby at_53) ?_
      show Steps p.tables e below (T9.setTop (mkF m 54 #[.val (.long q1), .second, .val (.int p2), .val (.int (Int32.ofNat n)), .val (.ref b1), .unset, .unset, .unset] [(.int (3 : Int32)), (.int (Int32.ofNat n))])) _
      refine XS.icmpNo X9.here hx rfl (hb hby at_54) rfl (tlt (hc3 : (3 : Int32) < (Int32.ofNat n))).2.2.2 ?_
      show Steps p.tables e below (T9.setTop (mkF m 57 #[.val (.long q1), .second, .val (.int p2), .val (.int (Int32.ofNat n)), .val (.ref b1), .unset, .unset, .unset] [])) _
      refine XS.aload X9.here hx rfl (hb hby at_57) rfl rfl ?_
      show Steps p.tables e below (T9.setTop (mkF m 59 #[.val (.long q1), .second, .val (.int p2), .val (.int (Int32.ofNat n)), .val (.ref b1), .unset, .unset, .unset] [(.ref b1)])) _
      refine XS.iconst X9.here hx rfl (hb hby at_59) ?_
      show Steps p.tables e below (T9.setTop (mkF m 60 #[.val (.long q1), .second, .val (.int p2), .val (.int (Int32.ofNat n)), .val (.ref b1), .unset, .unset, .unset] [(.int (3 : Int32)), (.ref b1)])) _
      refine XS.lloadN X9.here hx rfl (hb hby at_60) rfl ?_
      show Steps p.tables e below (T9.setTop (mkF m 61 #[.val (.long q1), .second, .val (.int p2), .val (.int (Int32.ofNat n)), .val (.ref b1), .unset, .unset, .unset] [(.long q1), (.int (3 : Int32)), (.ref b1)])) _
      refine XS.iloadN X9.here hx rfl (hb hby at_61) rfl ?_
      show Steps p.tables e below (T9.setTop (mkF m 62 #[.val (.long q1), .second, .val (.int p2), .val (.int (Int32.ofNat n)), .val (.ref b1), .unset, .unset, .unset] [(.int (Int32.ofNat n)), (.long q1), (.int (3 : Int32)), (.ref b1)])) _
      refine XS.iconst X9.here hx rfl (hb hby at_62) ?_
      show Steps p.tables e below (T9.setTop (mkF m 63 #[.val (.long q1), .second, .val (.int p2), .val (.int (Int32.ofNat n)), .val (.ref b1), .unset, .unset, .unset] [(.int (3 : Int32)), (.int (Int32.ofNat n)), (.long q1), (.int (3 : Int32)), (.ref b1)])) _
      refine st14 _ ?_
      show Steps p.tables e below (T14.setTop (mkF m 66 #[.val (.long q1), .second, .val (.int p2), .val (.int (Int32.ofNat n)), .val (.ref b1), .unset, .unset, .unset] [(.int (own_b q1 (Int32.ofNat n) (3 : Int32))), (.int (3 : Int32)), (.ref b1)])) _
      refine st16 _ ?_
      exact kt
    · have hk3 : n ≤ 3 := own_nlt n hn 3 (by decide) hc3
      have V3' : Arv Z h9 b1 k1 .byte (Int32.ofNat n) (own_vals q1 n 4) (.int (0 : Int32)) := by rw [own_vals_end q1 n 3 hk3]; exact V9
      refine ⟨T9, _, _, X9, e9, N9, Zs9, V3', fun target kt => ?_⟩
      show Steps p.tables e below (T9.setTop (mkF m 52 #[.val (.long q1), .second, .val (.int p2), .val (.int (Int32.ofNat n)), .val (.ref b1), .unset, .unset, .unset] [])) _
      refine XS.iloadN X9.here hx rfl (hb hby at_52) rfl ?_
      show Steps p.tables e below (T9.setTop (mkF m 53 #[.val (.long q1), .second, .val (.int p2), .val (.int (Int32.ofNat n)), .val (.ref b1), .unset, .unset, .unset] [(.int (Int32.ofNat n))])) _
      refine XS.iconst X9.here hx rfl (hb hby at_53) ?_
      show Steps p.tables e below (T9.setTop (mkF m 54 #[.val (.long q1), .second, .val (.int p2), .val (.int (Int32.ofNat n)), .val (.ref b1), .unset, .unset, .unset] [(.int (3 : Int32)), (.int (Int32.ofNat n))])) _
      refine XS.icmpYes X9.here hx rfl (pc0 := 54) (pc' := 67) rfl (hb hby at_54) rfl (flt (hc3 : ¬ ((3 : Int32) < (Int32.ofNat n)))).2.2.2 (by decide) (by decide) ?_
      exact kt
  obtain ⟨T17, h17, L17, X17, e17, N17, Zs17, V17, st17⟩ : ∃ (T' : State) (h' : Heap) (L' : List Loc), Stand p l e room_1 s m #[(.long q1), (.int p2)] below meth c T' L' 1 8 ∧ T'.heap = h' ∧ Fr n0 L' ∧ n0 ≤ h'.size ∧ Arv Z h' b1 k1 .byte (Int32.ofNat n) (own_vals q1 n 5) (.int (0 : Int32)) ∧ ∀ target, Steps p.tables e below (T'.setTop (mkF m 82 #[.val (.long q1), .second, .val (.int p2), .val (.int (Int32.ofNat n)), .val (.ref b1), .unset, .unset, .unset] [])) target → Steps p.tables e below (T13.setTop (mkF m 67 #[.val (.long q1), .second, .val (.int p2), .val (.int (Int32.ofNat n)), .val (.ref b1), .unset, .unset, .unset] [])) target := by
    by_cases hc4 : (4 : Int32) < (Int32.ofNat n)
    · have hk4 : 4 < n := own_lt n hn 4 (by decide) hc4
      obtain ⟨_, _, ⟨T18, L18, k18, n18⟩, -, X18, ⟨Lc18, hQ18, l18, y18, z18⟩, st18⟩ := Jvm.LawKit.callS X13 hx (y := (⟨"com/example/fatrow/fatrow/engine/FixedIntegerCodecDecodeLongPinLaw", "byteAt", "(JII)B"⟩ : MethodName)) hown (mvT hZ (hw _ (List.mem_of_getElem? (i := 1) rfl))) (mvT hZ (hw _ (List.mem_of_getElem? (i := 2) rfl))) (mvT hZ (hw _ (List.mem_of_getElem? (i := 3) rfl))) (mvT hZ (hw _ (List.mem_of_getElem? (i := 4) rfl))) (by decide) (backOf (W := 2) (rm1 l Z a0 hw [] q1 (Int32.ofNat n) (4 : Int32) h13 n0 Zs13) hZ (hw _ (List.mem_of_getElem? (i := 4) rfl)) (hw _ (List.mem_of_getElem? (i := 3) rfl)) (by decide) (by decide)) (g := (mkF m 78 #[.val (.long q1), .second, .val (.int p2), .val (.int (Int32.ofNat n)), .val (.ref b1), .unset, .unset, .unset] [(.int (4 : Int32)), (.int (Int32.ofNat n)), (.long q1), (.int (4 : Int32)), (.ref b1)])) rfl (by rw [hml]; rfl) (argsL := [(.long q1), (.int (Int32.ofNat n)), (.int (4 : Int32))]) (rest := [(.int (4 : Int32)), (.ref b1)]) (lenOf pd0_0 rfl) rfl (by show 2 * 0 + _ ≤ _; exact Nat.le_of_eq rfl) (hb hby at_78) (fun _ _ => ⟨rfl, e13, (by decide : 1 + 0 ≤ _), (by decide : 8 + 0 ≤ _)⟩)
      dsimp only [Pt.U, Pt.locs, Pt.cells, Pt.slots] at X18 l18 y18 z18 st18 hQ18
      subst l18 y18 z18
      obtain ⟨rfl, Nq18, e18⟩ := hQ18
      have N18 := Fr.app N13 Nq18
      obtain ⟨cl19, Ar19, q19, Sz19, Nn19, Hs19, Gs19⟩ := V13
      have hin19 : ¬ ((4 : Int32) < 0 ∨ cl19.slots.size ≤ ((4 : Int32)).toNatClampNeg) := by rw [Sz19, own_n32 n hn]; exact fun q => q.elim (by decide) (fun q => by have q' : n ≤ 4 := q; omega)
      obtain ⟨T20, h20, X20, e20, W20, st20⟩ := stB X18 hx hZ e18 Ar19 (j := (4 : Int32)) hin19 (g := (mkF m 81 #[.val (.long q1), .second, .val (.int p2), .val (.int (Int32.ofNat n)), .val (.ref b1), .unset, .unset, .unset] [(.int (own_b q1 (Int32.ofNat n) (4 : Int32))), (.int (4 : Int32)), (.ref b1)])) rfl rfl (hb hby at_81)
      have V_W20 := Arv.set Ar19 q19 Sz19 Nn19 Hs19 Gs19 (fits_nar_byte _) W20 4 rfl (by rw [own_vals_len]; omega)
      have V_W20' : Arv Z h20 b1 k1 .byte (Int32.ofNat n) (own_vals q1 n 5) (.int (0 : Int32)) := by rw [← own_vals_set q1 n 4 (by omega)]; exact V_W20
      have N20 := Fr.snoc X20 N18 gn_b1
      have Zs20 : n0 ≤ h20.size := Nat.le_trans Zs13 (Keep.of_wr W20).1
      refine ⟨T20, _, _, X20, e20, N20, Zs20, V_W20', fun target kt => ?_⟩
      show Steps p.tables e below (T13.setTop (mkF m 67 #[.val (.long q1), .second, .val (.int p2), .val (.int (Int32.ofNat n)), .val (.ref b1), .unset, .unset, .unset] [])) _
      refine XS.iloadN X13.here hx rfl (hb hby at_67) rfl ?_
      show Steps p.tables e below (T13.setTop (mkF m 68 #[.val (.long q1), .second, .val (.int p2), .val (.int (Int32.ofNat n)), .val (.ref b1), .unset, .unset, .unset] [(.int (Int32.ofNat n))])) _
      refine XS.iconst X13.here hx rfl (hb hby at_68) ?_
      show Steps p.tables e below (T13.setTop (mkF m 69 #[.val (.long q1), .second, .val (.int p2), .val (.int (Int32.ofNat n)), .val (.ref b1), .unset, .unset, .unset] [(.int (4 : Int32)), (.int (Int32.ofNat n))])) _
      refine XS.icmpNo X13.here hx rfl (hb hby at_69) rfl (tlt (hc4 : (4 : Int32) < (Int32.ofNat n))).2.2.2 ?_
      show Steps p.tables e below (T13.setTop (mkF m 72 #[.val (.long q1), .second, .val (.int p2), .val (.int (Int32.ofNat n)), .val (.ref b1), .unset, .unset, .unset] [])) _
      refine XS.aload X13.here hx rfl (hb hby at_72) rfl rfl ?_
      show Steps p.tables e below (T13.setTop (mkF m 74 #[.val (.long q1), .second, .val (.int p2), .val (.int (Int32.ofNat n)), .val (.ref b1), .unset, .unset, .unset] [(.ref b1)])) _
      refine XS.iconst X13.here hx rfl (hb hby at_74) ?_
      show Steps p.tables e below (T13.setTop (mkF m 75 #[.val (.long q1), .second, .val (.int p2), .val (.int (Int32.ofNat n)), .val (.ref b1), .unset, .unset, .unset] [(.int (4 : Int32)), (.ref b1)])) _
      refine XS.lloadN X13.here hx rfl (hb hby at_75) rfl ?_
      show Steps p.tables e below (T13.setTop (mkF m 76 #[.val (.long q1), .second, .val (.int p2), .val (.int (Int32.ofNat n)), .val (.ref b1), .unset, .unset, .unset] [(.long q1), (.int (4 : Int32)), (.ref b1)])) _
      refine XS.iloadN X13.here hx rfl (hb hby at_76) rfl ?_
      show Steps p.tables e below (T13.setTop (mkF m 77 #[.val (.long q1), .second, .val (.int p2), .val (.int (Int32.ofNat n)), .val (.ref b1), .unset, .unset, .unset] [(.int (Int32.ofNat n)), (.long q1), (.int (4 : Int32)), (.ref b1)])) _
      refine XS.iconst X13.here hx rfl (hb hby at_77) ?_
      show Steps p.tables e below (T13.setTop (mkF m 78 #[.val (.long q1), .second, .val (.int p2), .val (.int (Int32.ofNat n)), .val (.ref b1), .unset, .unset, .unset] [(.int (4 : Int32)), (.int (Int32.ofNat n)), (.long q1), (.int (4 : Int32)), (.ref b1)])) _
      refine st18 _ ?_
      show Steps p.tables e below (T18.setTop (mkF m 81 #[.val (.long q1), .second, .val (.int p2), .val (.int (Int32.ofNat n)), .val (.ref b1), .unset, .unset, .unset] [(.int (own_b q1 (Int32.ofNat n) (4 : Int32))), (.int (4 : Int32)), (.ref b1)])) _
      refine st20 _ ?_
      exact kt
    · have hk4 : n ≤ 4 := own_nlt n hn 4 (by decide) hc4
      have V4' : Arv Z h13 b1 k1 .byte (Int32.ofNat n) (own_vals q1 n 5) (.int (0 : Int32)) := by rw [own_vals_end q1 n 4 hk4]; exact V13
      refine ⟨T13, _, _, X13, e13, N13, Zs13, V4', fun target kt => ?_⟩
      show Steps p.tables e below (T13.setTop (mkF m 67 #[.val (.long q1), .second, .val (.int p2), .val (.int (Int32.ofNat n)), .val (.ref b1), .unset, .unset, .unset] [])) _
      refine XS.iloadN X13.here hx rfl (hb hby at_67) rfl ?_
      show Steps p.tables e below (T13.setTop (mkF m 68 #[.val (.long q1), .second, .val (.int p2), .val (.int (Int32.ofNat n)), .val (.ref b1), .unset, .unset, .unset] [(.int (Int32.ofNat n))])) _
      refine XS.iconst X13.here hx rfl (hb hby at_68) ?_
      show Steps p.tables e below (T13.setTop (mkF m 69 #[.val (.long q1), .second, .val (.int p2), .val (.int (Int32.ofNat n)), .val (.ref b1), .unset, .unset, .unset] [(.int (4 : Int32)), (.int (Int32.ofNat n))])) _
      refine XS.icmpYes X13.here hx rfl (pc0 := 69) (pc' := 82) rfl (hb hby at_69) rfl (flt (hc4 : ¬ ((4 : Int32) < (Int32.ofNat n)))).2.2.2 (by decide) (by decide) ?_
      exact kt
  obtain ⟨T21, h21, L21, X21, e21, N21, Zs21, V21, st21⟩ : ∃ (T' : State) (h' : Heap) (L' : List Loc), Stand p l e room_1 s m #[(.long q1), (.int p2)] below meth c T' L' 1 8 ∧ T'.heap = h' ∧ Fr n0 L' ∧ n0 ≤ h'.size ∧ Arv Z h' b1 k1 .byte (Int32.ofNat n) (own_vals q1 n 6) (.int (0 : Int32)) ∧ ∀ target, Steps p.tables e below (T'.setTop (mkF m 97 #[.val (.long q1), .second, .val (.int p2), .val (.int (Int32.ofNat n)), .val (.ref b1), .unset, .unset, .unset] [])) target → Steps p.tables e below (T17.setTop (mkF m 82 #[.val (.long q1), .second, .val (.int p2), .val (.int (Int32.ofNat n)), .val (.ref b1), .unset, .unset, .unset] [])) target := by
    by_cases hc5 : (5 : Int32) < (Int32.ofNat n)
    · have hk5 : 5 < n := own_lt n hn 5 (by decide) hc5
      obtain ⟨_, _, ⟨T22, L22, k22, n22⟩, -, X22, ⟨Lc22, hQ22, l22, y22, z22⟩, st22⟩ := Jvm.LawKit.callS X17 hx (y := (⟨"com/example/fatrow/fatrow/engine/FixedIntegerCodecDecodeLongPinLaw", "byteAt", "(JII)B"⟩ : MethodName)) hown (mvT hZ (hw _ (List.mem_of_getElem? (i := 1) rfl))) (mvT hZ (hw _ (List.mem_of_getElem? (i := 2) rfl))) (mvT hZ (hw _ (List.mem_of_getElem? (i := 3) rfl))) (mvT hZ (hw _ (List.mem_of_getElem? (i := 4) rfl))) (by decide) (backOf (W := 2) (rm1 l Z a0 hw [] q1 (Int32.ofNat n) (5 : Int32) h17 n0 Zs17) hZ (hw _ (List.mem_of_getElem? (i := 4) rfl)) (hw _ (List.mem_of_getElem? (i := 3) rfl)) (by decide) (by decide)) (g := (mkF m 93 #[.val (.long q1), .second, .val (.int p2), .val (.int (Int32.ofNat n)), .val (.ref b1), .unset, .unset, .unset] [(.int (5 : Int32)), (.int (Int32.ofNat n)), (.long q1), (.int (5 : Int32)), (.ref b1)])) rfl (by rw [hml]; rfl) (argsL := [(.long q1), (.int (Int32.ofNat n)), (.int (5 : Int32))]) (rest := [(.int (5 : Int32)), (.ref b1)]) (lenOf pd0_0 rfl) rfl (by show 2 * 0 + _ ≤ _; exact Nat.le_of_eq rfl) (hb hby at_93) (fun _ _ => ⟨rfl, e17, (by decide : 1 + 0 ≤ _), (by decide : 8 + 0 ≤ _)⟩)
      dsimp only [Pt.U, Pt.locs, Pt.cells, Pt.slots] at X22 l22 y22 z22 st22 hQ22
      subst l22 y22 z22
      obtain ⟨rfl, Nq22, e22⟩ := hQ22
      have N22 := Fr.app N17 Nq22
      obtain ⟨cl23, Ar23, q23, Sz23, Nn23, Hs23, Gs23⟩ := V17
      have hin23 : ¬ ((5 : Int32) < 0 ∨ cl23.slots.size ≤ ((5 : Int32)).toNatClampNeg) := by rw [Sz23, own_n32 n hn]; exact fun q => q.elim (by decide) (fun q => by have q' : n ≤ 5 := q; omega)
      obtain ⟨T24, h24, X24, e24, W24, st24⟩ := stB X22 hx hZ e22 Ar23 (j := (5 : Int32)) hin23 (g := (mkF m 96 #[.val (.long q1), .second, .val (.int p2), .val (.int (Int32.ofNat n)), .val (.ref b1), .unset, .unset, .unset] [(.int (own_b q1 (Int32.ofNat n) (5 : Int32))), (.int (5 : Int32)), (.ref b1)])) rfl rfl (hb hby at_96)
      have V_W24 := Arv.set Ar23 q23 Sz23 Nn23 Hs23 Gs23 (fits_nar_byte _) W24 5 rfl (by rw [own_vals_len]; omega)
      have V_W24' : Arv Z h24 b1 k1 .byte (Int32.ofNat n) (own_vals q1 n 6) (.int (0 : Int32)) := by rw [← own_vals_set q1 n 5 (by omega)]; exact V_W24
      have N24 := Fr.snoc X24 N22 gn_b1
      have Zs24 : n0 ≤ h24.size := Nat.le_trans Zs17 (Keep.of_wr W24).1
      refine ⟨T24, _, _, X24, e24, N24, Zs24, V_W24', fun target kt => ?_⟩
      show Steps p.tables e below (T17.setTop (mkF m 82 #[.val (.long q1), .second, .val (.int p2), .val (.int (Int32.ofNat n)), .val (.ref b1), .unset, .unset, .unset] [])) _
      refine XS.iloadN X17.here hx rfl (hb hby at_82) rfl ?_
      show Steps p.tables e below (T17.setTop (mkF m 83 #[.val (.long q1), .second, .val (.int p2), .val (.int (Int32.ofNat n)), .val (.ref b1), .unset, .unset, .unset] [(.int (Int32.ofNat n))])) _
      refine XS.iconst X17.here hx rfl (hb hby at_83) ?_
      show Steps p.tables e below (T17.setTop (mkF m 84 #[.val (.long q1), .second, .val (.int p2), .val (.int (Int32.ofNat n)), .val (.ref b1), .unset, .unset, .unset] [(.int (5 : Int32)), (.int (Int32.ofNat n))])) _
      refine XS.icmpNo X17.here hx rfl (hb hby at_84) rfl (tlt (hc5 : (5 : Int32) < (Int32.ofNat n))).2.2.2 ?_
      show Steps p.tables e below (T17.setTop (mkF m 87 #[.val (.long q1), .second, .val (.int p2), .val (.int (Int32.ofNat n)), .val (.ref b1), .unset, .unset, .unset] [])) _
      refine XS.aload X17.here hx rfl (hb hby at_87) rfl rfl ?_
      show Steps p.tables e below (T17.setTop (mkF m 89 #[.val (.long q1), .second, .val (.int p2), .val (.int (Int32.ofNat n)), .val (.ref b1), .unset, .unset, .unset] [(.ref b1)])) _
      refine XS.iconst X17.here hx rfl (hb hby at_89) ?_
      show Steps p.tables e below (T17.setTop (mkF m 90 #[.val (.long q1), .second, .val (.int p2), .val (.int (Int32.ofNat n)), .val (.ref b1), .unset, .unset, .unset] [(.int (5 : Int32)), (.ref b1)])) _
      refine XS.lloadN X17.here hx rfl (hb hby at_90) rfl ?_
      show Steps p.tables e below (T17.setTop (mkF m 91 #[.val (.long q1), .second, .val (.int p2), .val (.int (Int32.ofNat n)), .val (.ref b1), .unset, .unset, .unset] [(.long q1), (.int (5 : Int32)), (.ref b1)])) _
      refine XS.iloadN X17.here hx rfl (hb hby at_91) rfl ?_
      show Steps p.tables e below (T17.setTop (mkF m 92 #[.val (.long q1), .second, .val (.int p2), .val (.int (Int32.ofNat n)), .val (.ref b1), .unset, .unset, .unset] [(.int (Int32.ofNat n)), (.long q1), (.int (5 : Int32)), (.ref b1)])) _
      refine XS.iconst X17.here hx rfl (hb hby at_92) ?_
      show Steps p.tables e below (T17.setTop (mkF m 93 #[.val (.long q1), .second, .val (.int p2), .val (.int (Int32.ofNat n)), .val (.ref b1), .unset, .unset, .unset] [(.int (5 : Int32)), (.int (Int32.ofNat n)), (.long q1), (.int (5 : Int32)), (.ref b1)])) _
      refine st22 _ ?_
      show Steps p.tables e below (T22.setTop (mkF m 96 #[.val (.long q1), .second, .val (.int p2), .val (.int (Int32.ofNat n)), .val (.ref b1), .unset, .unset, .unset] [(.int (own_b q1 (Int32.ofNat n) (5 : Int32))), (.int (5 : Int32)), (.ref b1)])) _
      refine st24 _ ?_
      exact kt
    · have hk5 : n ≤ 5 := own_nlt n hn 5 (by decide) hc5
      have V5' : Arv Z h17 b1 k1 .byte (Int32.ofNat n) (own_vals q1 n 6) (.int (0 : Int32)) := by rw [own_vals_end q1 n 5 hk5]; exact V17
      refine ⟨T17, _, _, X17, e17, N17, Zs17, V5', fun target kt => ?_⟩
      show Steps p.tables e below (T17.setTop (mkF m 82 #[.val (.long q1), .second, .val (.int p2), .val (.int (Int32.ofNat n)), .val (.ref b1), .unset, .unset, .unset] [])) _
      refine XS.iloadN X17.here hx rfl (hb hby at_82) rfl ?_
      show Steps p.tables e below (T17.setTop (mkF m 83 #[.val (.long q1), .second, .val (.int p2), .val (.int (Int32.ofNat n)), .val (.ref b1), .unset, .unset, .unset] [(.int (Int32.ofNat n))])) _
      refine XS.iconst X17.here hx rfl (hb hby at_83) ?_
      show Steps p.tables e below (T17.setTop (mkF m 84 #[.val (.long q1), .second, .val (.int p2), .val (.int (Int32.ofNat n)), .val (.ref b1), .unset, .unset, .unset] [(.int (5 : Int32)), (.int (Int32.ofNat n))])) _
      refine XS.icmpYes X17.here hx rfl (pc0 := 84) (pc' := 97) rfl (hb hby at_84) rfl (flt (hc5 : ¬ ((5 : Int32) < (Int32.ofNat n)))).2.2.2 (by decide) (by decide) ?_
      exact kt
  obtain ⟨T25, h25, L25, X25, e25, N25, Zs25, V25, st25⟩ : ∃ (T' : State) (h' : Heap) (L' : List Loc), Stand p l e room_1 s m #[(.long q1), (.int p2)] below meth c T' L' 1 8 ∧ T'.heap = h' ∧ Fr n0 L' ∧ n0 ≤ h'.size ∧ Arv Z h' b1 k1 .byte (Int32.ofNat n) (own_vals q1 n 7) (.int (0 : Int32)) ∧ ∀ target, Steps p.tables e below (T'.setTop (mkF m 115 #[.val (.long q1), .second, .val (.int p2), .val (.int (Int32.ofNat n)), .val (.ref b1), .unset, .unset, .unset] [])) target → Steps p.tables e below (T21.setTop (mkF m 97 #[.val (.long q1), .second, .val (.int p2), .val (.int (Int32.ofNat n)), .val (.ref b1), .unset, .unset, .unset] [])) target := by
    by_cases hc6 : (6 : Int32) < (Int32.ofNat n)
    · have hk6 : 6 < n := own_lt n hn 6 (by decide) hc6
      obtain ⟨_, _, ⟨T26, L26, k26, n26⟩, -, X26, ⟨Lc26, hQ26, l26, y26, z26⟩, st26⟩ := Jvm.LawKit.callS X21 hx (y := (⟨"com/example/fatrow/fatrow/engine/FixedIntegerCodecDecodeLongPinLaw", "byteAt", "(JII)B"⟩ : MethodName)) hown (mvT hZ (hw _ (List.mem_of_getElem? (i := 1) rfl))) (mvT hZ (hw _ (List.mem_of_getElem? (i := 2) rfl))) (mvT hZ (hw _ (List.mem_of_getElem? (i := 3) rfl))) (mvT hZ (hw _ (List.mem_of_getElem? (i := 4) rfl))) (by decide) (backOf (W := 2) (rm1 l Z a0 hw [] q1 (Int32.ofNat n) (6 : Int32) h21 n0 Zs21) hZ (hw _ (List.mem_of_getElem? (i := 4) rfl)) (hw _ (List.mem_of_getElem? (i := 3) rfl)) (by decide) (by decide)) (g := (mkF m 111 #[.val (.long q1), .second, .val (.int p2), .val (.int (Int32.ofNat n)), .val (.ref b1), .unset, .unset, .unset] [(.int (6 : Int32)), (.int (Int32.ofNat n)), (.long q1), (.int (6 : Int32)), (.ref b1)])) rfl (by rw [hml]; rfl) (argsL := [(.long q1), (.int (Int32.ofNat n)), (.int (6 : Int32))]) (rest := [(.int (6 : Int32)), (.ref b1)]) (lenOf pd0_0 rfl) rfl (by show 2 * 0 + _ ≤ _; exact Nat.le_of_eq rfl) (hb hby at_111) (fun _ _ => ⟨rfl, e21, (by decide : 1 + 0 ≤ _), (by decide : 8 + 0 ≤ _)⟩)
      dsimp only [Pt.U, Pt.locs, Pt.cells, Pt.slots] at X26 l26 y26 z26 st26 hQ26
      subst l26 y26 z26
      obtain ⟨rfl, Nq26, e26⟩ := hQ26
      have N26 := Fr.app N21 Nq26
      obtain ⟨cl27, Ar27, q27, Sz27, Nn27, Hs27, Gs27⟩ := V21
      have hin27 : ¬ ((6 : Int32) < 0 ∨ cl27.slots.size ≤ ((6 : Int32)).toNatClampNeg) := by rw [Sz27, own_n32 n hn]; exact fun q => q.elim (by decide) (fun q => by have q' : n ≤ 6 := q; omega)
      obtain ⟨T28, h28, X28, e28, W28, st28⟩ := stB X26 hx hZ e26 Ar27 (j := (6 : Int32)) hin27 (g := (mkF m 114 #[.val (.long q1), .second, .val (.int p2), .val (.int (Int32.ofNat n)), .val (.ref b1), .unset, .unset, .unset] [(.int (own_b q1 (Int32.ofNat n) (6 : Int32))), (.int (6 : Int32)), (.ref b1)])) rfl rfl (hb hby at_114)
      have V_W28 := Arv.set Ar27 q27 Sz27 Nn27 Hs27 Gs27 (fits_nar_byte _) W28 6 rfl (by rw [own_vals_len]; omega)
      have V_W28' : Arv Z h28 b1 k1 .byte (Int32.ofNat n) (own_vals q1 n 7) (.int (0 : Int32)) := by rw [← own_vals_set q1 n 6 (by omega)]; exact V_W28
      have N28 := Fr.snoc X28 N26 gn_b1
      have Zs28 : n0 ≤ h28.size := Nat.le_trans Zs21 (Keep.of_wr W28).1
      refine ⟨T28, _, _, X28, e28, N28, Zs28, V_W28', fun target kt => ?_⟩
      show Steps p.tables e below (T21.setTop (mkF m 97 #[.val (.long q1), .second, .val (.int p2), .val (.int (Int32.ofNat n)), .val (.ref b1), .unset, .unset, .unset] [])) _
      refine XS.iloadN X21.here hx rfl (hb hby at_97) rfl ?_
      show Steps p.tables e below (T21.setTop (mkF m 98 #[.val (.long q1), .second, .val (.int p2), .val (.int (Int32.ofNat n)), .val (.ref b1), .unset, .unset, .unset] [(.int (Int32.ofNat n))])) _
      refine XS.bipush X21.here hx rfl (hb hby at_98) ?_
      show Steps p.tables e below (T21.setTop (mkF m 100 #[.val (.long q1), .second, .val (.int p2), .val (.int (Int32.ofNat n)), .val (.ref b1), .unset, .unset, .unset] [(.int (6 : Int32)), (.int (Int32.ofNat n))])) _
      refine XS.icmpNo X21.here hx rfl (hb hby at_100) rfl (tlt (hc6 : (6 : Int32) < (Int32.ofNat n))).2.2.2 ?_
      show Steps p.tables e below (T21.setTop (mkF m 103 #[.val (.long q1), .second, .val (.int p2), .val (.int (Int32.ofNat n)), .val (.ref b1), .unset, .unset, .unset] [])) _
      refine XS.aload X21.here hx rfl (hb hby at_103) rfl rfl ?_
      show Steps p.tables e below (T21.setTop (mkF m 105 #[.val (.long q1), .second, .val (.int p2), .val (.int (Int32.ofNat n)), .val (.ref b1), .unset, .unset, .unset] [(.ref b1)])) _
      refine XS.bipush X21.here hx rfl (hb hby at_105) ?_
      show Steps p.tables e below (T21.setTop (mkF m 107 #[.val (.long q1), .second, .val (.int p2), .val (.int (Int32.ofNat n)), .val (.ref b1), .unset, .unset, .unset] [(.int (6 : Int32)), (.ref b1)])) _
      refine XS.lloadN X21.here hx rfl (hb hby at_107) rfl ?_
      show Steps p.tables e below (T21.setTop (mkF m 108 #[.val (.long q1), .second, .val (.int p2), .val (.int (Int32.ofNat n)), .val (.ref b1), .unset, .unset, .unset] [(.long q1), (.int (6 : Int32)), (.ref b1)])) _
      refine XS.iloadN X21.here hx rfl (hb hby at_108) rfl ?_
      show Steps p.tables e below (T21.setTop (mkF m 109 #[.val (.long q1), .second, .val (.int p2), .val (.int (Int32.ofNat n)), .val (.ref b1), .unset, .unset, .unset] [(.int (Int32.ofNat n)), (.long q1), (.int (6 : Int32)), (.ref b1)])) _
      refine XS.bipush X21.here hx rfl (hb hby at_109) ?_
      show Steps p.tables e below (T21.setTop (mkF m 111 #[.val (.long q1), .second, .val (.int p2), .val (.int (Int32.ofNat n)), .val (.ref b1), .unset, .unset, .unset] [(.int (6 : Int32)), (.int (Int32.ofNat n)), (.long q1), (.int (6 : Int32)), (.ref b1)])) _
      refine st26 _ ?_
      show Steps p.tables e below (T26.setTop (mkF m 114 #[.val (.long q1), .second, .val (.int p2), .val (.int (Int32.ofNat n)), .val (.ref b1), .unset, .unset, .unset] [(.int (own_b q1 (Int32.ofNat n) (6 : Int32))), (.int (6 : Int32)), (.ref b1)])) _
      refine st28 _ ?_
      exact kt
    · have hk6 : n ≤ 6 := own_nlt n hn 6 (by decide) hc6
      have V6' : Arv Z h21 b1 k1 .byte (Int32.ofNat n) (own_vals q1 n 7) (.int (0 : Int32)) := by rw [own_vals_end q1 n 6 hk6]; exact V21
      refine ⟨T21, _, _, X21, e21, N21, Zs21, V6', fun target kt => ?_⟩
      show Steps p.tables e below (T21.setTop (mkF m 97 #[.val (.long q1), .second, .val (.int p2), .val (.int (Int32.ofNat n)), .val (.ref b1), .unset, .unset, .unset] [])) _
      refine XS.iloadN X21.here hx rfl (hb hby at_97) rfl ?_
      show Steps p.tables e below (T21.setTop (mkF m 98 #[.val (.long q1), .second, .val (.int p2), .val (.int (Int32.ofNat n)), .val (.ref b1), .unset, .unset, .unset] [(.int (Int32.ofNat n))])) _
      refine XS.bipush X21.here hx rfl (hb hby at_98) ?_
      show Steps p.tables e below (T21.setTop (mkF m 100 #[.val (.long q1), .second, .val (.int p2), .val (.int (Int32.ofNat n)), .val (.ref b1), .unset, .unset, .unset] [(.int (6 : Int32)), (.int (Int32.ofNat n))])) _
      refine XS.icmpYes X21.here hx rfl (pc0 := 100) (pc' := 115) rfl (hb hby at_100) rfl (flt (hc6 : ¬ ((6 : Int32) < (Int32.ofNat n)))).2.2.2 (by decide) (by decide) ?_
      exact kt
  obtain ⟨T29, h29, L29, X29, e29, N29, Zs29, V29, st29⟩ : ∃ (T' : State) (h' : Heap) (L' : List Loc), Stand p l e room_1 s m #[(.long q1), (.int p2)] below meth c T' L' 1 8 ∧ T'.heap = h' ∧ Fr n0 L' ∧ n0 ≤ h'.size ∧ Arv Z h' b1 k1 .byte (Int32.ofNat n) (own_vals q1 n 8) (.int (0 : Int32)) ∧ ∀ target, Steps p.tables e below (T'.setTop (mkF m 133 #[.val (.long q1), .second, .val (.int p2), .val (.int (Int32.ofNat n)), .val (.ref b1), .unset, .unset, .unset] [])) target → Steps p.tables e below (T25.setTop (mkF m 115 #[.val (.long q1), .second, .val (.int p2), .val (.int (Int32.ofNat n)), .val (.ref b1), .unset, .unset, .unset] [])) target := by
    by_cases hc7 : (7 : Int32) < (Int32.ofNat n)
    · have hk7 : 7 < n := own_lt n hn 7 (by decide) hc7
      obtain ⟨_, _, ⟨T30, L30, k30, n30⟩, -, X30, ⟨Lc30, hQ30, l30, y30, z30⟩, st30⟩ := Jvm.LawKit.callS X25 hx (y := (⟨"com/example/fatrow/fatrow/engine/FixedIntegerCodecDecodeLongPinLaw", "byteAt", "(JII)B"⟩ : MethodName)) hown (mvT hZ (hw _ (List.mem_of_getElem? (i := 1) rfl))) (mvT hZ (hw _ (List.mem_of_getElem? (i := 2) rfl))) (mvT hZ (hw _ (List.mem_of_getElem? (i := 3) rfl))) (mvT hZ (hw _ (List.mem_of_getElem? (i := 4) rfl))) (by decide) (backOf (W := 2) (rm1 l Z a0 hw [] q1 (Int32.ofNat n) (7 : Int32) h25 n0 Zs25) hZ (hw _ (List.mem_of_getElem? (i := 4) rfl)) (hw _ (List.mem_of_getElem? (i := 3) rfl)) (by decide) (by decide)) (g := (mkF m 129 #[.val (.long q1), .second, .val (.int p2), .val (.int (Int32.ofNat n)), .val (.ref b1), .unset, .unset, .unset] [(.int (7 : Int32)), (.int (Int32.ofNat n)), (.long q1), (.int (7 : Int32)), (.ref b1)])) rfl (by rw [hml]; rfl) (argsL := [(.long q1), (.int (Int32.ofNat n)), (.int (7 : Int32))]) (rest := [(.int (7 : Int32)), (.ref b1)]) (lenOf pd0_0 rfl) rfl (by show 2 * 0 + _ ≤ _; exact Nat.le_of_eq rfl) (hb hby at_129) (fun _ _ => ⟨rfl, e25, (by decide : 1 + 0 ≤ _), (by decide : 8 + 0 ≤ _)⟩)
      dsimp only [Pt.U, Pt.locs, Pt.cells, Pt.slots] at X30 l30 y30 z30 st30 hQ30
      subst l30 y30 z30
      obtain ⟨rfl, Nq30, e30⟩ := hQ30
      have N30 := Fr.app N25 Nq30
      obtain ⟨cl31, Ar31, q31, Sz31, Nn31, Hs31, Gs31⟩ := V25
      have hin31 : ¬ ((7 : Int32) < 0 ∨ cl31.slots.size ≤ ((7 : Int32)).toNatClampNeg) := by rw [Sz31, own_n32 n hn]; exact fun q => q.elim (by decide) (fun q => by have q' : n ≤ 7 := q; omega)
      obtain ⟨T32, h32, X32, e32, W32, st32⟩ := stB X30 hx hZ e30 Ar31 (j := (7 : Int32)) hin31 (g := (mkF m 132 #[.val (.long q1), .second, .val (.int p2), .val (.int (Int32.ofNat n)), .val (.ref b1), .unset, .unset, .unset] [(.int (own_b q1 (Int32.ofNat n) (7 : Int32))), (.int (7 : Int32)), (.ref b1)])) rfl rfl (hb hby at_132)
      have V_W32 := Arv.set Ar31 q31 Sz31 Nn31 Hs31 Gs31 (fits_nar_byte _) W32 7 rfl (by rw [own_vals_len]; omega)
      have V_W32' : Arv Z h32 b1 k1 .byte (Int32.ofNat n) (own_vals q1 n 8) (.int (0 : Int32)) := by rw [← own_vals_set q1 n 7 (by omega)]; exact V_W32
      have N32 := Fr.snoc X32 N30 gn_b1
      have Zs32 : n0 ≤ h32.size := Nat.le_trans Zs25 (Keep.of_wr W32).1
      refine ⟨T32, _, _, X32, e32, N32, Zs32, V_W32', fun target kt => ?_⟩
      show Steps p.tables e below (T25.setTop (mkF m 115 #[.val (.long q1), .second, .val (.int p2), .val (.int (Int32.ofNat n)), .val (.ref b1), .unset, .unset, .unset] [])) _
      refine XS.iloadN X25.here hx rfl (hb hby at_115) rfl ?_
      show Steps p.tables e below (T25.setTop (mkF m 116 #[.val (.long q1), .second, .val (.int p2), .val (.int (Int32.ofNat n)), .val (.ref b1), .unset, .unset, .unset] [(.int (Int32.ofNat n))])) _
      refine XS.bipush X25.here hx rfl (hb hby at_116) ?_
      show Steps p.tables e below (T25.setTop (mkF m 118 #[.val (.long q1), .second, .val (.int p2), .val (.int (Int32.ofNat n)), .val (.ref b1), .unset, .unset, .unset] [(.int (7 : Int32)), (.int (Int32.ofNat n))])) _
      refine XS.icmpNo X25.here hx rfl (hb hby at_118) rfl (tlt (hc7 : (7 : Int32) < (Int32.ofNat n))).2.2.2 ?_
      show Steps p.tables e below (T25.setTop (mkF m 121 #[.val (.long q1), .second, .val (.int p2), .val (.int (Int32.ofNat n)), .val (.ref b1), .unset, .unset, .unset] [])) _
      refine XS.aload X25.here hx rfl (hb hby at_121) rfl rfl ?_
      show Steps p.tables e below (T25.setTop (mkF m 123 #[.val (.long q1), .second, .val (.int p2), .val (.int (Int32.ofNat n)), .val (.ref b1), .unset, .unset, .unset] [(.ref b1)])) _
      refine XS.bipush X25.here hx rfl (hb hby at_123) ?_
      show Steps p.tables e below (T25.setTop (mkF m 125 #[.val (.long q1), .second, .val (.int p2), .val (.int (Int32.ofNat n)), .val (.ref b1), .unset, .unset, .unset] [(.int (7 : Int32)), (.ref b1)])) _
      refine XS.lloadN X25.here hx rfl (hb hby at_125) rfl ?_
      show Steps p.tables e below (T25.setTop (mkF m 126 #[.val (.long q1), .second, .val (.int p2), .val (.int (Int32.ofNat n)), .val (.ref b1), .unset, .unset, .unset] [(.long q1), (.int (7 : Int32)), (.ref b1)])) _
      refine XS.iloadN X25.here hx rfl (hb hby at_126) rfl ?_
      show Steps p.tables e below (T25.setTop (mkF m 127 #[.val (.long q1), .second, .val (.int p2), .val (.int (Int32.ofNat n)), .val (.ref b1), .unset, .unset, .unset] [(.int (Int32.ofNat n)), (.long q1), (.int (7 : Int32)), (.ref b1)])) _
      refine XS.bipush X25.here hx rfl (hb hby at_127) ?_
      show Steps p.tables e below (T25.setTop (mkF m 129 #[.val (.long q1), .second, .val (.int p2), .val (.int (Int32.ofNat n)), .val (.ref b1), .unset, .unset, .unset] [(.int (7 : Int32)), (.int (Int32.ofNat n)), (.long q1), (.int (7 : Int32)), (.ref b1)])) _
      refine st30 _ ?_
      show Steps p.tables e below (T30.setTop (mkF m 132 #[.val (.long q1), .second, .val (.int p2), .val (.int (Int32.ofNat n)), .val (.ref b1), .unset, .unset, .unset] [(.int (own_b q1 (Int32.ofNat n) (7 : Int32))), (.int (7 : Int32)), (.ref b1)])) _
      refine st32 _ ?_
      exact kt
    · have hk7 : n ≤ 7 := own_nlt n hn 7 (by decide) hc7
      have V7' : Arv Z h25 b1 k1 .byte (Int32.ofNat n) (own_vals q1 n 8) (.int (0 : Int32)) := by rw [own_vals_end q1 n 7 hk7]; exact V25
      refine ⟨T25, _, _, X25, e25, N25, Zs25, V7', fun target kt => ?_⟩
      show Steps p.tables e below (T25.setTop (mkF m 115 #[.val (.long q1), .second, .val (.int p2), .val (.int (Int32.ofNat n)), .val (.ref b1), .unset, .unset, .unset] [])) _
      refine XS.iloadN X25.here hx rfl (hb hby at_115) rfl ?_
      show Steps p.tables e below (T25.setTop (mkF m 116 #[.val (.long q1), .second, .val (.int p2), .val (.int (Int32.ofNat n)), .val (.ref b1), .unset, .unset, .unset] [(.int (Int32.ofNat n))])) _
      refine XS.bipush X25.here hx rfl (hb hby at_116) ?_
      show Steps p.tables e below (T25.setTop (mkF m 118 #[.val (.long q1), .second, .val (.int p2), .val (.int (Int32.ofNat n)), .val (.ref b1), .unset, .unset, .unset] [(.int (7 : Int32)), (.int (Int32.ofNat n))])) _
      refine XS.icmpYes X25.here hx rfl (pc0 := 118) (pc' := 133) rfl (hb hby at_118) rfl (flt (hc7 : ¬ ((7 : Int32) < (Int32.ofNat n)))).2.2.2 (by decide) (by decide) ?_
      exact kt
  obtain ⟨cl, Ar, qk, Sz, Nn, Hs, Gs⟩ := V29
  have hat : ∀ j, j < n → cl.slots[j]? = some (.int ((fun j => own_b q1 (Int32.ofNat n) (Int32.ofNat j)) j)) := fun j hj => by
    rw [Hs j (by rw [Sz, own_n32 n hn]; exact hj), own_vals_at q1 n j hj, if_pos (by omega)]
  obtain ⟨_, _, ⟨T33, L33, k33, n33⟩, -, X33, ⟨Lc33, hQ33, l33, y33, z33⟩, st33⟩ := Jvm.LawKit.callS X29 hx (y := (⟨"com/example/fatrow/fatrow/engine/FixedIntegerCodec", "decodeLong", "([B)J"⟩ : MethodName)) hown (mvT hZ (hw _ (List.mem_of_getElem? (i := 5) rfl))) (mvT hZ (hw _ (List.mem_of_getElem? (i := 6) rfl))) (mvT hZ (hw _ (List.mem_of_getElem? (i := 7) rfl))) (mvT hZ (hw _ (List.mem_of_getElem? (i := 8) rfl))) (by decide) (backOf (W := 0) (rm2 l Z a0 hw [] b1 n (fun j => own_b q1 (Int32.ofNat n) (Int32.ofNat j)) cl h29 n0 Zs29 hn1 hn Ar Sz hat) hZ (hw _ (List.mem_of_getElem? (i := 8) rfl)) (hw _ (List.mem_of_getElem? (i := 7) rfl)) (by decide) (by decide)) (g := (mkF m 153 #[.val (.long q1), .second, .val (.int p2), .val (.int (Int32.ofNat n)), .val (.ref b1), .val (.int ((64 : Int32) - ((8 : Int32) * (Int32.ofNat n)))), .val (.long ((q1 <<< (((64 : Int32) - ((8 : Int32) * (Int32.ofNat n))) &&& 0x3f).toInt64) >>> (((64 : Int32) - ((8 : Int32) * (Int32.ofNat n))) &&& 0x3f).toInt64)), .second] [(.ref b1)])) rfl (by rw [hml]; rfl) (argsL := [(.ref b1)]) (rest := []) (lenOf pd0_1 rfl) rfl (by show 2 * 0 + _ ≤ _; exact Nat.le_of_eq rfl) (hb hby at_153) (fun _ _ => ⟨rfl, e29, (by decide : 1 + 0 ≤ _), (by decide : 8 + 0 ≤ _)⟩)
  dsimp only [Pt.U, Pt.locs, Pt.cells, Pt.slots] at X33 l33 y33 z33 st33 hQ33
  subst l33 y33 z33
  obtain ⟨rfl, Nq33, e33⟩ := hQ33
  have N33 := Fr.app N29 Nq33
  obtain ⟨fs, hr, hrun, hended, hW, hsame⟩ := X33.leave (v := some (.int (1 : Int32))) (fun h => by rw [Bd.returns] at h; cases h)
  refine ⟨_, _, pre0 _ ?_, hrun, hended, _, _, rfl, ?_, ⟨_, rfl⟩, hW, hsame.mono (by decide) (by decide)⟩
  · show Steps p.tables e below (s₁.setTop (mkF m 0 #[.val (.long q1), .second, .val (.int p2), .unset, .unset, .unset, .unset, .unset] [])) _
    refine XS.iloadN X0.here hx rfl (hb hby at_0) rfl ?_
    show Steps p.tables e below (s₁.setTop (mkF m 1 #[.val (.long q1), .second, .val (.int p2), .unset, .unset, .unset, .unset, .unset] [(.int p2)])) _
    refine XS.bipush X0.here hx rfl (hb hby at_1) ?_
    show Steps p.tables e below (s₁.setTop (mkF m 3 #[.val (.long q1), .second, .val (.int p2), .unset, .unset, .unset, .unset, .unset] [(.int (7 : Int32)), (.int p2)])) _
    refine XS.iand X0.here hx rfl (hb hby at_3) rfl ?_
    show Steps p.tables e below (s₁.setTop (mkF m 4 #[.val (.long q1), .second, .val (.int p2), .unset, .unset, .unset, .unset, .unset] [(.int (p2 &&& (7 : Int32)))])) _
    refine XS.iconst X0.here hx rfl (hb hby at_4) ?_
    show Steps p.tables e below (s₁.setTop (mkF m 5 #[.val (.long q1), .second, .val (.int p2), .unset, .unset, .unset, .unset, .unset] [(.int (1 : Int32)), (.int (p2 &&& (7 : Int32)))])) _
    refine XS.iadd X0.here hx rfl (hb hby at_5) rfl ?_
    show Steps p.tables e below (s₁.setTop (mkF m 6 #[.val (.long q1), .second, .val (.int p2), .unset, .unset, .unset, .unset, .unset] [(.int ((p2 &&& (7 : Int32)) + (1 : Int32)))])) _
    refine XS.istoreN X0.here hx rfl (hb hby at_6) rfl (l' := #[.val (.long q1), .second, .val (.int p2), .val (.int ((p2 &&& (7 : Int32)) + (1 : Int32))), .unset, .unset, .unset, .unset]) rfl ?_
    show Steps p.tables e below (s₁.setTop (mkF m 7 #[.val (.long q1), .second, .val (.int p2), .val (.int ((p2 &&& (7 : Int32)) + (1 : Int32))), .unset, .unset, .unset, .unset] [])) _
    rw [hm]
    show Steps p.tables e below (s₁.setTop (mkF m 7 #[.val (.long q1), .second, .val (.int p2), .val (.int (Int32.ofNat n)), .unset, .unset, .unset, .unset] [])) _
    refine XS.iloadN X0.here hx rfl (hb hby at_7) rfl ?_
    show Steps p.tables e below (s₁.setTop (mkF m 8 #[.val (.long q1), .second, .val (.int p2), .val (.int (Int32.ofNat n)), .unset, .unset, .unset, .unset] [(.int (Int32.ofNat n))])) _
    refine st1 _ ?_
    show Steps p.tables e below (T1.setTop (mkF m 10 #[.val (.long q1), .second, .val (.int p2), .val (.int (Int32.ofNat n)), .unset, .unset, .unset, .unset] [(.ref b1)])) _
    refine XS.astore X1.here hx rfl (hb hby at_10) rfl rfl (l' := #[.val (.long q1), .second, .val (.int p2), .val (.int (Int32.ofNat n)), .val (.ref b1), .unset, .unset, .unset]) rfl ?_
    show Steps p.tables e below (T1.setTop (mkF m 12 #[.val (.long q1), .second, .val (.int p2), .val (.int (Int32.ofNat n)), .val (.ref b1), .unset, .unset, .unset] [])) _
    refine XS.aload X1.here hx rfl (hb hby at_12) rfl rfl ?_
    show Steps p.tables e below (T1.setTop (mkF m 14 #[.val (.long q1), .second, .val (.int p2), .val (.int (Int32.ofNat n)), .val (.ref b1), .unset, .unset, .unset] [(.ref b1)])) _
    refine XS.iconst X1.here hx rfl (hb hby at_14) ?_
    show Steps p.tables e below (T1.setTop (mkF m 15 #[.val (.long q1), .second, .val (.int p2), .val (.int (Int32.ofNat n)), .val (.ref b1), .unset, .unset, .unset] [(.int (0 : Int32)), (.ref b1)])) _
    refine XS.lloadN X1.here hx rfl (hb hby at_15) rfl ?_
    show Steps p.tables e below (T1.setTop (mkF m 16 #[.val (.long q1), .second, .val (.int p2), .val (.int (Int32.ofNat n)), .val (.ref b1), .unset, .unset, .unset] [(.long q1), (.int (0 : Int32)), (.ref b1)])) _
    refine XS.iloadN X1.here hx rfl (hb hby at_16) rfl ?_
    show Steps p.tables e below (T1.setTop (mkF m 17 #[.val (.long q1), .second, .val (.int p2), .val (.int (Int32.ofNat n)), .val (.ref b1), .unset, .unset, .unset] [(.int (Int32.ofNat n)), (.long q1), (.int (0 : Int32)), (.ref b1)])) _
    refine XS.iconst X1.here hx rfl (hb hby at_17) ?_
    show Steps p.tables e below (T1.setTop (mkF m 18 #[.val (.long q1), .second, .val (.int p2), .val (.int (Int32.ofNat n)), .val (.ref b1), .unset, .unset, .unset] [(.int (0 : Int32)), (.int (Int32.ofNat n)), (.long q1), (.int (0 : Int32)), (.ref b1)])) _
    refine st2 _ ?_
    show Steps p.tables e below (T2.setTop (mkF m 21 #[.val (.long q1), .second, .val (.int p2), .val (.int (Int32.ofNat n)), .val (.ref b1), .unset, .unset, .unset] [(.int (own_b q1 (Int32.ofNat n) (0 : Int32))), (.int (0 : Int32)), (.ref b1)])) _
    refine st4 _ ?_
    show Steps p.tables e below (T4.setTop (mkF m 22 #[.val (.long q1), .second, .val (.int p2), .val (.int (Int32.ofNat n)), .val (.ref b1), .unset, .unset, .unset] [])) _
    refine st5 _ ?_
    show Steps p.tables e below (T5.setTop (mkF m 37 #[.val (.long q1), .second, .val (.int p2), .val (.int (Int32.ofNat n)), .val (.ref b1), .unset, .unset, .unset] [])) _
    refine st9 _ ?_
    show Steps p.tables e below (T9.setTop (mkF m 52 #[.val (.long q1), .second, .val (.int p2), .val (.int (Int32.ofNat n)), .val (.ref b1), .unset, .unset, .unset] [])) _
    refine st13 _ ?_
    show Steps p.tables e below (T13.setTop (mkF m 67 #[.val (.long q1), .second, .val (.int p2), .val (.int (Int32.ofNat n)), .val (.ref b1), .unset, .unset, .unset] [])) _
    refine st17 _ ?_
    show Steps p.tables e below (T17.setTop (mkF m 82 #[.val (.long q1), .second, .val (.int p2), .val (.int (Int32.ofNat n)), .val (.ref b1), .unset, .unset, .unset] [])) _
    refine st21 _ ?_
    show Steps p.tables e below (T21.setTop (mkF m 97 #[.val (.long q1), .second, .val (.int p2), .val (.int (Int32.ofNat n)), .val (.ref b1), .unset, .unset, .unset] [])) _
    refine st25 _ ?_
    show Steps p.tables e below (T25.setTop (mkF m 115 #[.val (.long q1), .second, .val (.int p2), .val (.int (Int32.ofNat n)), .val (.ref b1), .unset, .unset, .unset] [])) _
    refine st29 _ ?_
    show Steps p.tables e below (T29.setTop (mkF m 133 #[.val (.long q1), .second, .val (.int p2), .val (.int (Int32.ofNat n)), .val (.ref b1), .unset, .unset, .unset] [])) _
    refine XS.bipush X29.here hx rfl (hb hby at_133) ?_
    show Steps p.tables e below (T29.setTop (mkF m 135 #[.val (.long q1), .second, .val (.int p2), .val (.int (Int32.ofNat n)), .val (.ref b1), .unset, .unset, .unset] [(.int (64 : Int32))])) _
    refine XS.bipush X29.here hx rfl (hb hby at_135) ?_
    show Steps p.tables e below (T29.setTop (mkF m 137 #[.val (.long q1), .second, .val (.int p2), .val (.int (Int32.ofNat n)), .val (.ref b1), .unset, .unset, .unset] [(.int (8 : Int32)), (.int (64 : Int32))])) _
    refine XS.iloadN X29.here hx rfl (hb hby at_137) rfl ?_
    show Steps p.tables e below (T29.setTop (mkF m 138 #[.val (.long q1), .second, .val (.int p2), .val (.int (Int32.ofNat n)), .val (.ref b1), .unset, .unset, .unset] [(.int (Int32.ofNat n)), (.int (8 : Int32)), (.int (64 : Int32))])) _
    refine XS.imul X29.here hx rfl (hb hby at_138) rfl ?_
    show Steps p.tables e below (T29.setTop (mkF m 139 #[.val (.long q1), .second, .val (.int p2), .val (.int (Int32.ofNat n)), .val (.ref b1), .unset, .unset, .unset] [(.int ((8 : Int32) * (Int32.ofNat n))), (.int (64 : Int32))])) _
    refine XS.isub X29.here hx rfl (hb hby at_139) rfl ?_
    show Steps p.tables e below (T29.setTop (mkF m 140 #[.val (.long q1), .second, .val (.int p2), .val (.int (Int32.ofNat n)), .val (.ref b1), .unset, .unset, .unset] [(.int ((64 : Int32) - ((8 : Int32) * (Int32.ofNat n))))])) _
    refine XS.istore X29.here hx rfl (hb hby at_140) rfl (l' := #[.val (.long q1), .second, .val (.int p2), .val (.int (Int32.ofNat n)), .val (.ref b1), .val (.int ((64 : Int32) - ((8 : Int32) * (Int32.ofNat n)))), .unset, .unset]) rfl ?_
    show Steps p.tables e below (T29.setTop (mkF m 142 #[.val (.long q1), .second, .val (.int p2), .val (.int (Int32.ofNat n)), .val (.ref b1), .val (.int ((64 : Int32) - ((8 : Int32) * (Int32.ofNat n)))), .unset, .unset] [])) _
    refine XS.lloadN X29.here hx rfl (hb hby at_142) rfl ?_
    show Steps p.tables e below (T29.setTop (mkF m 143 #[.val (.long q1), .second, .val (.int p2), .val (.int (Int32.ofNat n)), .val (.ref b1), .val (.int ((64 : Int32) - ((8 : Int32) * (Int32.ofNat n)))), .unset, .unset] [(.long q1)])) _
    refine XS.iload X29.here hx rfl (hb hby at_143) rfl ?_
    show Steps p.tables e below (T29.setTop (mkF m 145 #[.val (.long q1), .second, .val (.int p2), .val (.int (Int32.ofNat n)), .val (.ref b1), .val (.int ((64 : Int32) - ((8 : Int32) * (Int32.ofNat n)))), .unset, .unset] [(.int ((64 : Int32) - ((8 : Int32) * (Int32.ofNat n)))), (.long q1)])) _
    refine XS.lshl X29.here hx rfl (hb hby at_145) rfl ?_
    show Steps p.tables e below (T29.setTop (mkF m 146 #[.val (.long q1), .second, .val (.int p2), .val (.int (Int32.ofNat n)), .val (.ref b1), .val (.int ((64 : Int32) - ((8 : Int32) * (Int32.ofNat n)))), .unset, .unset] [(.long (q1 <<< (((64 : Int32) - ((8 : Int32) * (Int32.ofNat n))) &&& 0x3f).toInt64))])) _
    refine XS.iload X29.here hx rfl (hb hby at_146) rfl ?_
    show Steps p.tables e below (T29.setTop (mkF m 148 #[.val (.long q1), .second, .val (.int p2), .val (.int (Int32.ofNat n)), .val (.ref b1), .val (.int ((64 : Int32) - ((8 : Int32) * (Int32.ofNat n)))), .unset, .unset] [(.int ((64 : Int32) - ((8 : Int32) * (Int32.ofNat n)))), (.long (q1 <<< (((64 : Int32) - ((8 : Int32) * (Int32.ofNat n))) &&& 0x3f).toInt64))])) _
    refine XS.lshr X29.here hx rfl (hb hby at_148) rfl ?_
    show Steps p.tables e below (T29.setTop (mkF m 149 #[.val (.long q1), .second, .val (.int p2), .val (.int (Int32.ofNat n)), .val (.ref b1), .val (.int ((64 : Int32) - ((8 : Int32) * (Int32.ofNat n)))), .unset, .unset] [(.long ((q1 <<< (((64 : Int32) - ((8 : Int32) * (Int32.ofNat n))) &&& 0x3f).toInt64) >>> (((64 : Int32) - ((8 : Int32) * (Int32.ofNat n))) &&& 0x3f).toInt64))])) _
    refine XS.lstore X29.here hx rfl (hb hby at_149) rfl (l' := #[.val (.long q1), .second, .val (.int p2), .val (.int (Int32.ofNat n)), .val (.ref b1), .val (.int ((64 : Int32) - ((8 : Int32) * (Int32.ofNat n)))), .val (.long ((q1 <<< (((64 : Int32) - ((8 : Int32) * (Int32.ofNat n))) &&& 0x3f).toInt64) >>> (((64 : Int32) - ((8 : Int32) * (Int32.ofNat n))) &&& 0x3f).toInt64)), .second]) rfl ?_
    show Steps p.tables e below (T29.setTop (mkF m 151 #[.val (.long q1), .second, .val (.int p2), .val (.int (Int32.ofNat n)), .val (.ref b1), .val (.int ((64 : Int32) - ((8 : Int32) * (Int32.ofNat n)))), .val (.long ((q1 <<< (((64 : Int32) - ((8 : Int32) * (Int32.ofNat n))) &&& 0x3f).toInt64) >>> (((64 : Int32) - ((8 : Int32) * (Int32.ofNat n))) &&& 0x3f).toInt64)), .second] [])) _
    refine XS.aload X29.here hx rfl (hb hby at_151) rfl rfl ?_
    show Steps p.tables e below (T29.setTop (mkF m 153 #[.val (.long q1), .second, .val (.int p2), .val (.int (Int32.ofNat n)), .val (.ref b1), .val (.int ((64 : Int32) - ((8 : Int32) * (Int32.ofNat n)))), .val (.long ((q1 <<< (((64 : Int32) - ((8 : Int32) * (Int32.ofNat n))) &&& 0x3f).toInt64) >>> (((64 : Int32) - ((8 : Int32) * (Int32.ofNat n))) &&& 0x3f).toInt64)), .second] [(.ref b1)])) _
    refine st33 _ ?_
    show Steps p.tables e below (T33.setTop (mkF m 156 #[.val (.long q1), .second, .val (.int p2), .val (.int (Int32.ofNat n)), .val (.ref b1), .val (.int ((64 : Int32) - ((8 : Int32) * (Int32.ofNat n)))), .val (.long ((q1 <<< (((64 : Int32) - ((8 : Int32) * (Int32.ofNat n))) &&& 0x3f).toInt64) >>> (((64 : Int32) - ((8 : Int32) * (Int32.ofNat n))) &&& 0x3f).toInt64)), .second] [(.long (own_d (fun j => own_b q1 (Int32.ofNat n) (Int32.ofNat j)) (n - 1)))])) _
    refine XS.lload X33.here hx rfl (hb hby at_156) rfl ?_
    show Steps p.tables e below (T33.setTop (mkF m 158 #[.val (.long q1), .second, .val (.int p2), .val (.int (Int32.ofNat n)), .val (.ref b1), .val (.int ((64 : Int32) - ((8 : Int32) * (Int32.ofNat n)))), .val (.long ((q1 <<< (((64 : Int32) - ((8 : Int32) * (Int32.ofNat n))) &&& 0x3f).toInt64) >>> (((64 : Int32) - ((8 : Int32) * (Int32.ofNat n))) &&& 0x3f).toInt64)), .second] [(.long ((q1 <<< (((64 : Int32) - ((8 : Int32) * (Int32.ofNat n))) &&& 0x3f).toInt64) >>> (((64 : Int32) - ((8 : Int32) * (Int32.ofNat n))) &&& 0x3f).toInt64)), (.long (own_d (fun j => own_b q1 (Int32.ofNat n) (Int32.ofNat j)) (n - 1)))])) _
    refine XS.lcmp X33.here hx rfl (hb hby at_158) rfl ?_
    show Steps p.tables e below (T33.setTop (mkF m 159 #[.val (.long q1), .second, .val (.int p2), .val (.int (Int32.ofNat n)), .val (.ref b1), .val (.int ((64 : Int32) - ((8 : Int32) * (Int32.ofNat n)))), .val (.long ((q1 <<< (((64 : Int32) - ((8 : Int32) * (Int32.ofNat n))) &&& 0x3f).toInt64) >>> (((64 : Int32) - ((8 : Int32) * (Int32.ofNat n))) &&& 0x3f).toInt64)), .second] [(.int (lcmpW (own_d (fun j => own_b q1 (Int32.ofNat n) (Int32.ofNat j)) (n - 1)) ((q1 <<< (((64 : Int32) - ((8 : Int32) * (Int32.ofNat n))) &&& 0x3f).toInt64) >>> (((64 : Int32) - ((8 : Int32) * (Int32.ofNat n))) &&& 0x3f).toInt64)))])) _
    refine XS.ifNo X33.here hx rfl (hb hby at_159) rfl ((if0 _ _).trans (teq (((lw_eq _ _).mpr (own_key q1 hn1 hn)) : (lcmpW (own_d (fun j => own_b q1 (Int32.ofNat n) (Int32.ofNat j)) (n - 1)) ((q1 <<< (((64 : Int32) - ((8 : Int32) * (Int32.ofNat n))) &&& 0x3f).toInt64) >>> (((64 : Int32) - ((8 : Int32) * (Int32.ofNat n))) &&& 0x3f).toInt64)) = (0 : Int32))).2) ?_
    show Steps p.tables e below (T33.setTop (mkF m 162 #[.val (.long q1), .second, .val (.int p2), .val (.int (Int32.ofNat n)), .val (.ref b1), .val (.int ((64 : Int32) - ((8 : Int32) * (Int32.ofNat n)))), .val (.long ((q1 <<< (((64 : Int32) - ((8 : Int32) * (Int32.ofNat n))) &&& 0x3f).toInt64) >>> (((64 : Int32) - ((8 : Int32) * (Int32.ofNat n))) &&& 0x3f).toInt64)), .second] [])) _
    refine XS.iconst X33.here hx rfl (hb hby at_162) ?_
    show Steps p.tables e below (T33.setTop (mkF m 163 #[.val (.long q1), .second, .val (.int p2), .val (.int (Int32.ofNat n)), .val (.ref b1), .val (.int ((64 : Int32) - ((8 : Int32) * (Int32.ofNat n)))), .val (.long ((q1 <<< (((64 : Int32) - ((8 : Int32) * (Int32.ofNat n))) &&& 0x3f).toInt64) >>> (((64 : Int32) - ((8 : Int32) * (Int32.ofNat n))) &&& 0x3f).toInt64)), .second] [(.int (1 : Int32))])) _
    refine XS.goto X33.here hx rfl (pc0 := 163) (pc' := 167) rfl (hb hby at_163) (by decide) (by decide) ?_
    show Steps p.tables e below (T33.setTop (mkF m 167 #[.val (.long q1), .second, .val (.int p2), .val (.int (Int32.ofNat n)), .val (.ref b1), .val (.int ((64 : Int32) - ((8 : Int32) * (Int32.ofNat n)))), .val (.long ((q1 <<< (((64 : Int32) - ((8 : Int32) * (Int32.ofNat n))) &&& 0x3f).toInt64) >>> (((64 : Int32) - ((8 : Int32) * (Int32.ofNat n))) &&& 0x3f).toInt64)), .second] [(.int (1 : Int32))])) _
    exact retN X33 hx (t := .boolean) Bd.returns (by simp) (hb hby at_167) hr
  · show Q0 n0 _ T33.heap _
    exact ⟨rfl, N33⟩
set_option maxRecDepth 65536 in
set_option maxHeartbeats 40000000 in
theorem comes_1 {Post : Tables → Env → Array Value → State → Outcome → State → Prop} (hpost : ∀ tb e args s v u, (limb_1_1.after args s (.returned v) u = true ∧ limb_1_2.after args s (.returned v) u = true ∧ True) → FrameEnd s (.returned v) u (Jvm.fieldLocs frame_1_writes args s ++ Jvm.arrayLocs frame_1_arrays args s ++ Jvm.staticLocs frame_1_statics s) 16 128 → Post tb e args s (.returned v) u) :
    ArmFor flags0 classFile x code maxLocals ret World_1 tables_1 room_1 Calls_1 rest_1 Pre_1 Post := by
  intro l hfl _ _ p e ha hc hk s m args below hf hA hF happ hP
  obtain ⟨hcalls, hrest, hpre⟩ := hP
  obtain ⟨-, -, -, hnamed, -, -, -, hat⟩ := (Spec.applies_iff hf).mp happ
  obtain ⟨hg, hn⟩ := and_e (Cond.before_iff.mp (show (Jvm.Cond.and given_1 narrow_1).before args s = true from hpre))
  obtain ⟨u0, u1⟩ := and_e hg
  obtain ⟨v0, u2⟩ := and_e u1
  have v1 := u2
  obtain ⟨w0, w1, rfl⟩ : ∃ w0 w1 : Value, args = #[w0, w1] := by
    have hs : args.size = 2 := by simpa [Cond.value, given_1] using u0
    obtain ⟨L⟩ := args
    match L, hs with
    | [w0, w1], _ => exact ⟨w0, w1, rfl⟩
  have hw := fun d (hd : d ∈ tables_1) => atoms_spec (ws := Jvm.Cond.code x code maxLocals ret :: tables_1) hat d (List.mem_cons_of_mem _ hd)
  obtain ⟨i0, ei0⟩ := isL_v v0
  obtain rfl : w0 = (.long i0) := Option.some.inj ei0
  obtain ⟨i1, ei1⟩ := is_v v1
  obtain rfl : w1 = (.int i1) := Option.some.inj ei1
  obtain ⟨n, o, h1, h2, h3, _, L, rfl, ⟨rfl, N⟩, hq⟩ := rm0 l s _ hw tables_1 i0 i1 s.heap s.heap.size (Nat.le_refl _) p e ha hc hk s m _ below hf ((Spec.applies_iff_loose hf).mp happ).1 ⟨rfl, State.Warmed39.refl s, rfl⟩ trivial
  refine ⟨n, _, h1, h2, h3, hpost _ _ _ _ _ _ ⟨Cond.after_iff.mpr rfl, Cond.after_iff.mpr (eq_i res_at (Term.int_eval (1)) rfl), trivial⟩ ⟨hq.1, hq.2.1, (hq.2.2.sift fun y hy => Or.inr (N y hy)).mono (by decide) (by decide)⟩⟩
theorem main_1_1 : Claimed_1_1 := comes_1 fun _ _ _ _ _ _ h hF => ⟨h.1, hF⟩
theorem main_1_2 : Claimed_1_2 := comes_1 fun _ _ _ _ _ _ h hF => ⟨h.2.1, hF⟩
end Jvm.Pilot.@@N@@
namespace Jvm.Pilot.@@N@@
open Jvm Jvm.ClassFile Sem Op Lib Jvm.Free Jvm.Stand Jvm.Pilot.@@N@@.Jvm.D
/-! MADE BY PROGRAM (witnessworld.py) out of the Statement's table words and the real class files: 10 classes; the members and pool entries that the words name. The judged class is class 1, her method 1. -/
namespace start1
open Jvm.ClassFile
def u (s : String) : CpInfo := .utf8 (stringToUtf16 s)
/-- a pool by its gaps: so many unusable entries, then the entry; so many at the end -/
def gap : Nat → List CpInfo → List CpInfo
  | 0, r => r
  | n + 1, r => .unusable :: gap n r
def poolList (es : List (Nat × CpInfo)) (last : Nat) : List CpInfo := es.foldr (fun e r => gap e.1 (e.2 :: r)) (gap last [])
def pool (es : List (Nat × CpInfo)) (last : Nat) : Array CpInfo := ⟨poolList es last⟩
def fileOf (pool : Array CpInfo) (this : Nat) (attrs : Array Attribute := #[]) (ms : Array MethodInfo := #[]) (fl : Nat := 33) (sup : Nat := 0) (ifs : Array Nat := #[]) (fds : Array FieldInfo := #[]) : ClassFile where
  minorVersion := 0
  majorVersion := 65
  constantPool := pool
  accessFlags := fl
  thisClass := this
  superClass := sup
  interfaces := ifs
  fields := fds
  methods := ms
  attributes := attrs
def plain (name : String) (sup : Option ClassId) : Class where
  name := name
  kind := .ordinary
  loader := none
  accessFlags := 33
  super := sup
  interfaces := #[]
  cf := none
  fields := #[]
  methods := #[]
  instanceTypes := #[]
  staticTypes := #[]
  resolved := #[]
  callSites := []
  init := .initialized
  statics := none
  mirror := none

def pool0 : Array CpInfo := pool [(5, u "<init>"), (0, u "()V"), (1, .class_ 10), (1, u "java/lang/Object")] 113

def k0m0 : Method := { name := "<init>", desc := "()V", sig := { parameters := [], returnType := none }, accessFlags := 1, code := none }
/-- java/lang/Object -/
def k0 : Class := { plain "java/lang/Object" none with
  accessFlags := 33
  interfaces := #[]
  cf := some (fileOf pool0 8 #[] #[{ accessFlags := 1, nameIndex := 5, descriptorIndex := 6, attributes := #[] }] 33 0 #[] #[])
  fields := #[]
  methods := #[k0m0]
  instanceTypes := #[]
  staticTypes := #[]
  resolved := Array.replicate 124 none
  statics := none }

def pool1 : Array CpInfo := pool [(2, .class_ 4), (1, u "java/lang/Object"), (0, u "<init>"), (0, u "()V"), (0, .methodref 8 9), (0, .class_ 10), (0, .nameAndType 11 12), (0, u "com/example/fatrow/fatrow/engine/FixedIntegerCodecDecodeLongPinLaw"), (0, u "byteAt"), (0, u "(JII)B"), (0, .methodref 14 15), (0, .class_ 16), (0, .nameAndType 17 18), (0, u "com/example/fatrow/fatrow/engine/FixedIntegerCodec"), (0, u "decodeLong"), (0, u "([B)J"), (2, u "law"), (0, u "(JI)Z")] 5

def k1m0 : Method := { name := "<init>", desc := "()V", sig := { parameters := [], returnType := none }, accessFlags := 1, code := none }
def k1c1 : Code := { maxStack := 6, maxLocals := 8, code := code, exceptionTable := #[], attributes := #[] }
def k1m1 : Method := { name := "law", desc := "(JI)Z", sig := { parameters := [.long, .int], returnType := some .boolean }, accessFlags := 9, code := some k1c1 }
def k1c2 : Code := { maxStack := 5, maxLocals := 4, code := method_3_code, exceptionTable := #[], attributes := #[] }
def k1m2 : Method := { name := "byteAt", desc := "(JII)B", sig := { parameters := [.long, .int, .int], returnType := some .byte }, accessFlags := 10, code := some k1c2 }
/-- com/example/fatrow/fatrow/engine/FixedIntegerCodecDecodeLongPinLaw -/
def k1 : Class := { plain "com/example/fatrow/fatrow/engine/FixedIntegerCodecDecodeLongPinLaw" (some 0) with
  accessFlags := 49
  interfaces := #[]
  cf := some (fileOf pool1 8 #[] #[{ accessFlags := 1, nameIndex := 5, descriptorIndex := 6, attributes := #[] }, { accessFlags := 9, nameIndex := 21, descriptorIndex := 22, attributes := #[] }, { accessFlags := 10, nameIndex := 11, descriptorIndex := 12, attributes := #[] }] 49 2 #[] #[])
  fields := #[]
  methods := #[k1m0, k1m1, k1m2]
  instanceTypes := #[]
  staticTypes := #[]
  resolved := Array.replicate 28 none
  statics := none }

def pool2 : Array CpInfo := pool [(1, .class_ 2), (0, u "com/example/fatrow/fatrow/engine/Codec"), (0, .class_ 4), (0, u "java/lang/Object")] 16

/-- com/example/fatrow/fatrow/engine/Codec -/
def k2 : Class := { plain "com/example/fatrow/fatrow/engine/Codec" (some 0) with
  accessFlags := 1536
  interfaces := #[]
  cf := some (fileOf pool2 1 #[] #[] 1536 3 #[] #[])
  fields := #[]
  methods := #[]
  instanceTypes := #[]
  staticTypes := #[]
  resolved := Array.replicate 21 none
  statics := none }

def pool3 : Array CpInfo := pool [(2, .class_ 4), (1, u "java/lang/Object"), (3, .class_ 10), (1, u "com/example/fatrow/fatrow/engine/FixedIntegerCodec"), (0, u "bytes"), (0, u "I"), (8, u "min"), (0, u "J"), (4, u "max"), (20, u "decodeLong"), (0, u "([B)J"), (33, u "INTEGER"), (0, u "Ljava/util/regex/Pattern;"), (32, .class_ 118), (0, u "com/example/fatrow/fatrow/engine/Codec")] 37

def k3c0 : Code := { maxStack := 4, maxLocals := 4, code := prog_15_method_10_code, exceptionTable := #[], attributes := #[] }
def k3m0 : Method := { name := "decodeLong", desc := "([B)J", sig := { parameters := [(.array .byte)], returnType := some .long }, accessFlags := 8, code := some k3c0 }
/-- com/example/fatrow/fatrow/engine/FixedIntegerCodec -/
def k3 : Class := { plain "com/example/fatrow/fatrow/engine/FixedIntegerCodec" (some 0) with
  accessFlags := 32
  interfaces := #[2]
  cf := some (fileOf pool3 8 #[] #[{ accessFlags := 8, nameIndex := 48, descriptorIndex := 49, attributes := #[] }] 32 2 #[117] #[{ accessFlags := 26, nameIndex := 83, descriptorIndex := 84, attributes := #[] }, { accessFlags := 18, nameIndex := 11, descriptorIndex := 12, attributes := #[] }, { accessFlags := 18, nameIndex := 21, descriptorIndex := 22, attributes := #[] }, { accessFlags := 18, nameIndex := 27, descriptorIndex := 22, attributes := #[] }])
  fields := #[{ name := "INTEGER", type := (.object "java/util/regex/Pattern"), accessFlags := 26, slot := 0, constantValue := 0 }, { name := "bytes", type := .int, accessFlags := 18, slot := 0, constantValue := 0 }, { name := "min", type := .long, accessFlags := 18, slot := 1, constantValue := 0 }, { name := "max", type := .long, accessFlags := 18, slot := 2, constantValue := 0 }]
  methods := #[k3m0]
  instanceTypes := #[.int, .long, .long]
  staticTypes := #[(.object "java/util/regex/Pattern")]
  resolved := Array.replicate 156 none
  statics := none }

def pool4 : Array CpInfo := pool [(1, u "java/lang/Cloneable"), (0, .class_ 1), (0, u "java/lang/Object"), (0, .class_ 3)] 3

/-- java/lang/Cloneable -/
def k4 : Class := { plain "java/lang/Cloneable" (some 0) with
  accessFlags := 1537
  interfaces := #[]
  cf := some (fileOf pool4 2 #[] #[] 1537 4 #[] #[])
  fields := #[]
  methods := #[]
  instanceTypes := #[]
  staticTypes := #[]
  resolved := Array.replicate 8 none
  statics := none }

def pool5 : Array CpInfo := pool [(1, u "java/io/Serializable"), (0, .class_ 1), (0, u "java/lang/Object"), (0, .class_ 3)] 3

/-- java/io/Serializable -/
def k5 : Class := { plain "java/io/Serializable" (some 0) with
  accessFlags := 1537
  interfaces := #[]
  cf := some (fileOf pool5 2 #[] #[] 1537 4 #[] #[])
  fields := #[]
  methods := #[]
  instanceTypes := #[]
  staticTypes := #[]
  resolved := Array.replicate 8 none
  statics := none }

/-- the primitive byte -/
def k6 : Class := { plain "byte" none with kind := .primitive 'B', accessFlags := 0x411 }
/-- [B -/
def k7 : Class := { plain "[B" (some 0) with kind := .array 6 .byte, interfaces := #[4, 5], accessFlags := 1041 }

/-- the primitive int -/
def k8 : Class := { plain "int" none with kind := .primitive 'I', accessFlags := 0x411 }
/-- [I -/
def k9 : Class := { plain "[I" (some 0) with kind := .array 8 .int, interfaces := #[4, 5], accessFlags := 1041 }

def heap : Heap := #[]
def classes : Array Class := #[k0, k1, k2, k3, k4, k5, k6, k7, k8, k9]
def interned : List (Array UInt16 × Addr) := []
def slotsUsed : Nat := 0
def theMethod : MethodId := ⟨1, 1⟩
def args0 : Array Value := #[.long 5, .int 3]
def aboutOver (below : List Frame) : State where
  vm := { classes := classes, interned := interned.toArray }
  heap := heap
  slotsUsed := slotsUsed
  threads := #[{ frames := .invoking theMethod args0 :: below }]
def below0 : List Frame := [.native { method := ⟨0, 0⟩, args := #[] }]
def about1 : State := aboutOver below0
def p0 : Program := .bare "" "" ""
def e0 : Env := launch0.env 0 0 0
theorem w_frames : about1.frames = Frame.invoking theMethod args0 :: below0 := rfl
set_option maxRecDepth 65536 in
theorem w_args : argsFit about1.vm theMethod args0 = true := by decide +kernel
set_option maxRecDepth 65536 in
theorem w_heap : heapFits about1 = true := by decide +kernel
set_option maxRecDepth 65536 in
theorem w_runnable : about1.curStatus? = some .runnable := by decide +kernel
set_option maxRecDepth 65536 in
theorem w_alone : about1.alone = true := by decide +kernel
set_option maxRecDepth 65536 in
theorem w_named : about1.methodNamed? x = some theMethod := by decide +kernel
set_option maxRecDepth 65536 in
theorem w_hears : about1.hears theMethod below0 = true := by decide +kernel
set_option maxRecDepth 65536 in
theorem w_ripe : about1.ripe theMethod args0 below0 = true := by decide +kernel
theorem w_running : about1.status = .running := rfl
set_option maxRecDepth 65536 in
theorem w_room : about1.hasRoom e0.platform room_1 = true :=
  launch0.hasRoom_least _ room_1 (by decide +kernel) (by decide +kernel) (by decide +kernel) (by decide +kernel) (by decide +kernel) (by decide +kernel)
theorem allAtoms_all (ts : List Jvm.Cond) (a : Array Jvm.Value) (st : Jvm.State) : (allAtoms ts).before a st = ts.all (fun c => c.before a st) := by
  induction ts with
  | nil => rfl
  | cons c t ih =>
    show (Jvm.Cond.and c (allAtoms t)).before a st = _
    rw [Jvm.Cond.before_and, ih, List.all_cons]
def words1 : List Jvm.Cond := Jvm.Cond.code x code maxLocals ret :: tables_1
/-- a 'code' word, met by the world's own term for the bytes: nothing is compared byte by byte -/
theorem code_word {y : MethodName} {bytes : ByteArray} {mx : Nat} {rt : Option FieldType} {a : Array Value} {s : State} {m : MethodId} {meth : Method} {c : Code} (h1 : s.methodNamed? y = some m) (h2 : s.vm.method? m = some meth) (h3 : meth.code = some c) (h4 : c.code = bytes)
    (h5 : (c.maxLocals == mx && c.exceptionTable.isEmpty && decide (c.maxStack ≤ mostOperands) && decide (meth.sig.returnType = rt) && !meth.locks && decide (parseMethodDescriptor y.desc = some meth.sig)) = true) : (Jvm.Cond.code y bytes mx rt).before a s = true := by
  simp only [Bool.and_eq_true, beq_iff_eq, Bool.not_eq_true', decide_eq_true_eq] at h5
  obtain ⟨⟨⟨⟨⟨g1, g2⟩, g3⟩, g4⟩, g5⟩, g6⟩ := h5
  simp [Cond.before, Cond.holds, Cond.value, h1, h2, h3, h4, g1, g2, g3, g4, g5, g6]
def isCode : Jvm.Cond → Bool
  | .code _ _ _ _ => true
  | _ => false
theorem all_split {L : List Jvm.Cond} {P : Jvm.Cond → Bool} (h1 : L.all (fun c => isCode c || P c) = true) (h2 : ∀ c ∈ L.filter isCode, P c = true) : L.all P = true := by
  refine List.all_eq_true.mpr fun c hc => ?_
  have h := List.all_eq_true.mp h1 c hc
  rcases Bool.eq_false_or_eq_true (isCode c) with hi | hi
  · exact h2 c (List.mem_filter.mpr ⟨hc, hi⟩)
  · simpa [hi] using h
set_option maxRecDepth 65536 in
theorem w_c0 : (Jvm.Cond.code x code maxLocals ret).before args0 about1 = true := code_word (m := ⟨1, 1⟩) (meth := k1m1) (c := k1c1) (by decide +kernel) rfl rfl rfl (by decide +kernel)
set_option maxRecDepth 65536 in
theorem w_c1 : (Jvm.Cond.code ({ cls := "com/example/fatrow/fatrow/engine/FixedIntegerCodecDecodeLongPinLaw", name := "byteAt", desc := "(JII)B" } : Jvm.MethodName) method_3_code (4 : Nat) (Option.some Jvm.ClassFile.FieldType.byte)).before args0 about1 = true := code_word (m := ⟨1, 2⟩) (meth := k1m2) (c := k1c2) (by decide +kernel) rfl rfl rfl (by decide +kernel)
set_option maxRecDepth 65536 in
theorem w_c2 : (Jvm.Cond.code ({ cls := "com/example/fatrow/fatrow/engine/FixedIntegerCodec", name := "decodeLong", desc := "([B)J" } : Jvm.MethodName) prog_15_method_10_code (4 : Nat) (Option.some Jvm.ClassFile.FieldType.long)).before args0 about1 = true := code_word (m := ⟨3, 0⟩) (meth := k3m0) (c := k3c0) (by decide +kernel) rfl rfl rfl (by decide +kernel)
def codes1 : List Jvm.Cond := [Jvm.Cond.code x code maxLocals ret, Jvm.Cond.code ({ cls := "com/example/fatrow/fatrow/engine/FixedIntegerCodecDecodeLongPinLaw", name := "byteAt", desc := "(JII)B" } : Jvm.MethodName) method_3_code (4 : Nat) (Option.some Jvm.ClassFile.FieldType.byte), Jvm.Cond.code ({ cls := "com/example/fatrow/fatrow/engine/FixedIntegerCodec", name := "decodeLong", desc := "([B)J" } : Jvm.MethodName) prog_15_method_10_code (4 : Nat) (Option.some Jvm.ClassFile.FieldType.long)]
set_option maxRecDepth 65536 in
theorem codes_eq : words1.filter isCode = codes1 := rfl
theorem w_codes : ∀ c ∈ words1.filter isCode, c.before args0 about1 = true := by
  rw [codes_eq]
  intro c hc
  simp only [codes1, List.mem_cons, List.not_mem_nil, or_false] at hc
  rcases hc with rfl | rfl | rfl
  · exact w_c0
  · exact w_c1
  · exact w_c2
set_option maxRecDepth 65536 in
theorem w_t1 : words1.all (fun c => isCode c || c.before args0 about1) = true := by decide +kernel
theorem w_tables : (allAtoms (Jvm.Cond.code x code maxLocals ret :: tables_1)).before args0 about1 = true := by
  rw [allAtoms_all]
  show words1.all (fun c => c.before args0 about1) = true
  refine all_split ?_ w_codes
  rw [w_t1]
set_option maxRecDepth 65536 in
theorem w_case : (Jvm.Cond.and given_1 narrow_1).before args0 about1 = true := by decide +kernel
theorem w_applies : (headSpec (Jvm.Cond.code x code maxLocals ret :: tables_1) room_1).applies x e0.platform about1 = true :=
  (Spec.applies_iff w_frames).mpr ⟨w_running, w_runnable, w_alone, w_named, w_hears, w_ripe, w_room, w_tables⟩
theorem atStart : AtStart classFile x code maxLocals ret World_1 tables_1 room_1 Calls_1 rest_1 Pre_1 launch0 p0 e0 about1 theMethod args0 below0 :=
  ⟨lists_1, trivial, launch0.admits_env _ _ _, launch0.least_env, fairChoices_fair.cas, fairChoices_fair.clock, w_frames, w_args, w_heap, w_applies, trivial, trivial, w_case⟩
end start1
theorem witness_1 : WitnessClaimed_1 := ⟨start1.p0, start1.e0, start1.about1, start1.theMethod, start1.args0, start1.below0, start1.atStart⟩
end Jvm.Pilot.@@N@@
