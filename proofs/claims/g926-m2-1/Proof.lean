import JvmDerived
import JvmDerived.Pilot.@@N@@Statement
import JvmDerived.Pilot.@@N@@Code
set_option linter.unusedVariables false
set_option linter.unusedSimpArgs false
namespace Jvm.RoadKit
open Sem ClassFile Op Lib Jvm.Stand Jvm.Free Jvm.LawKit
section New
variable {p : Program} {l : Launch} {e : Env} {R : Room} {s : State} {m : MethodId} {args : Array Value} {below : List Frame} {meth : Method} {c : Code} {T : State} {locs : List Loc} {cells slots : Nat}
theorem retI (X : Stand p l e R s m args below meth c T locs cells slots) (hx : p.tables.exec = Jvm.exec) {pc : Nat} {Ls : Array Slot} {z : Int32} {rest : List Value} (hret : meth.sig.returnType = some .int) (hd : decode c.code pc = .ok (.ireturn, 1)) {fs : List Frame}
    (hl : ∀ (f : JFrame) (acts : List Action), f.method = m → f.locked = none → f.entered = [] → (doReturn e (T.setTop f) acts (some (.int z))).1 = T.setFrames fs) : Steps p.tables e below (T.setTop (mkF m pc Ls (.int z :: rest))) (T.setFrames fs) := by
  have hm' : T.vm.method? m = some meth := X.method'
  have hn : narrow .int (.int z) = .int z := rfl
  show Steps p.tables e below (T.setTop { method := m, pc := pc, locals := Ls, stack := _ :: rest, locked := none }) _
  jvm_step X.here [X.here.top, hx, hd, hm', hret, hn]
  first | (intro acts; rw [hl _ acts rfl rfl rfl]) | rw [hl _ _ rfl rfl rfl]
  exact Steps.refl _
end New
end Jvm.RoadKit
namespace Jvm.Pilot.@@N@@
open Jvm Jvm.ClassFile Sem Op Lib Jvm.Free Jvm.Stand Jvm.LawKit Jvm.RoadKit Bundle Jvm.Pilot.@@N@@.Jvm.D
def own_ch (u : UInt16) : Int32 := u.toUInt32.toInt32
theorem own_i2c (u : UInt16) : (own_ch u).toUInt32.toUInt16.toUInt32.toInt32 = own_ch u := by
  unfold own_ch; simp
theorem own_nar_ch (u : UInt16) : nar .char (own_ch u) = own_ch u := own_i2c u
def own_l (u : UInt16) : Int32 := nar .byte ((own_ch u).toInt8.toInt32)
def own_b0 (u : UInt16) : Int32 := nar .byte ((own_ch u >>> ((0 : Int32) &&& 31)).toInt8.toInt32)
def own_b1 (u : UInt16) : Int32 := nar .byte ((own_ch u >>> ((8 : Int32) &&& 31)).toInt8.toInt32)
theorem own_ch_bit (u : UInt16) (j : Nat) : (own_ch u).toBitVec.getLsbD j = u.toBitVec.getLsbD j := by
  show (u.toBitVec.setWidth 32).getLsbD j = _
  rw [BitVec.getLsbD_setWidth]
  by_cases h : j < 32
  · simp [h]
  · rw [BitVec.getLsbD_of_ge u.toBitVec j (by omega)]; simp
theorem own_nb (y : Int32) : nar .byte (y.toInt8.toInt32) = y.toInt8.toInt32 := by
  show (y.toInt8.toInt32).toInt8.toInt32 = _
  simp
theorem own_b255 (q : Nat) : (255 : Int32).toBitVec.getLsbD q = decide (q < 8) := by
  by_cases r : q < 32
  · revert q; decide
  · have : ¬ q < 8 := by omega
    rw [BitVec.getLsbD_of_ge _ _ (by omega)]
    simp [this]
theorem own_byte_bit (y : Int32) (j : Nat) : (nar .byte (y.toInt8.toInt32) &&& (255 : Int32)).toBitVec.getLsbD j = (decide (j < 8) && y.toBitVec.getLsbD j) := by
  rw [own_nb, Int32.toBitVec_and, BitVec.getLsbD_and, own_b255, Int8.toBitVec_toInt32, Int32.toBitVec_toInt8]
  by_cases h : j < 8
  · have h1 : j < 32 := by omega
    simp only [BitVec.getLsbD_signExtend, h, h1, decide_true, Bool.true_and, if_true, Bool.and_true]
  · simp [h]
theorem own_lat (u : UInt16) (h : ¬ (255 : Int32) < own_ch u) : own_l u &&& (255 : Int32) = own_ch u := by
  apply Int32.toBitVec_inj.mp
  apply BitVec.eq_of_getLsbD_eq
  intro j hj
  unfold own_l
  rw [own_byte_bit, own_ch_bit]
  by_cases q : j < 8
  · simp [q]
  · have hu : u.toNat < 2 ^ 8 := by
      rw [Int32.lt_iff_toInt_lt] at h
      have e1 : (255 : Int32).toInt = 255 := rfl
      have e2 : (own_ch u).toInt = u.toNat := by
        show ((u.toUInt32).toBitVec).toInt = _
        have hu := u.toNat_lt
        have hm : (u.toUInt32).toBitVec.toNat = u.toNat := by
          show (u.toUInt32).toNat = _
          simp
        rw [BitVec.toInt_eq_toNat_of_lt (by rw [hm]; omega), hm]
      omega
    have : u.toBitVec.getLsbD j = false := by
      show u.toBitVec.toNat.testBit j = false
      apply Nat.testBit_lt_two_pow
      exact Nat.lt_of_lt_of_le hu (Nat.pow_le_pow_right (by decide) (by omega))
    rw [this]
    simp [q]
theorem own_sh0 (x : Int32) : x >>> ((0 : Int32) &&& 31) = x := by
  apply Int32.toBitVec_inj.mp
  rw [Int32.toBitVec_shiftRight]
  have e : ((0 : Int32) &&& 31).toBitVec.smod 32 = 0#32 := by decide
  rw [e]; simp
theorem own_sh8 (u : UInt16) (j : Nat) (h : j < 8) : (own_ch u >>> ((8 : Int32) &&& 31)).toBitVec.getLsbD j = u.toBitVec.getLsbD (8 + j) := by
  rw [Int32.toBitVec_shiftRight]
  have e : ((8 : Int32) &&& 31).toBitVec.smod 32 = 8#32 := by decide
  rw [e, BitVec.sshiftRight_eq', BitVec.getLsbD_sshiftRight]
  have t8 : (8#32).toNat = 8 := rfl
  rw [t8]
  have h1 : 8 + j < 32 := by omega
  have h2 : ¬ 32 ≤ j := by omega
  rw [if_pos h1, own_ch_bit]
  simp [h2]
theorem own_join (u : UInt16) : ((own_b0 u &&& (255 : Int32)) <<< ((0 : Int32) &&& 31)) ||| ((own_b1 u &&& (255 : Int32)) <<< ((8 : Int32) &&& 31)) = own_ch u := by
  apply Int32.toBitVec_inj.mp
  rw [Int32.toBitVec_or, Int32.toBitVec_shiftLeft, Int32.toBitVec_shiftLeft]
  have e0 : ((0 : Int32) &&& 31).toBitVec.smod 32 = 0#32 := by decide
  have e8 : ((8 : Int32) &&& 31).toBitVec.smod 32 = 8#32 := by decide
  rw [e0, e8]
  apply BitVec.eq_of_getLsbD_eq
  intro j hj
  rw [BitVec.getLsbD_or, BitVec.shiftLeft_eq', BitVec.shiftLeft_eq', BitVec.getLsbD_shiftLeft, BitVec.getLsbD_shiftLeft]
  have t8 : (8#32).toNat = 8 := rfl
  have t0 : (0#32).toNat = 0 := rfl
  rw [t8, t0, own_ch_bit]
  unfold own_b0 own_b1
  rw [own_byte_bit, own_byte_bit, own_sh0, own_ch_bit, Nat.sub_zero]
  by_cases q : j < 8
  · simp [q, hj]
  · by_cases r : j < 16
    · have h1 : j - 8 < 8 := by omega
      have h2 : 8 + (j - 8) = j := by omega
      rw [own_sh8 u _ h1, h2]
      simp [q, hj, h1]
    · have h1 : ¬ j - 8 < 8 := by omega
      rw [BitVec.getLsbD_of_ge u.toBitVec j (by omega)]
      simp [q, h1]
theorem own_get (u : UInt16) : nar .char ((((own_b0 u &&& (255 : Int32)) <<< ((0 : Int32) &&& 31)) ||| ((own_b1 u &&& (255 : Int32)) <<< ((8 : Int32) &&& 31))).toUInt32.toUInt16.toUInt32.toInt32) = own_ch u := by
  rw [own_join, own_i2c, own_nar_ch]
theorem own_getl (u : UInt16) (h : ¬ (255 : Int32) < own_ch u) : nar .char ((own_l u &&& (255 : Int32)).toUInt32.toUInt16.toUInt32.toInt32) = own_ch u := by
  rw [own_lat u h, own_i2c, own_nar_ch]
/-- the statics that the sheet's sets name -/
def own_St (Z : State) (cs : Int32) (vF : Value) : Prop := Sta Z Z.heap "java/lang/String" "COMPACT_STRINGS" "Z" (.int cs) ∧ ¬ cs = 0 ∧ Sta Z Z.heap "jdk/internal/util/Preconditions" "SIOOBE_FORMATTER" "Ljava/util/function/BiFunction;" vF ∧ vF.isRef = true ∧ Sta Z Z.heap "java/lang/StringUTF16" "$assertionsDisabled" "Z" (.int (1 : Int32)) ∧ Sta Z Z.heap "java/lang/StringUTF16" "HI_BYTE_SHIFT" "I" (.int (0 : Int32)) ∧ Sta Z Z.heap "java/lang/StringUTF16" "LO_BYTE_SHIFT" "I" (.int (8 : Int32))
def own_vl (us : List UInt16) : List Value := us.map fun u => .int (own_l u)
def own_vu : List UInt16 → List Value
  | [] => []
  | u :: r => .int (own_b0 u) :: .int (own_b1 u) :: own_vu r
/-- a String of the chars us: its object and its byte[] lie beneath B, and were made since the law began -/
def own_Str (Z : State) (h : Heap) (n0 B : Nat) (a : Addr) (us : List UInt16) : Prop := ∃ (t : Addr) (k : ClassId) (cd : Int32), Exa Z h a "java/lang/String" ∧ Fld Z h a "java/lang/String" "coder" "B" (.int cd) ∧ Fld Z h a "java/lang/String" "value" "[B" (.ref t) ∧ (n0 ≤ a ∧ n0 ≤ t ∧ a < B ∧ t < B) ∧ ((cd = 0 ∧ (∀ u ∈ us, ¬ (255 : Int32) < own_ch u) ∧ Arv Z h t k .byte (Int32.ofNat us.length) (own_vl us) (.int (0 : Int32))) ∨ (cd = 1 ∧ Arv Z h t k .byte (Int32.ofNat (2 * us.length)) (own_vu us) (.int (0 : Int32))))
theorem own_Str.ext {Z : State} {h h' : Heap} {n0 B : Nat} {a : Addr} {us : List UInt16} (F : own_Str Z h n0 B a us) (E : Ext h h') : own_Str Z h' n0 B a us := by
  obtain ⟨t, k, cd, f1, f2, f3, f4, f5⟩ := F
  exact ⟨t, k, cd, f1.ext E, f2.ext E, f3.ext E, f4, f5.elim (fun q => Or.inl ⟨q.1, q.2.1, q.2.2.ext E⟩) (fun q => Or.inr ⟨q.1, q.2.ext E⟩)⟩
theorem own_Str.keep {Z : State} {h h' : Heap} {n0 B : Nat} {a : Addr} {us : List UInt16} {ws : List Addr} (F : own_Str Z h n0 B a us) (K : Keep h h' ws) (q : ∀ x ∈ ws, B ≤ x) : own_Str Z h' n0 B a us := by
  obtain ⟨t, k, cd, f1, f2, f3, f4, f5⟩ := F
  have na : a ∉ ws := fun z => absurd (q a z) (Nat.not_le.mpr f4.2.2.1)
  have nt : t ∉ ws := fun z => absurd (q t z) (Nat.not_le.mpr f4.2.2.2)
  exact ⟨t, k, cd, f1.keep K, f2.keep K na, f3.keep K na, f4, f5.elim (fun q => Or.inl ⟨q.1, q.2.1, q.2.2.keep K nt⟩) (fun q => Or.inr ⟨q.1, q.2.keep K nt⟩)⟩
theorem own_Str.wr {Z : State} {h h' : Heap} {n0 B : Nat} {a b : Addr} {us : List UInt16} {sl : Nat} {v : Value} (F : own_Str Z h n0 B a us) (W : Wr h h' b sl v) (q : B ≤ b) : own_Str Z h' n0 B a us := F.keep (Keep.of_wr W) (allS q all0)
theorem own_Str.up {Z : State} {h : Heap} {n0 B B' : Nat} {a : Addr} {us : List UInt16} (F : own_Str Z h n0 B a us) (q : B ≤ B') : own_Str Z h n0 B' a us := by
  obtain ⟨t, k, cd, f1, f2, f3, f4, f5⟩ := F
  exact ⟨t, k, cd, f1, f2, f3, ⟨f4.1, f4.2.1, Nat.lt_of_lt_of_le f4.2.2.1 q, Nat.lt_of_lt_of_le f4.2.2.2 q⟩, f5⟩
/-- a LineDigest's class and fields -/
def own_Dig (Z : State) (h : Heap) (a : Addr) (n f s : Int64) : Prop := Exa Z h a "com/example/keelson/keelson/bench/LineDigest" ∧ Fld Z h a "com/example/keelson/keelson/bench/LineDigest" "lines" "J" (.long n) ∧ Fld Z h a "com/example/keelson/keelson/bench/LineDigest" "first" "J" (.long f) ∧ Fld Z h a "com/example/keelson/keelson/bench/LineDigest" "second" "J" (.long s)
theorem own_Dig.ext {Z : State} {h h' : Heap} {a : Addr} {n f s : Int64} (F : own_Dig Z h a n f s) (E : Ext h h') : own_Dig Z h' a n f s := ⟨F.1.ext E, F.2.1.ext E, F.2.2.1.ext E, F.2.2.2.ext E⟩
theorem own_Dig.keep {Z : State} {h h' : Heap} {a : Addr} {n f s : Int64} {ws : List Addr} (F : own_Dig Z h a n f s) (K : Keep h h' ws) (q : a ∉ ws) : own_Dig Z h' a n f s := ⟨F.1.keep K, F.2.1.keep K q, F.2.2.1.keep K q, F.2.2.2.keep K q⟩
theorem own_Dig.lt {Z : State} {h : Heap} {a : Addr} {n f s : Int64} (F : own_Dig Z h a n f s) : a < h.size := F.2.1.lt
theorem own_eq_int {args : Array Value} {first s : State} {o : Option Outcome} {idx : List Nat} {t : Term} {k : Int32} (h : (Cond.eq t (Term.int k)).value args first o s idx = some true) : t.eval args first o idx s = some (.int k) := by
  simp only [Cond.value, Term.eval] at h
  cases ht : t.eval args first o idx s with
  | none => simp [ht] at h
  | some x => cases x <;> simp [ht] at h ⊢ <;> exact h
def own_can (p : Int32) : Int32 := if (255 : Int32) < p then 0 else 1
def own_co (z : Int32) : Int32 := nar .byte (((((2 : Int32) - z).toUInt32 >>> ((31 : Int32) &&& 31).toUInt32).toInt32).toInt8.toInt32)
def own_rot (x : Int64) (k : Int32) : Int64 := (x <<< (k &&& 0x3f).toInt64) ||| ((x.toUInt64 >>> ((-k) &&& 0x3f).toInt64.toUInt64).toInt64)
def own_xs (k : Int32) (z : Int64) : Int64 := z ^^^ ((z.toUInt64 >>> (k &&& 0x3f).toInt64.toUInt64).toInt64)
def own_spread (h m1 m2 : Int64) : Int64 := own_xs 32 (own_xs 29 (own_xs 33 h * m1) * m2)
def own_ha (us : List UInt16) : Nat → Int64
  | 0 => (-3750763034362895579 : Int64)
  | i + 1 => (own_ha us i ^^^ (own_ch (us.getD i 0)).toInt64) * (1099511628211 : Int64)
def own_hb (us : List UInt16) : Nat → Int64
  | 0 => (-7046029254386353131 : Int64)
  | i + 1 => own_rot ((own_hb us i ^^^ (own_ch (us.getD i 0)).toInt64) * (-4417276706812531889 : Int64)) 31
def own_F (us : List UInt16) : Int64 := own_spread (own_ha us us.length ^^^ (Int32.ofNat us.length).toInt64) (-49064778989728563 : Int64) (-4265267296055464877 : Int64)
def own_G (us : List UInt16) : Int64 := own_spread (own_hb us us.length ^^^ (Int32.ofNat us.length).toInt64) (-4658895280553007687 : Int64) (-7723592293110705685 : Int64)
def own_same (n f s n' f' s' : Int64) : Int32 := if n = n' ∧ f = f' ∧ s = s' then 1 else 0
theorem own_xs_inj {k : Int32} {n : Nat} (hk : ((k &&& 0x3f).toInt64.toUInt64.toBitVec % 64).toNat = n) (hn : 1 ≤ n) {x y : Int64} (h : own_xs k x = own_xs k y) : x = y := by
  have e : ∀ z : Int64, (own_xs k z).toBitVec = z.toBitVec ^^^ (z.toBitVec >>> n) := fun z => by
    unfold own_xs
    rw [Int64.toBitVec_xor]
    show _ ^^^ (z.toUInt64 >>> (k &&& 0x3f).toInt64.toUInt64).toBitVec = _
    rw [UInt64.toBitVec_shiftRight, BitVec.ushiftRight_eq', hk]
    rfl
  have h1 : x.toBitVec ^^^ (x.toBitVec >>> n) = y.toBitVec ^^^ (y.toBitVec >>> n) := by rw [← e, ← e, h]
  have h2 : x.toBitVec ^^^ y.toBitVec = (x.toBitVec ^^^ y.toBitVec) >>> n := by
    rw [BitVec.ushiftRight_xor_distrib]
    have := congrArg (fun w => w ^^^ (y.toBitVec ^^^ (x.toBitVec >>> n))) h1
    have l : x.toBitVec ^^^ x.toBitVec >>> n ^^^ (y.toBitVec ^^^ x.toBitVec >>> n) = x.toBitVec ^^^ y.toBitVec := by
      rw [BitVec.xor_assoc, ← BitVec.xor_assoc (x.toBitVec >>> n), BitVec.xor_comm (x.toBitVec >>> n) y.toBitVec, BitVec.xor_assoc y.toBitVec, BitVec.xor_self, BitVec.xor_zero]
    have r : y.toBitVec ^^^ y.toBitVec >>> n ^^^ (y.toBitVec ^^^ x.toBitVec >>> n) = x.toBitVec >>> n ^^^ y.toBitVec >>> n := by
      rw [BitVec.xor_comm y.toBitVec (y.toBitVec >>> n), BitVec.xor_assoc, ← BitVec.xor_assoc y.toBitVec y.toBitVec, BitVec.xor_self, BitVec.zero_xor, BitVec.xor_comm]
    rw [l, r] at this
    exact this
  have h3 : (x.toBitVec ^^^ y.toBitVec).toNat = (x.toBitVec ^^^ y.toBitVec).toNat / 2 ^ n := by
    have := congrArg BitVec.toNat h2
    rw [BitVec.toNat_ushiftRight, Nat.shiftRight_eq_div_pow] at this
    exact this
  have h4 : (x.toBitVec ^^^ y.toBitVec).toNat = 0 := by
    rcases Nat.eq_zero_or_pos (x.toBitVec ^^^ y.toBitVec).toNat with q | q
    · exact q
    · have := Nat.div_lt_self q (show 1 < 2 ^ n from Nat.one_lt_two_pow (by omega))
      omega
  have h5 : x.toBitVec ^^^ y.toBitVec = 0#64 := BitVec.eq_of_toNat_eq (by rw [h4]; rfl)
  apply Int64.toBitVec_inj.mp
  have := congrArg (fun w => w ^^^ y.toBitVec) h5
  rw [BitVec.xor_assoc, BitVec.xor_self, BitVec.xor_zero, BitVec.zero_xor] at this
  exact this
theorem own_mul_inj {m m' : Int64} (hm : m * m' = 1) {x y : Int64} (h : x * m = y * m) : x = y := by
  have := congrArg (fun w => w * m') h
  rw [Int64.mul_assoc, Int64.mul_assoc, hm, Int64.mul_one, Int64.mul_one] at this
  exact this
theorem own_xor_inj {c x y : Int64} (h : c ^^^ x = c ^^^ y) : x = y := by
  have := congrArg (fun w => c ^^^ w) h
  rw [← Int64.xor_assoc, ← Int64.xor_assoc, Int64.xor_self, Int64.zero_xor, Int64.zero_xor] at this
  exact this
theorem own_F_inj {u v : UInt16} (h : own_F [u] = own_F [v]) : own_ch u = own_ch v := by
  unfold own_F own_spread at h
  have h1 := own_xs_inj (n := 32) (by decide) (by decide) h
  have h2 := own_mul_inj (m' := (-7154897129451604005 : Int64)) (by decide) h1
  have h3 := own_xs_inj (n := 29) (by decide) (by decide) h2
  have h4 := own_mul_inj (m' := (5725274745694666757 : Int64)) (by decide) h3
  have h5 := own_xs_inj (n := 33) (by decide) (by decide) h4
  rw [Int64.xor_comm, Int64.xor_comm (own_ha [v] [v].length)] at h5
  have h6 : own_ha [u] [u].length = own_ha [v] [v].length := own_xor_inj h5
  have h7 : ((-3750763034362895579 : Int64) ^^^ (own_ch u).toInt64) * (1099511628211 : Int64) = ((-3750763034362895579 : Int64) ^^^ (own_ch v).toInt64) * (1099511628211 : Int64) := h6
  have h8 := own_xor_inj (own_mul_inj (m' := (-3560570117845248645 : Int64)) (by decide) h7)
  have h9 := congrArg Int64.toInt h8
  rw [Int32.toInt_toInt64, Int32.toInt_toInt64] at h9
  exact Int32.toInt_inj.mp h9
theorem own_one (i : Nat) : Int32.ofNat i + (1 : Int32) = Int32.ofNat (i + 1) := (Int32.ofNat_add i 1).symm
theorem own_lti : ∀ n, n < 9 → ∀ i, i < n → Int32.ofNat i < Int32.ofNat n := by decide
theorem own_nn : ∀ n, n < 9 → ¬ Int32.ofNat n < 0 := by decide
theorem own_n32 : ∀ n, n < 9 → (Int32.ofNat n).toNatClampNeg = n := by decide
theorem own_half : ∀ n, n < 4 → Int32.ofNat (2 * n) >>> ((1 : Int32) &&& 31) = Int32.ofNat n := by decide
theorem own_full (z : Int32) : z >>> ((0 : Int32) &&& 31) = z := own_sh0 z
theorem own_d0 : ∀ i, i < 2 → (Int32.ofNat i <<< ((1 : Int32) &&& 31)).toNatClampNeg = 2 * i := by decide
theorem own_d1 : ∀ i, i < 2 → ((Int32.ofNat i <<< ((1 : Int32) &&& 31)) + (1 : Int32)).toNatClampNeg = 2 * i + 1 := by decide
theorem own_d0n : ∀ i, i < 2 → ¬ (Int32.ofNat i <<< ((1 : Int32) &&& 31)) < 0 := by decide
theorem own_d1n : ∀ i, i < 2 → ¬ ((Int32.ofNat i <<< ((1 : Int32) &&& 31)) + (1 : Int32)) < 0 := by decide
theorem own_vl_at (us : List UInt16) (i : Nat) (h : i < us.length) (d : Value) : (own_vl us).getD i d = .int (own_l (us.getD i 0)) := by
  simp [own_vl, List.getD_eq_getElem?_getD, h]
theorem own_vu_at (us : List UInt16) : ∀ (i : Nat) (h : i < us.length) (d : Value), (own_vu us).getD (2 * i) d = .int (own_b0 (us.getD i 0)) ∧ (own_vu us).getD (2 * i + 1) d = .int (own_b1 (us.getD i 0)) := by
  induction us with
  | nil => intro i h; simp at h
  | cons u r ih =>
    intro i h d
    match i with
    | 0 => exact ⟨rfl, rfl⟩
    | i + 1 =>
      have := ih i (by simpa using h) d
      have e1 : 2 * (i + 1) = 2 * i + 1 + 1 := by omega
      rw [e1]
      exact this
theorem da_0 : decode jdk_43_method_3_code 0 = .ok (.iload_n 0, 1) := by decide +kernel
theorem da_1 : decode jdk_43_method_3_code 1 = .ok (.sipush 255, 3) := by decide +kernel
theorem da_4 : decode jdk_43_method_3_code 4 = .ok (.if_icmp .gt 7, 3) := by decide +kernel
theorem da_7 : decode jdk_43_method_3_code 7 = .ok (.iconst 1, 1) := by decide +kernel
theorem da_8 : decode jdk_43_method_3_code 8 = .ok (.goto 4, 3) := by decide +kernel
theorem da_11 : decode jdk_43_method_3_code 11 = .ok (.iconst 0, 1) := by decide +kernel
theorem da_12 : decode jdk_43_method_3_code 12 = .ok (.ireturn, 1) := by decide +kernel
def Qa (p1 : Int32) (h0 : Heap) (n0 : Nat) (v : Option Value) (h : Heap) (L : List Loc) : Prop := v = some (.int (own_can p1)) ∧ Fr n0 L ∧ h = h0
theorem pna : plainName "java/lang/StringLatin1" = true := by first | (simp [plainName, overriddenIn]; done) | decide +kernel
theorem efa (m : MethodId) (x0 : Int32) : entryFrame m #[(.int x0)] 1 = mkF m 0 #[.val (.int x0)] [] := by first | (simp [entryFrame, mkF, argsToLocals, Value.category]; done) | rfl
set_option maxRecDepth 65536 in
set_option maxHeartbeats 40000000 in
theorem rma (l : Launch) (Z : State) (a0 : Array Value) (hw : ∀ d ∈ tables_1, d.before a0 Z = true) (ws : List Jvm.Cond) (p1 : Int32) (h0 : Heap) (n0 : Nat) (Z0 : n0 ≤ h0.size)  :
    MetFree l (⟨"java/lang/StringLatin1", "canEncode", "(C)Z"⟩ : MethodName) (head1 (Jvm.Cond.code (⟨"java/lang/StringLatin1", "canEncode", "(C)Z"⟩ : MethodName) jdk_43_method_3_code 1 (some .boolean) :: ws) ({ frames := 0, cells := 0, slots := 0, locals := 0 } : Room)) (fun a U => a = #[(.int p1)] ∧ Z.Warmed39 U.vm ∧ U.heap = h0) (fun _ _ _ _ _ => True) (fun _ U o U' => ∃ v L, o = .returned v ∧ Qa p1 h0 n0 v U'.heap L ∧ FrameEnd U o U' L ({ frames := 0, cells := 0, slots := 0, locals := 0 } : Room).cells ({ frames := 0, cells := 0, slots := 0, locals := 0 } : Room).slots) := by
  refine MetFree.of_bodySF (plainFor_of_name pna) hisR ?_
  intro p e s m args below meth c s₁ Bd hml0 hP hK
  obtain ⟨rfl, hZ, hh⟩ := hP
  have hx := Bd.exec
  have hby := Bd.bytes
  have hml : c.maxLocals = 1 := hml0
  have hown : s.vm.findClass "java/lang/StringLatin1" = some m.cls := findClass_of_methodNamed Bd.named
  have hnm := (name_of_methodNamed Bd.named Bd.method).1
  have X0 : Stand p l e ({ frames := 0, cells := 0, slots := 0, locals := 0 } : Room) s m #[(.int p1)] below meth c s₁ [] 0 0 := Stand.of_body Bd
  have e0 : s₁.heap = h0 := by rw [← hh, Bd.state]; rfl
  have N0 := Fr.nil n0
  have pre0 : ∀ t, Steps p.tables e below (s₁.setTop (mkF m 0 #[.val (.int p1)] [])) t → Steps p.tables e below (s₁.setTop (entryFrame m #[(.int p1)] 1)) t := fun t k => castTop (efa m p1) k
  by_cases hc : (255 : Int32) < p1
  · obtain ⟨fs, hr, hrun, hended, hW, hsame⟩ := X0.leave (v := some (.int (0 : Int32))) (fun h => by rw [Bd.returns] at h; cases h)
    refine ⟨_, _, pre0 _ ?_, hrun, hended, _, _, rfl, ?_, ⟨_, rfl⟩, hW, hsame.mono (by decide) (by decide)⟩
    · show Steps p.tables e below (s₁.setTop (mkF m 0 #[.val (.int p1)] [])) _
      refine XS.iloadN X0.here hx rfl (hb hby da_0) rfl ?_
      show Steps p.tables e below (s₁.setTop (mkF m 1 #[.val (.int p1)] [(.int p1)])) _
      refine XS.sipush X0.here hx rfl (hb hby da_1) ?_
      show Steps p.tables e below (s₁.setTop (mkF m 4 #[.val (.int p1)] [(.int (255 : Int32)), (.int p1)])) _
      refine XS.icmpYes X0.here hx rfl (pc0 := 4) (pc' := 11) rfl (hb hby da_4) rfl (tlt (hc : (255 : Int32) < p1)).2.2.1 (by decide) (by decide) ?_
      show Steps p.tables e below (s₁.setTop (mkF m 11 #[.val (.int p1)] [])) _
      refine XS.iconst X0.here hx rfl (hb hby da_11) ?_
      show Steps p.tables e below (s₁.setTop (mkF m 12 #[.val (.int p1)] [(.int (0 : Int32))])) _
      exact retN X0 hx (t := .boolean) Bd.returns (by simp) (hb hby da_12) hr
    · show Qa p1 h0 n0 _ s₁.heap _
      rw [e0]
      exact ⟨by rw [own_can, if_pos hc], N0, rfl⟩
  · obtain ⟨fs, hr, hrun, hended, hW, hsame⟩ := X0.leave (v := some (.int (1 : Int32))) (fun h => by rw [Bd.returns] at h; cases h)
    refine ⟨_, _, pre0 _ ?_, hrun, hended, _, _, rfl, ?_, ⟨_, rfl⟩, hW, hsame.mono (by decide) (by decide)⟩
    · show Steps p.tables e below (s₁.setTop (mkF m 0 #[.val (.int p1)] [])) _
      refine XS.iloadN X0.here hx rfl (hb hby da_0) rfl ?_
      show Steps p.tables e below (s₁.setTop (mkF m 1 #[.val (.int p1)] [(.int p1)])) _
      refine XS.sipush X0.here hx rfl (hb hby da_1) ?_
      show Steps p.tables e below (s₁.setTop (mkF m 4 #[.val (.int p1)] [(.int (255 : Int32)), (.int p1)])) _
      refine XS.icmpNo X0.here hx rfl (hb hby da_4) rfl (flt (hc : ¬ ((255 : Int32) < p1))).2.2.1 ?_
      show Steps p.tables e below (s₁.setTop (mkF m 7 #[.val (.int p1)] [])) _
      refine XS.iconst X0.here hx rfl (hb hby da_7) ?_
      show Steps p.tables e below (s₁.setTop (mkF m 8 #[.val (.int p1)] [(.int (1 : Int32))])) _
      refine XS.goto X0.here hx rfl (pc0 := 8) (pc' := 12) rfl (hb hby da_8) (by decide) (by decide) ?_
      show Steps p.tables e below (s₁.setTop (mkF m 12 #[.val (.int p1)] [(.int (1 : Int32))])) _
      exact retN X0 hx (t := .boolean) Bd.returns (by simp) (hb hby da_12) hr
    · show Qa p1 h0 n0 _ s₁.heap _
      rw [e0]
      exact ⟨by rw [own_can, if_neg hc], N0, rfl⟩
theorem db_0 : decode jdk_43_method_46_code 0 = .ok (.iconst 1, 1) := by decide +kernel
theorem db_1 : decode jdk_43_method_46_code 1 = .ok (.newarray .byte, 2) := by decide +kernel
theorem db_3 : decode jdk_43_method_46_code 3 = .ok (.dup, 1) := by decide +kernel
theorem db_4 : decode jdk_43_method_46_code 4 = .ok (.iconst 0, 1) := by decide +kernel
theorem db_5 : decode jdk_43_method_46_code 5 = .ok (.iload_n 0, 1) := by decide +kernel
theorem db_6 : decode jdk_43_method_46_code 6 = .ok (.i2b, 1) := by decide +kernel
theorem db_7 : decode jdk_43_method_46_code 7 = .ok (.bastore, 1) := by decide +kernel
theorem db_8 : decode jdk_43_method_46_code 8 = .ok (.areturn, 1) := by decide +kernel
def Qb (Z : State) (u : UInt16) (h0 : Heap) (n0 : Nat) (v : Option Value) (h : Heap) (L : List Loc) : Prop := Fr n0 L ∧ ∃ (b : Addr) (k : ClassId), v = some (.ref b) ∧ n0 ≤ b ∧ h0.size ≤ b ∧ Keep h0 h [] ∧ Arv Z h b k .byte (1 : Int32) [.int (own_l u)] (.int (0 : Int32))
theorem pnb : plainName "java/lang/StringLatin1" = true := by first | (simp [plainName, overriddenIn]; done) | decide +kernel
theorem efb (m : MethodId) (x0 : Int32) : entryFrame m #[(.int x0)] 1 = mkF m 0 #[.val (.int x0)] [] := by first | (simp [entryFrame, mkF, argsToLocals, Value.category]; done) | rfl
set_option maxRecDepth 65536 in
set_option maxHeartbeats 40000000 in
theorem rmb (l : Launch) (Z : State) (a0 : Array Value) (hw : ∀ d ∈ tables_1, d.before a0 Z = true) (ws : List Jvm.Cond) (u : UInt16) (h0 : Heap) (n0 : Nat) (Z0 : n0 ≤ h0.size)  :
    MetFree l (⟨"java/lang/StringLatin1", "toBytes", "(C)[B"⟩ : MethodName) (head1 (Jvm.Cond.code (⟨"java/lang/StringLatin1", "toBytes", "(C)[B"⟩ : MethodName) jdk_43_method_46_code 1 (some (.array .byte)) :: ws) ({ frames := 0, cells := 1, slots := 1, locals := 0 } : Room)) (fun a U => a = #[(.int (own_ch u))] ∧ Z.Warmed39 U.vm ∧ U.heap = h0) (fun _ _ _ _ _ => True) (fun _ U o U' => ∃ v L, o = .returned v ∧ Qb Z u h0 n0 v U'.heap L ∧ FrameEnd U o U' L ({ frames := 0, cells := 1, slots := 1, locals := 0 } : Room).cells ({ frames := 0, cells := 1, slots := 1, locals := 0 } : Room).slots) := by
  refine MetFree.of_bodySF (plainFor_of_name pnb) hisR ?_
  intro p e s m args below meth c s₁ Bd hml0 hP hK
  obtain ⟨rfl, hZ, hh⟩ := hP
  have hx := Bd.exec
  have hby := Bd.bytes
  have hml : c.maxLocals = 1 := hml0
  have hown : s.vm.findClass "java/lang/StringLatin1" = some m.cls := findClass_of_methodNamed Bd.named
  have hnm := (name_of_methodNamed Bd.named Bd.method).1
  have X0 : Stand p l e ({ frames := 0, cells := 1, slots := 1, locals := 0 } : Room) s m #[(.int (own_ch u))] below meth c s₁ [] 0 0 := Stand.of_body Bd
  have e0 : s₁.heap = h0 := by rw [← hh, Bd.state]; rfl
  have N0 := Fr.nil n0
  have pre0 : ∀ t, Steps p.tables e below (s₁.setTop (mkF m 0 #[.val (.int (own_ch u))] [])) t → Steps p.tables e below (s₁.setTop (entryFrame m #[(.int (own_ch u))] 1)) t := fun t k => castTop (efb m (own_ch u)) k
  obtain ⟨T1, h1, k1, X1, e1, E1, A1, st1⟩ := newP X0 hx hZ (hw _ (List.mem_of_getElem? (i := 14) rfl)) e0 (g := (mkF m 1 #[.val (.int (own_ch u))] [(.int (1 : Int32))])) rfl (hb hby db_1) rfl (by decide) (cap := 1) (by decide) (by decide) (by decide) (by decide)
  obtain ⟨b1, g1⟩ : ∃ z, z = h0.size := ⟨_, rfl⟩
  rw [← g1] at A1 st1
  have gn_b1 : n0 ≤ b1 := Nat.le_trans Z0 (Nat.le_of_eq g1.symm)
  have Zs1 : n0 ≤ h1.size := Nat.le_trans Z0 E1.1
  have Kp1 := (Keep.refl h0 []).ext E1
  have Va_b1 : Arv Z h1 b1 k1 .byte (1 : Int32) [(.int (0 : Int32))] (.int (0 : Int32)) := (Arv.new A1 (by decide)).pad (pad_rep [] (.int (0 : Int32)) 1)
  obtain ⟨cl2, Ar2, q2, Sz2, Nn2, Hs2, Gs2⟩ := Va_b1
  have hin2 : ¬ ((0 : Int32) < 0 ∨ cl2.slots.size ≤ ((0 : Int32)).toNatClampNeg) := inb_of Sz2 ⟨by decide, by decide⟩
  obtain ⟨T3, h3, X3, e3, W3, st3⟩ := stB X1 hx hZ e1 Ar2 (j := (0 : Int32)) hin2 (g := (mkF m 7 #[.val (.int (own_ch u))] [(.int ((own_ch u).toInt8.toInt32)), (.int (0 : Int32)), (.ref b1), (.ref b1)])) rfl rfl (hb hby db_7)
  have Va_b1_W3 := Arv.set Ar2 q2 Sz2 Nn2 Hs2 Gs2 (fits_nar_byte _) W3 0 rfl (Nat.le_of_ble_eq_true rfl)
  have N3 := Fr.snoc X3 N0 gn_b1
  have Zs3 : n0 ≤ h3.size := Nat.le_trans Zs1 (Keep.of_wr W3).1
  have Kp3 := Kp1.wr W3 (Or.inr (Nat.le_of_eq g1.symm))
  obtain ⟨fs, hr, hrun, hended, hW, hsame⟩ := X3.leave (v := some (.ref b1)) (fun h => by rw [Bd.returns] at h; cases h)
  refine ⟨_, _, pre0 _ ?_, hrun, hended, _, _, rfl, ?_, ⟨_, rfl⟩, hW, hsame.mono (by decide) (by decide)⟩
  · show Steps p.tables e below (s₁.setTop (mkF m 0 #[.val (.int (own_ch u))] [])) _
    refine XS.iconst X0.here hx rfl (hb hby db_0) ?_
    show Steps p.tables e below (s₁.setTop (mkF m 1 #[.val (.int (own_ch u))] [(.int (1 : Int32))])) _
    refine st1 _ ?_
    show Steps p.tables e below (T1.setTop (mkF m 3 #[.val (.int (own_ch u))] [(.ref b1)])) _
    refine XS.dup X1.here hx rfl (hb hby db_3) rfl rfl ?_
    show Steps p.tables e below (T1.setTop (mkF m 4 #[.val (.int (own_ch u))] [(.ref b1), (.ref b1)])) _
    refine XS.iconst X1.here hx rfl (hb hby db_4) ?_
    show Steps p.tables e below (T1.setTop (mkF m 5 #[.val (.int (own_ch u))] [(.int (0 : Int32)), (.ref b1), (.ref b1)])) _
    refine XS.iloadN X1.here hx rfl (hb hby db_5) rfl ?_
    show Steps p.tables e below (T1.setTop (mkF m 6 #[.val (.int (own_ch u))] [(.int (own_ch u)), (.int (0 : Int32)), (.ref b1), (.ref b1)])) _
    refine XS.i2b X1.here hx rfl (hb hby db_6) rfl ?_
    show Steps p.tables e below (T1.setTop (mkF m 7 #[.val (.int (own_ch u))] [(.int ((own_ch u).toInt8.toInt32)), (.int (0 : Int32)), (.ref b1), (.ref b1)])) _
    refine st3 _ ?_
    show Steps p.tables e below (T3.setTop (mkF m 8 #[.val (.int (own_ch u))] [(.ref b1)])) _
    exact retOut X3 hx Bd.returns rfl (by simp [Value.isRef, FieldType.isReference]) (hb hby db_8) hr
  · show Qb Z u h0 n0 _ T3.heap _
    rw [e3]
    exact ⟨N3, b1, k1, rfl, gn_b1, Nat.le_of_eq g1.symm, Kp3, Va_b1_W3⟩
theorem dc_0 : decode jdk_52_method_4_code 0 = .ok (.getstatic 44, 3) := by decide +kernel
theorem dc_3 : decode jdk_52_method_4_code 3 = .ok (.ifCond .ne 25, 3) := by decide +kernel
theorem dc_28 : decode jdk_52_method_4_code 28 = .ok (.iload_n 1, 1) := by decide +kernel
theorem dc_29 : decode jdk_52_method_4_code 29 = .ok (.iconst 1, 1) := by decide +kernel
theorem dc_30 : decode jdk_52_method_4_code 30 = .ok (.ishl, 1) := by decide +kernel
theorem dc_31 : decode jdk_52_method_4_code 31 = .ok (.istore_n 1, 1) := by decide +kernel
theorem dc_32 : decode jdk_52_method_4_code 32 = .ok (.aload_n 0, 1) := by decide +kernel
theorem dc_33 : decode jdk_52_method_4_code 33 = .ok (.iload_n 1, 1) := by decide +kernel
theorem dc_34 : decode jdk_52_method_4_code 34 = .ok (.iinc 1 1, 3) := by decide +kernel
theorem dc_37 : decode jdk_52_method_4_code 37 = .ok (.iload_n 2, 1) := by decide +kernel
theorem dc_38 : decode jdk_52_method_4_code 38 = .ok (.getstatic 59, 3) := by decide +kernel
theorem dc_41 : decode jdk_52_method_4_code 41 = .ok (.ishr, 1) := by decide +kernel
theorem dc_42 : decode jdk_52_method_4_code 42 = .ok (.i2b, 1) := by decide +kernel
theorem dc_43 : decode jdk_52_method_4_code 43 = .ok (.bastore, 1) := by decide +kernel
theorem dc_44 : decode jdk_52_method_4_code 44 = .ok (.aload_n 0, 1) := by decide +kernel
theorem dc_45 : decode jdk_52_method_4_code 45 = .ok (.iload_n 1, 1) := by decide +kernel
theorem dc_46 : decode jdk_52_method_4_code 46 = .ok (.iload_n 2, 1) := by decide +kernel
theorem dc_47 : decode jdk_52_method_4_code 47 = .ok (.getstatic 63, 3) := by decide +kernel
theorem dc_50 : decode jdk_52_method_4_code 50 = .ok (.ishr, 1) := by decide +kernel
theorem dc_51 : decode jdk_52_method_4_code 51 = .ok (.i2b, 1) := by decide +kernel
theorem dc_52 : decode jdk_52_method_4_code 52 = .ok (.bastore, 1) := by decide +kernel
theorem dc_53 : decode jdk_52_method_4_code 53 = .ok (.return_, 1) := by decide +kernel
def Qc (Z : State) (a1 : Addr) (i : Nat) (u : UInt16) (k : ClassId) (z : Int32) (vs : List Value) (h0 : Heap) (n0 : Nat) (v : Option Value) (h : Heap) (L : List Loc) : Prop := v = none ∧ Fr n0 L ∧ Keep h0 h [a1] ∧ Arv Z h a1 k .byte z ((vs.set (2 * i) (.int (own_b0 u))).set (2 * i + 1) (.int (own_b1 u))) (.int (0 : Int32))
theorem pnc : plainName "java/lang/StringUTF16" = true := by first | (simp [plainName, overriddenIn]; done) | decide +kernel
theorem efc (m : MethodId) (x0 : Addr) (x1 : Int32) (x2 : Int32) : entryFrame m #[(.ref x0), (.int x1), (.int x2)] 3 = mkF m 0 #[.val (.ref x0), .val (.int x1), .val (.int x2)] [] := by first | (simp [entryFrame, mkF, argsToLocals, Value.category]; done) | rfl
set_option maxRecDepth 65536 in
set_option maxHeartbeats 40000000 in
theorem rmc (l : Launch) (Z : State) (a0 : Array Value) (hw : ∀ d ∈ tables_1, d.before a0 Z = true) (ws : List Jvm.Cond) (csx : Int32) (vF : Value) (a1 : Addr) (i : Nat) (u : UInt16) (k : ClassId) (z : Int32) (vs : List Value) (h0 : Heap) (n0 : Nat) (Z0 : n0 ≤ h0.size) (St : own_St Z csx vF) (O0 : Old Z n0 h0) (hi : i < 2) (Va : Arv Z h0 a1 k .byte z vs (.int (0 : Int32))) (hz0 : (Int32.ofNat i <<< ((1 : Int32) &&& 31)) < z) (hz1 : ((Int32.ofNat i <<< ((1 : Int32) &&& 31)) + (1 : Int32)) < z) (hl : 2 * i + 1 < vs.length) (gn_a1 : n0 ≤ a1) :
    MetFree l (⟨"java/lang/StringUTF16", "putChar", "([BII)V"⟩ : MethodName) (head1 (Jvm.Cond.code (⟨"java/lang/StringUTF16", "putChar", "([BII)V"⟩ : MethodName) jdk_52_method_4_code 3 none :: ws) ({ frames := 0, cells := 0, slots := 0, locals := 0 } : Room)) (fun a U => a = #[(.ref a1), (.int (Int32.ofNat i)), (.int (own_ch u))] ∧ Z.Warmed39 U.vm ∧ U.heap = h0) (fun _ _ _ _ _ => True) (fun _ U o U' => ∃ v L, o = .returned v ∧ Qc Z a1 i u k z vs h0 n0 v U'.heap L ∧ FrameEnd U o U' L ({ frames := 0, cells := 0, slots := 0, locals := 0 } : Room).cells ({ frames := 0, cells := 0, slots := 0, locals := 0 } : Room).slots) := by
  refine MetFree.of_bodySF (plainFor_of_name pnc) hisR ?_
  intro p e s m args below meth c s₁ Bd hml0 hP hK
  obtain ⟨rfl, hZ, hh⟩ := hP
  have hx := Bd.exec
  have hby := Bd.bytes
  have hml : c.maxLocals = 3 := hml0
  have hown : s.vm.findClass "java/lang/StringUTF16" = some m.cls := findClass_of_methodNamed Bd.named
  have hnm := (name_of_methodNamed Bd.named Bd.method).1
  have X0 : Stand p l e ({ frames := 0, cells := 0, slots := 0, locals := 0 } : Room) s m #[(.ref a1), (.int (Int32.ofNat i)), (.int (own_ch u))] below meth c s₁ [] 0 0 := Stand.of_body Bd
  have e0 : s₁.heap = h0 := by rw [← hh, Bd.state]; rfl
  have N0 := Fr.nil n0
  have pre0 : ∀ t, Steps p.tables e below (s₁.setTop (mkF m 0 #[.val (.ref a1), .val (.int (Int32.ofNat i)), .val (.int (own_ch u))] [])) t → Steps p.tables e below (s₁.setTop (entryFrame m #[(.ref a1), (.int (Int32.ofNat i)), (.int (own_ch u))] 3)) t := fun t k => castTop (efc m a1 (Int32.ofNat i) (own_ch u)) k
  obtain ⟨T1, X1, e1, st1⟩ := getS X0 hx hZ (host := "") hown (hw _ (List.mem_of_getElem? (i := 119) rfl)) Via.refl e0 (Sta.ext O0.2 St.2.2.2.2.1) (g := (mkF m 0 #[.val (.ref a1), .val (.int (Int32.ofNat i)), .val (.int (own_ch u))] [])) rfl (hb hby dc_0)
  obtain ⟨T2, X2, e2, st2⟩ := getS X1 hx hZ (host := "") hown (hw _ (List.mem_of_getElem? (i := 120) rfl)) Via.refl e1 (Sta.ext O0.2 St.2.2.2.2.2.1) (g := (mkF m 38 #[.val (.ref a1), .val (.int (((Int32.ofNat i) <<< ((1 : Int32) &&& 31)) + (1 : Int32))), .val (.int (own_ch u))] [(.int (own_ch u)), (.int ((Int32.ofNat i) <<< ((1 : Int32) &&& 31))), (.ref a1)])) rfl (hb hby dc_38)
  obtain ⟨cl3, Ar3, q3, Sz3, Nn3, Hs3, Gs3⟩ := Va
  have hin3 : ¬ (((Int32.ofNat i) <<< ((1 : Int32) &&& 31)) < 0 ∨ cl3.slots.size ≤ (((Int32.ofNat i) <<< ((1 : Int32) &&& 31))).toNatClampNeg) := inb_of Sz3 ⟨own_d0n i hi, hz0⟩
  obtain ⟨T4, h4, X4, e4, W4, st4⟩ := stB X2 hx hZ e2 Ar3 (j := ((Int32.ofNat i) <<< ((1 : Int32) &&& 31))) hin3 (g := (mkF m 43 #[.val (.ref a1), .val (.int (((Int32.ofNat i) <<< ((1 : Int32) &&& 31)) + (1 : Int32))), .val (.int (own_ch u))] [(.int (((own_ch u) >>> ((0 : Int32) &&& 31)).toInt8.toInt32)), (.int ((Int32.ofNat i) <<< ((1 : Int32) &&& 31))), (.ref a1)])) rfl rfl (hb hby dc_43)
  have Va_W4 := Arv.set Ar3 q3 Sz3 Nn3 Hs3 Gs3 (fits_nar_byte _) W4 (2 * i) (own_d0 i hi) (by omega)
  have O4 := O0.wr W4 gn_a1
  have N4 := Fr.snoc X4 N0 gn_a1
  have Zs4 : n0 ≤ h4.size := Nat.le_trans Z0 (Keep.of_wr W4).1
  have Kp4 := (Keep.refl h0 [a1]).wr W4 (Or.inl (List.mem_of_getElem? (i := 0) rfl))
  obtain ⟨T5, X5, e5, st5⟩ := getS X4 hx hZ (host := "") hown (hw _ (List.mem_of_getElem? (i := 121) rfl)) Via.refl e4 (Sta.ext O4.2 St.2.2.2.2.2.2) (g := (mkF m 47 #[.val (.ref a1), .val (.int (((Int32.ofNat i) <<< ((1 : Int32) &&& 31)) + (1 : Int32))), .val (.int (own_ch u))] [(.int (own_ch u)), (.int (((Int32.ofNat i) <<< ((1 : Int32) &&& 31)) + (1 : Int32))), (.ref a1)])) rfl (hb hby dc_47)
  obtain ⟨cl6, Ar6, q6, Sz6, Nn6, Hs6, Gs6⟩ := Va_W4
  have hin6 : ¬ ((((Int32.ofNat i) <<< ((1 : Int32) &&& 31)) + (1 : Int32)) < 0 ∨ cl6.slots.size ≤ ((((Int32.ofNat i) <<< ((1 : Int32) &&& 31)) + (1 : Int32))).toNatClampNeg) := inb_of Sz6 ⟨own_d1n i hi, hz1⟩
  obtain ⟨T7, h7, X7, e7, W7, st7⟩ := stB X5 hx hZ e5 Ar6 (j := (((Int32.ofNat i) <<< ((1 : Int32) &&& 31)) + (1 : Int32))) hin6 (g := (mkF m 52 #[.val (.ref a1), .val (.int (((Int32.ofNat i) <<< ((1 : Int32) &&& 31)) + (1 : Int32))), .val (.int (own_ch u))] [(.int (((own_ch u) >>> ((8 : Int32) &&& 31)).toInt8.toInt32)), (.int (((Int32.ofNat i) <<< ((1 : Int32) &&& 31)) + (1 : Int32))), (.ref a1)])) rfl rfl (hb hby dc_52)
  have Va_W7 := Arv.set Ar6 q6 Sz6 Nn6 Hs6 Gs6 (fits_nar_byte _) W7 (2 * i + 1) (own_d1 i hi) (by rw [List.length_set]; omega)
  have O7 := O4.wr W7 gn_a1
  have N7 := Fr.snoc X7 N4 gn_a1
  have Zs7 : n0 ≤ h7.size := Nat.le_trans Zs4 (Keep.of_wr W7).1
  have Kp7 := Kp4.wr W7 (Or.inl (List.mem_of_getElem? (i := 0) rfl))
  obtain ⟨fs, hr, hrun, hended, hW, hsame⟩ := X7.leave (v := none) (fun _ => rfl)
  refine ⟨_, _, pre0 _ ?_, hrun, hended, _, _, rfl, ?_, ⟨_, rfl⟩, hW, hsame.mono (by decide) (by decide)⟩
  · show Steps p.tables e below (s₁.setTop (mkF m 0 #[.val (.ref a1), .val (.int (Int32.ofNat i)), .val (.int (own_ch u))] [])) _
    refine st1 _ ?_
    show Steps p.tables e below (T1.setTop (mkF m 3 #[.val (.ref a1), .val (.int (Int32.ofNat i)), .val (.int (own_ch u))] [(.int (1 : Int32))])) _
    refine XS.ifYes X1.here hx rfl (pc0 := 3) (pc' := 28) rfl (hb hby dc_3) rfl ((if0 _ _).trans (feq ((by decide) : ¬ ((1 : Int32) = (0 : Int32)))).2) (by decide) (by decide) ?_
    show Steps p.tables e below (T1.setTop (mkF m 28 #[.val (.ref a1), .val (.int (Int32.ofNat i)), .val (.int (own_ch u))] [])) _
    refine XS.iloadN X1.here hx rfl (hb hby dc_28) rfl ?_
    show Steps p.tables e below (T1.setTop (mkF m 29 #[.val (.ref a1), .val (.int (Int32.ofNat i)), .val (.int (own_ch u))] [(.int (Int32.ofNat i))])) _
    refine XS.iconst X1.here hx rfl (hb hby dc_29) ?_
    show Steps p.tables e below (T1.setTop (mkF m 30 #[.val (.ref a1), .val (.int (Int32.ofNat i)), .val (.int (own_ch u))] [(.int (1 : Int32)), (.int (Int32.ofNat i))])) _
    refine XS.ishl X1.here hx rfl (hb hby dc_30) rfl ?_
    show Steps p.tables e below (T1.setTop (mkF m 31 #[.val (.ref a1), .val (.int (Int32.ofNat i)), .val (.int (own_ch u))] [(.int ((Int32.ofNat i) <<< ((1 : Int32) &&& 31)))])) _
    refine XS.istoreN X1.here hx rfl (hb hby dc_31) rfl (l' := #[.val (.ref a1), .val (.int ((Int32.ofNat i) <<< ((1 : Int32) &&& 31))), .val (.int (own_ch u))]) rfl ?_
    show Steps p.tables e below (T1.setTop (mkF m 32 #[.val (.ref a1), .val (.int ((Int32.ofNat i) <<< ((1 : Int32) &&& 31))), .val (.int (own_ch u))] [])) _
    refine XS.aloadN X1.here hx rfl (hb hby dc_32) rfl rfl ?_
    show Steps p.tables e below (T1.setTop (mkF m 33 #[.val (.ref a1), .val (.int ((Int32.ofNat i) <<< ((1 : Int32) &&& 31))), .val (.int (own_ch u))] [(.ref a1)])) _
    refine XS.iloadN X1.here hx rfl (hb hby dc_33) rfl ?_
    show Steps p.tables e below (T1.setTop (mkF m 34 #[.val (.ref a1), .val (.int ((Int32.ofNat i) <<< ((1 : Int32) &&& 31))), .val (.int (own_ch u))] [(.int ((Int32.ofNat i) <<< ((1 : Int32) &&& 31))), (.ref a1)])) _
    refine XS.iinc X1.here hx rfl (hb hby dc_34) rfl (l' := #[.val (.ref a1), .val (.int (((Int32.ofNat i) <<< ((1 : Int32) &&& 31)) + (1 : Int32))), .val (.int (own_ch u))]) rfl ?_
    show Steps p.tables e below (T1.setTop (mkF m 37 #[.val (.ref a1), .val (.int (((Int32.ofNat i) <<< ((1 : Int32) &&& 31)) + (1 : Int32))), .val (.int (own_ch u))] [(.int ((Int32.ofNat i) <<< ((1 : Int32) &&& 31))), (.ref a1)])) _
    refine XS.iloadN X1.here hx rfl (hb hby dc_37) rfl ?_
    show Steps p.tables e below (T1.setTop (mkF m 38 #[.val (.ref a1), .val (.int (((Int32.ofNat i) <<< ((1 : Int32) &&& 31)) + (1 : Int32))), .val (.int (own_ch u))] [(.int (own_ch u)), (.int ((Int32.ofNat i) <<< ((1 : Int32) &&& 31))), (.ref a1)])) _
    refine st2 _ ?_
    show Steps p.tables e below (T2.setTop (mkF m 41 #[.val (.ref a1), .val (.int (((Int32.ofNat i) <<< ((1 : Int32) &&& 31)) + (1 : Int32))), .val (.int (own_ch u))] [(.int (0 : Int32)), (.int (own_ch u)), (.int ((Int32.ofNat i) <<< ((1 : Int32) &&& 31))), (.ref a1)])) _
    refine XS.ishr X2.here hx rfl (hb hby dc_41) rfl ?_
    show Steps p.tables e below (T2.setTop (mkF m 42 #[.val (.ref a1), .val (.int (((Int32.ofNat i) <<< ((1 : Int32) &&& 31)) + (1 : Int32))), .val (.int (own_ch u))] [(.int ((own_ch u) >>> ((0 : Int32) &&& 31))), (.int ((Int32.ofNat i) <<< ((1 : Int32) &&& 31))), (.ref a1)])) _
    refine XS.i2b X2.here hx rfl (hb hby dc_42) rfl ?_
    show Steps p.tables e below (T2.setTop (mkF m 43 #[.val (.ref a1), .val (.int (((Int32.ofNat i) <<< ((1 : Int32) &&& 31)) + (1 : Int32))), .val (.int (own_ch u))] [(.int (((own_ch u) >>> ((0 : Int32) &&& 31)).toInt8.toInt32)), (.int ((Int32.ofNat i) <<< ((1 : Int32) &&& 31))), (.ref a1)])) _
    refine st4 _ ?_
    show Steps p.tables e below (T4.setTop (mkF m 44 #[.val (.ref a1), .val (.int (((Int32.ofNat i) <<< ((1 : Int32) &&& 31)) + (1 : Int32))), .val (.int (own_ch u))] [])) _
    refine XS.aloadN X4.here hx rfl (hb hby dc_44) rfl rfl ?_
    show Steps p.tables e below (T4.setTop (mkF m 45 #[.val (.ref a1), .val (.int (((Int32.ofNat i) <<< ((1 : Int32) &&& 31)) + (1 : Int32))), .val (.int (own_ch u))] [(.ref a1)])) _
    refine XS.iloadN X4.here hx rfl (hb hby dc_45) rfl ?_
    show Steps p.tables e below (T4.setTop (mkF m 46 #[.val (.ref a1), .val (.int (((Int32.ofNat i) <<< ((1 : Int32) &&& 31)) + (1 : Int32))), .val (.int (own_ch u))] [(.int (((Int32.ofNat i) <<< ((1 : Int32) &&& 31)) + (1 : Int32))), (.ref a1)])) _
    refine XS.iloadN X4.here hx rfl (hb hby dc_46) rfl ?_
    show Steps p.tables e below (T4.setTop (mkF m 47 #[.val (.ref a1), .val (.int (((Int32.ofNat i) <<< ((1 : Int32) &&& 31)) + (1 : Int32))), .val (.int (own_ch u))] [(.int (own_ch u)), (.int (((Int32.ofNat i) <<< ((1 : Int32) &&& 31)) + (1 : Int32))), (.ref a1)])) _
    refine st5 _ ?_
    show Steps p.tables e below (T5.setTop (mkF m 50 #[.val (.ref a1), .val (.int (((Int32.ofNat i) <<< ((1 : Int32) &&& 31)) + (1 : Int32))), .val (.int (own_ch u))] [(.int (8 : Int32)), (.int (own_ch u)), (.int (((Int32.ofNat i) <<< ((1 : Int32) &&& 31)) + (1 : Int32))), (.ref a1)])) _
    refine XS.ishr X5.here hx rfl (hb hby dc_50) rfl ?_
    show Steps p.tables e below (T5.setTop (mkF m 51 #[.val (.ref a1), .val (.int (((Int32.ofNat i) <<< ((1 : Int32) &&& 31)) + (1 : Int32))), .val (.int (own_ch u))] [(.int ((own_ch u) >>> ((8 : Int32) &&& 31))), (.int (((Int32.ofNat i) <<< ((1 : Int32) &&& 31)) + (1 : Int32))), (.ref a1)])) _
    refine XS.i2b X5.here hx rfl (hb hby dc_51) rfl ?_
    show Steps p.tables e below (T5.setTop (mkF m 52 #[.val (.ref a1), .val (.int (((Int32.ofNat i) <<< ((1 : Int32) &&& 31)) + (1 : Int32))), .val (.int (own_ch u))] [(.int (((own_ch u) >>> ((8 : Int32) &&& 31)).toInt8.toInt32)), (.int (((Int32.ofNat i) <<< ((1 : Int32) &&& 31)) + (1 : Int32))), (.ref a1)])) _
    refine st7 _ ?_
    show Steps p.tables e below (T7.setTop (mkF m 53 #[.val (.ref a1), .val (.int (((Int32.ofNat i) <<< ((1 : Int32) &&& 31)) + (1 : Int32))), .val (.int (own_ch u))] [])) _
    exact X7.returnOut hx Bd.returns (hb hby dc_53) hr
  · show Qc Z a1 i u k z vs h0 n0 _ T7.heap _
    rw [e7]
    exact ⟨rfl, N7, Kp7, Va_W7⟩
theorem dd_0 : decode jdk_52_method_24_code 0 = .ok (.iconst 2, 1) := by decide +kernel
theorem dd_1 : decode jdk_52_method_24_code 1 = .ok (.newarray .byte, 2) := by decide +kernel
theorem dd_3 : decode jdk_52_method_24_code 3 = .ok (.astore_n 1, 1) := by decide +kernel
theorem dd_4 : decode jdk_52_method_24_code 4 = .ok (.aload_n 1, 1) := by decide +kernel
theorem dd_5 : decode jdk_52_method_24_code 5 = .ok (.iconst 0, 1) := by decide +kernel
theorem dd_6 : decode jdk_52_method_24_code 6 = .ok (.iload_n 0, 1) := by decide +kernel
theorem dd_7 : decode jdk_52_method_24_code 7 = .ok (.invokestatic 111, 3) := by decide +kernel
theorem dd_10 : decode jdk_52_method_24_code 10 = .ok (.aload_n 1, 1) := by decide +kernel
theorem dd_11 : decode jdk_52_method_24_code 11 = .ok (.areturn, 1) := by decide +kernel
theorem pdd_0 : parseMethodDescriptor "([BII)V" = some ⟨[(.array .byte), .int, .int], none⟩ := by decide +kernel
def Qd (Z : State) (u : UInt16) (h0 : Heap) (n0 : Nat) (v : Option Value) (h : Heap) (L : List Loc) : Prop := Fr n0 L ∧ ∃ (b : Addr) (k : ClassId), v = some (.ref b) ∧ n0 ≤ b ∧ h0.size ≤ b ∧ Keep h0 h [] ∧ Arv Z h b k .byte (2 : Int32) [.int (own_b0 u), .int (own_b1 u)] (.int (0 : Int32))
theorem pnd : plainName "java/lang/StringUTF16" = true := by first | (simp [plainName, overriddenIn]; done) | decide +kernel
theorem efd (m : MethodId) (x0 : Int32) : entryFrame m #[(.int x0)] 2 = mkF m 0 #[.val (.int x0), .unset] [] := by first | (simp [entryFrame, mkF, argsToLocals, Value.category]; done) | rfl
set_option maxRecDepth 65536 in
set_option maxHeartbeats 40000000 in
theorem rmd (l : Launch) (Z : State) (a0 : Array Value) (hw : ∀ d ∈ tables_1, d.before a0 Z = true) (ws : List Jvm.Cond) (csx : Int32) (vF : Value) (u : UInt16) (h0 : Heap) (n0 : Nat) (Z0 : n0 ≤ h0.size) (St : own_St Z csx vF) (O0 : Old Z n0 h0) :
    MetFree l (⟨"java/lang/StringUTF16", "toBytes", "(C)[B"⟩ : MethodName) (head1 (Jvm.Cond.code (⟨"java/lang/StringUTF16", "toBytes", "(C)[B"⟩ : MethodName) jdk_52_method_24_code 2 (some (.array .byte)) :: ws) ({ frames := 1, cells := 1, slots := 2, locals := 14 } : Room)) (fun a U => a = #[(.int (own_ch u))] ∧ Z.Warmed39 U.vm ∧ U.heap = h0) (fun _ _ _ _ _ => True) (fun _ U o U' => ∃ v L, o = .returned v ∧ Qd Z u h0 n0 v U'.heap L ∧ FrameEnd U o U' L ({ frames := 1, cells := 1, slots := 2, locals := 14 } : Room).cells ({ frames := 1, cells := 1, slots := 2, locals := 14 } : Room).slots) := by
  refine MetFree.of_bodySF (plainFor_of_name pnd) hisR ?_
  intro p e s m args below meth c s₁ Bd hml0 hP hK
  obtain ⟨rfl, hZ, hh⟩ := hP
  have hx := Bd.exec
  have hby := Bd.bytes
  have hml : c.maxLocals = 2 := hml0
  have hown : s.vm.findClass "java/lang/StringUTF16" = some m.cls := findClass_of_methodNamed Bd.named
  have hnm := (name_of_methodNamed Bd.named Bd.method).1
  have X0 : Stand p l e ({ frames := 1, cells := 1, slots := 2, locals := 14 } : Room) s m #[(.int (own_ch u))] below meth c s₁ [] 0 0 := Stand.of_body Bd
  have e0 : s₁.heap = h0 := by rw [← hh, Bd.state]; rfl
  have N0 := Fr.nil n0
  have pre0 : ∀ t, Steps p.tables e below (s₁.setTop (mkF m 0 #[.val (.int (own_ch u)), .unset] [])) t → Steps p.tables e below (s₁.setTop (entryFrame m #[(.int (own_ch u))] 2)) t := fun t k => castTop (efd m (own_ch u)) k
  obtain ⟨T1, h1, k1, X1, e1, E1, A1, st1⟩ := newP X0 hx hZ (hw _ (List.mem_of_getElem? (i := 14) rfl)) e0 (g := (mkF m 1 #[.val (.int (own_ch u)), .unset] [(.int (2 : Int32))])) rfl (hb hby dd_1) rfl (by decide) (cap := 2) (by decide) (by decide) (by decide) (by decide)
  obtain ⟨b1, g1⟩ : ∃ z, z = h0.size := ⟨_, rfl⟩
  rw [← g1] at A1 st1
  have gn_b1 : n0 ≤ b1 := Nat.le_trans Z0 (Nat.le_of_eq g1.symm)
  have O1 := O0.ext E1
  have Zs1 : n0 ≤ h1.size := Nat.le_trans Z0 E1.1
  have Kp1 := (Keep.refl h0 []).ext E1
  have Va_b1 : Arv Z h1 b1 k1 .byte (2 : Int32) [(.int (0 : Int32)), (.int (0 : Int32))] (.int (0 : Int32)) := (Arv.new A1 (by decide)).pad (pad_rep [] (.int (0 : Int32)) 2)
  obtain ⟨_, _, ⟨T2, L2, k2, n2⟩, -, X2, ⟨Lc2, hQ2, l2, y2, z2⟩, st2⟩ := Jvm.LawKit.callS X1 hx (y := (⟨"java/lang/StringUTF16", "putChar", "([BII)V"⟩ : MethodName)) hown (mvT hZ (hw _ (List.mem_of_getElem? (i := 116) rfl))) (mvT hZ (hw _ (List.mem_of_getElem? (i := 117) rfl))) (mvT hZ (hw _ (List.mem_of_getElem? (i := 36) rfl))) (mvT hZ (hw _ (List.mem_of_getElem? (i := 118) rfl))) (by decide) (backOf (W := 0) (rmc l Z a0 hw [] csx vF b1 0 u k1 (2 : Int32) [.int (0 : Int32), .int (0 : Int32)] h1 n0 Zs1 St O1 (by decide) Va_b1 (by decide) (by decide) (Nat.le_of_ble_eq_true rfl) gn_b1) hZ (hw _ (List.mem_of_getElem? (i := 118) rfl)) (hw _ (List.mem_of_getElem? (i := 36) rfl)) (by decide) (by decide)) (g := (mkF m 7 #[.val (.int (own_ch u)), .val (.ref b1)] [(.int (own_ch u)), (.int (0 : Int32)), (.ref b1)])) rfl (by rw [hml]; rfl) (argsL := [(.ref b1), (.int (0 : Int32)), (.int (own_ch u))]) (rest := []) (lenOf pdd_0 rfl) rfl (by show 2 * 0 + _ ≤ _; exact Nat.le_of_eq rfl) (hb hby dd_7) (fun _ _ => ⟨rfl, e1, (by decide : 1 + 0 ≤ _), (by decide : 2 + 0 ≤ _)⟩)
  dsimp only [Pt.U, Pt.locs, Pt.cells, Pt.slots] at X2 l2 y2 z2 st2 hQ2
  subst l2 y2 z2
  obtain ⟨rfl, Nq2, Kc2, Vc2⟩ := hQ2
  have N2 := Fr.app N0 Nq2
  have Zs2 : n0 ≤ T2.heap.size := Nat.le_trans Zs1 Kc2.1
  have O2 := O1.keep Kc2 (allS gn_b1 all0)
  have Kp2 := Kp1.trans Kc2 (allS (Or.inr (Nat.le_of_eq g1.symm)) all0)
  have Vp2 : Arv Z T2.heap b1 k1 .byte (2 : Int32) [.int (own_b0 u), .int (own_b1 u)] (.int (0 : Int32)) := Vc2
  obtain ⟨fs, hr, hrun, hended, hW, hsame⟩ := X2.leave (v := some (.ref b1)) (fun h => by rw [Bd.returns] at h; cases h)
  refine ⟨_, _, pre0 _ ?_, hrun, hended, _, _, rfl, ?_, ⟨_, rfl⟩, hW, hsame.mono (by decide) (by decide)⟩
  · show Steps p.tables e below (s₁.setTop (mkF m 0 #[.val (.int (own_ch u)), .unset] [])) _
    refine XS.iconst X0.here hx rfl (hb hby dd_0) ?_
    show Steps p.tables e below (s₁.setTop (mkF m 1 #[.val (.int (own_ch u)), .unset] [(.int (2 : Int32))])) _
    refine st1 _ ?_
    show Steps p.tables e below (T1.setTop (mkF m 3 #[.val (.int (own_ch u)), .unset] [(.ref b1)])) _
    refine XS.astoreN X1.here hx rfl (hb hby dd_3) rfl rfl (l' := #[.val (.int (own_ch u)), .val (.ref b1)]) rfl ?_
    show Steps p.tables e below (T1.setTop (mkF m 4 #[.val (.int (own_ch u)), .val (.ref b1)] [])) _
    refine XS.aloadN X1.here hx rfl (hb hby dd_4) rfl rfl ?_
    show Steps p.tables e below (T1.setTop (mkF m 5 #[.val (.int (own_ch u)), .val (.ref b1)] [(.ref b1)])) _
    refine XS.iconst X1.here hx rfl (hb hby dd_5) ?_
    show Steps p.tables e below (T1.setTop (mkF m 6 #[.val (.int (own_ch u)), .val (.ref b1)] [(.int (0 : Int32)), (.ref b1)])) _
    refine XS.iloadN X1.here hx rfl (hb hby dd_6) rfl ?_
    show Steps p.tables e below (T1.setTop (mkF m 7 #[.val (.int (own_ch u)), .val (.ref b1)] [(.int (own_ch u)), (.int (0 : Int32)), (.ref b1)])) _
    refine st2 _ ?_
    show Steps p.tables e below (T2.setTop (mkF m 10 #[.val (.int (own_ch u)), .val (.ref b1)] [])) _
    refine XS.aloadN X2.here hx rfl (hb hby dd_10) rfl rfl ?_
    show Steps p.tables e below (T2.setTop (mkF m 11 #[.val (.int (own_ch u)), .val (.ref b1)] [(.ref b1)])) _
    exact retOut X2 hx Bd.returns rfl (by simp [Value.isRef, FieldType.isReference]) (hb hby dd_11) hr
  · show Qd Z u h0 n0 _ T2.heap _
    exact ⟨N2, b1, k1, rfl, gn_b1, Nat.le_of_eq g1.symm, Kp2, Vp2⟩
theorem de_0 : decode jdk_42_method_151_code 0 = .ok (.aload_n 0, 1) := by decide +kernel
theorem de_1 : decode jdk_42_method_151_code 1 = .ok (.invokespecial 1, 3) := by decide +kernel
theorem de_4 : decode jdk_42_method_151_code 4 = .ok (.aload_n 0, 1) := by decide +kernel
theorem de_5 : decode jdk_42_method_151_code 5 = .ok (.aload_n 1, 1) := by decide +kernel
theorem de_6 : decode jdk_42_method_151_code 6 = .ok (.putfield 9, 3) := by decide +kernel
theorem de_9 : decode jdk_42_method_151_code 9 = .ok (.aload_n 0, 1) := by decide +kernel
theorem de_10 : decode jdk_42_method_151_code 10 = .ok (.iload_n 2, 1) := by decide +kernel
theorem de_11 : decode jdk_42_method_151_code 11 = .ok (.putfield 15, 3) := by decide +kernel
theorem de_14 : decode jdk_42_method_151_code 14 = .ok (.return_, 1) := by decide +kernel
def Qe (Z : State) (a1 a2 : Addr) (p3 : Int32) (h0 : Heap) (n0 : Nat) (v : Option Value) (h : Heap) (L : List Loc) : Prop := v = none ∧ Fr n0 L ∧ Keep h0 h [a1] ∧ Exa Z h a1 "java/lang/String" ∧ Fld Z h a1 "java/lang/String" "value" "[B" (.ref a2) ∧ Fld Z h a1 "java/lang/String" "coder" "B" (.int p3)
theorem pne : plainName "java/lang/String" = true := by first | (simp [plainName, overriddenIn]; done) | decide +kernel
theorem efe (m : MethodId) (x0 : Addr) (x1 : Addr) (x2 : Int32) : entryFrame m #[(.ref x0), (.ref x1), (.int x2)] 3 = mkF m 0 #[.val (.ref x0), .val (.ref x1), .val (.int x2)] [] := by first | (simp [entryFrame, mkF, argsToLocals, Value.category]; done) | rfl
set_option maxRecDepth 65536 in
set_option maxHeartbeats 40000000 in
theorem rme (l : Launch) (Z : State) (a0 : Array Value) (hw : ∀ d ∈ tables_1, d.before a0 Z = true) (ws : List Jvm.Cond) (a1 : Addr) (a2 : Addr) (p3 : Int32) (h0 : Heap) (n0 : Nat) (Z0 : n0 ≤ h0.size) (Ex_a1 : Exa Z h0 a1 "java/lang/String") (Fv_a1 : Fld Z h0 a1 "java/lang/String" "value" "[B" .null) (Fc_a1 : Fld Z h0 a1 "java/lang/String" "coder" "B" (.int (0 : Int32))) (gn_a1 : n0 ≤ a1) (hp : p3.toInt8.toInt32 = p3) :
    MetFree l (⟨"java/lang/String", "<init>", "([BB)V"⟩ : MethodName) (head1 (Jvm.Cond.code (⟨"java/lang/String", "<init>", "([BB)V"⟩ : MethodName) jdk_42_method_151_code 3 none :: ws) ({ frames := 1, cells := 0, slots := 0, locals := 12 } : Room)) (fun a U => a = #[(.ref a1), (.ref a2), (.int p3)] ∧ Z.Warmed39 U.vm ∧ U.heap = h0) (fun _ _ _ _ _ => True) (fun _ U o U' => ∃ v L, o = .returned v ∧ Qe Z a1 a2 p3 h0 n0 v U'.heap L ∧ FrameEnd U o U' L ({ frames := 1, cells := 0, slots := 0, locals := 12 } : Room).cells ({ frames := 1, cells := 0, slots := 0, locals := 12 } : Room).slots) := by
  refine MetFree.of_bodySF (plainFor_of_name pne) hisR ?_
  intro p e s m args below meth c s₁ Bd hml0 hP hK
  obtain ⟨rfl, hZ, hh⟩ := hP
  have hx := Bd.exec
  have hby := Bd.bytes
  have hml : c.maxLocals = 3 := hml0
  have hown : s.vm.findClass "java/lang/String" = some m.cls := findClass_of_methodNamed Bd.named
  have hnm := (name_of_methodNamed Bd.named Bd.method).1
  have X0 : Stand p l e ({ frames := 1, cells := 0, slots := 0, locals := 12 } : Room) s m #[(.ref a1), (.ref a2), (.int p3)] below meth c s₁ [] 0 0 := Stand.of_body Bd
  have e0 : s₁.heap = h0 := by rw [← hh, Bd.state]; rfl
  have N0 := Fr.nil n0
  have pre0 : ∀ t, Steps p.tables e below (s₁.setTop (mkF m 0 #[.val (.ref a1), .val (.ref a2), .val (.int p3)] [])) t → Steps p.tables e below (s₁.setTop (entryFrame m #[(.ref a1), (.ref a2), (.int p3)] 3)) t := fun t k => castTop (efe m a1 a2 p3) k
  obtain ⟨T1, X1, e1, st1⟩ := initO X0 hx hZ hown (hw _ (List.mem_of_getElem? (i := 19) rfl)) (hw _ (List.mem_of_getElem? (i := 20) rfl)) (hw _ (List.mem_of_getElem? (i := 21) rfl)) e0 (g := (mkF m 1 #[.val (.ref a1), .val (.ref a2), .val (.int p3)] [(.ref a1)])) rfl (by rw [hml]; rfl) rfl (hb hby de_1) (by decide) (W := 0) (by show 2 * 0 + _ ≤ _; exact Nat.le_of_eq rfl) (by decide)
  obtain ⟨T2, h2, X2, e2, W2, st2⟩ := putF X1 hx hZ hown (host := "") (Or.inl (hw _ (List.mem_of_getElem? (i := 22) rfl))) Via.refl e1 Fv_a1 Ex_a1 (Or.inr ⟨(hw _ (List.mem_of_getElem? (i := 23) rfl)), rfl, hnm⟩) (hw _ (List.mem_of_getElem? (i := 10) rfl)) (ty := (.array .byte)) (by decide) rfl rfl (g := (mkF m 6 #[.val (.ref a1), .val (.ref a2), .val (.int p3)] [(.ref a2), (.ref a1)])) rfl rfl (hb hby de_6)
  have Fv_a1_W2 := Fv_a1.same W2
  have Ex_a1_W2 := Ex_a1.wr W2
  have Fc_a1_W2 := Fc_a1.other W2 (Or.inr (slot_ne (Or.inr (hw _ (List.mem_of_getElem? (i := 25) rfl))) (Or.inr (hw _ (List.mem_of_getElem? (i := 23) rfl))) (by decide) (t := .byte) (t' := (.array .byte)) (by decide) (by decide)))
  have N2 := Fr.snoc X2 N0 gn_a1
  have Zs2 : n0 ≤ h2.size := Nat.le_trans Z0 (Keep.of_wr W2).1
  have Kp2 := (Keep.refl h0 [a1]).wr W2 (Or.inl (List.mem_of_getElem? (i := 0) rfl))
  obtain ⟨T3, h3, X3, e3, W3, st3⟩ := putFN X2 hx hZ hown (hw _ (List.mem_of_getElem? (i := 24) rfl)) Via.refl e2 Fc_a1_W2 Ex_a1_W2 (Or.inr ⟨(hw _ (List.mem_of_getElem? (i := 25) rfl)), rfl, hnm⟩) (hw _ (List.mem_of_getElem? (i := 10) rfl)) (ty := .byte) (v' := (.int p3)) (by decide) (by show Value.int (p3.toInt8.toInt32) = _; rw [hp]) (by rw [← hp]; exact fits_nar_byte _) (g := (mkF m 11 #[.val (.ref a1), .val (.ref a2), .val (.int p3)] [(.int p3), (.ref a1)])) rfl rfl (hb hby de_11)
  have Fc_a1_W3 := Fc_a1_W2.same W3
  have Ex_a1_W3 := Ex_a1_W2.wr W3
  have Fv_a1_W3 := Fv_a1_W2.other W3 (Or.inr (slot_ne (Or.inr (hw _ (List.mem_of_getElem? (i := 23) rfl))) (Or.inr (hw _ (List.mem_of_getElem? (i := 25) rfl))) (by decide) (t := (.array .byte)) (t' := .byte) (by decide) (by decide)))
  have N3 := Fr.snoc X3 N2 gn_a1
  have Zs3 : n0 ≤ h3.size := Nat.le_trans Zs2 (Keep.of_wr W3).1
  have Kp3 := Kp2.wr W3 (Or.inl (List.mem_of_getElem? (i := 0) rfl))
  obtain ⟨fs, hr, hrun, hended, hW, hsame⟩ := X3.leave (v := none) (fun _ => rfl)
  refine ⟨_, _, pre0 _ ?_, hrun, hended, _, _, rfl, ?_, ⟨_, rfl⟩, hW, hsame.mono (by decide) (by decide)⟩
  · show Steps p.tables e below (s₁.setTop (mkF m 0 #[.val (.ref a1), .val (.ref a2), .val (.int p3)] [])) _
    refine XS.aloadN X0.here hx rfl (hb hby de_0) rfl rfl ?_
    show Steps p.tables e below (s₁.setTop (mkF m 1 #[.val (.ref a1), .val (.ref a2), .val (.int p3)] [(.ref a1)])) _
    refine st1 _ ?_
    show Steps p.tables e below (T1.setTop (mkF m 4 #[.val (.ref a1), .val (.ref a2), .val (.int p3)] [])) _
    refine XS.aloadN X1.here hx rfl (hb hby de_4) rfl rfl ?_
    show Steps p.tables e below (T1.setTop (mkF m 5 #[.val (.ref a1), .val (.ref a2), .val (.int p3)] [(.ref a1)])) _
    refine XS.aloadN X1.here hx rfl (hb hby de_5) rfl rfl ?_
    show Steps p.tables e below (T1.setTop (mkF m 6 #[.val (.ref a1), .val (.ref a2), .val (.int p3)] [(.ref a2), (.ref a1)])) _
    refine st2 _ ?_
    show Steps p.tables e below (T2.setTop (mkF m 9 #[.val (.ref a1), .val (.ref a2), .val (.int p3)] [])) _
    refine XS.aloadN X2.here hx rfl (hb hby de_9) rfl rfl ?_
    show Steps p.tables e below (T2.setTop (mkF m 10 #[.val (.ref a1), .val (.ref a2), .val (.int p3)] [(.ref a1)])) _
    refine XS.iloadN X2.here hx rfl (hb hby de_10) rfl ?_
    show Steps p.tables e below (T2.setTop (mkF m 11 #[.val (.ref a1), .val (.ref a2), .val (.int p3)] [(.int p3), (.ref a1)])) _
    refine st3 _ ?_
    show Steps p.tables e below (T3.setTop (mkF m 14 #[.val (.ref a1), .val (.ref a2), .val (.int p3)] [])) _
    exact X3.returnOut hx Bd.returns (hb hby de_14) hr
  · show Qe Z a1 a2 p3 h0 n0 _ T3.heap _
    rw [e3]
    exact ⟨rfl, N3, Kp3, Ex_a1_W3, Fv_a1_W3, Fc_a1_W3⟩
theorem df_0 : decode jdk_42_method_139_code 0 = .ok (.getstatic 38, 3) := by decide +kernel
theorem df_3 : decode jdk_42_method_139_code 3 = .ok (.ifCond .eq 23, 3) := by decide +kernel
theorem df_6 : decode jdk_42_method_139_code 6 = .ok (.iload_n 0, 1) := by decide +kernel
theorem df_7 : decode jdk_42_method_139_code 7 = .ok (.invokestatic 1015, 3) := by decide +kernel
theorem df_10 : decode jdk_42_method_139_code 10 = .ok (.ifCond .eq 16, 3) := by decide +kernel
theorem df_13 : decode jdk_42_method_139_code 13 = .ok (.new 10, 3) := by decide +kernel
theorem df_16 : decode jdk_42_method_139_code 16 = .ok (.dup, 1) := by decide +kernel
theorem df_17 : decode jdk_42_method_139_code 17 = .ok (.iload_n 0, 1) := by decide +kernel
theorem df_18 : decode jdk_42_method_139_code 18 = .ok (.invokestatic 1018, 3) := by decide +kernel
theorem df_21 : decode jdk_42_method_139_code 21 = .ok (.iconst 0, 1) := by decide +kernel
theorem df_22 : decode jdk_42_method_139_code 22 = .ok (.invokespecial 209, 3) := by decide +kernel
theorem df_25 : decode jdk_42_method_139_code 25 = .ok (.areturn, 1) := by decide +kernel
theorem df_26 : decode jdk_42_method_139_code 26 = .ok (.new 10, 3) := by decide +kernel
theorem df_29 : decode jdk_42_method_139_code 29 = .ok (.dup, 1) := by decide +kernel
theorem df_30 : decode jdk_42_method_139_code 30 = .ok (.iload_n 0, 1) := by decide +kernel
theorem df_31 : decode jdk_42_method_139_code 31 = .ok (.invokestatic 1021, 3) := by decide +kernel
theorem df_34 : decode jdk_42_method_139_code 34 = .ok (.iconst 1, 1) := by decide +kernel
theorem df_35 : decode jdk_42_method_139_code 35 = .ok (.invokespecial 209, 3) := by decide +kernel
theorem df_38 : decode jdk_42_method_139_code 38 = .ok (.areturn, 1) := by decide +kernel
theorem pdf_0 : parseMethodDescriptor "(C)Z" = some ⟨[.char], some .boolean⟩ := by decide +kernel
theorem pdf_1 : parseMethodDescriptor "(C)[B" = some ⟨[.char], some (.array .byte)⟩ := by decide +kernel
theorem pdf_2 : parseMethodDescriptor "([BB)V" = some ⟨[(.array .byte), .byte], none⟩ := by decide +kernel
def Qf (Z : State) (u : UInt16) (h0 : Heap) (n0 : Nat) (v : Option Value) (h : Heap) (L : List Loc) : Prop := Fr n0 L ∧ ∃ (b : Addr), v = some (.ref b) ∧ h0.size ≤ b ∧ Keep h0 h [] ∧ own_Str Z h n0 h.size b [u]
theorem pnf : plainName "java/lang/String" = true := by first | (simp [plainName, overriddenIn]; done) | decide +kernel
theorem eff (m : MethodId) (x0 : Int32) : entryFrame m #[(.int x0)] 1 = mkF m 0 #[.val (.int x0)] [] := by first | (simp [entryFrame, mkF, argsToLocals, Value.category]; done) | rfl
set_option maxRecDepth 65536 in
set_option maxHeartbeats 40000000 in
theorem rmf (l : Launch) (Z : State) (a0 : Array Value) (hw : ∀ d ∈ tables_1, d.before a0 Z = true) (ws : List Jvm.Cond) (csx : Int32) (vF : Value) (u : UInt16) (h0 : Heap) (n0 : Nat) (Z0 : n0 ≤ h0.size) (St : own_St Z csx vF) (O0 : Old Z n0 h0) :
    MetFree l (⟨"java/lang/String", "valueOf", "(C)Ljava/lang/String;"⟩ : MethodName) (head1 (Jvm.Cond.code (⟨"java/lang/String", "valueOf", "(C)Ljava/lang/String;"⟩ : MethodName) jdk_42_method_139_code 1 (some (.object "java/lang/String")) :: ws) ({ frames := 2, cells := 2, slots := 6, locals := 31 } : Room)) (fun a U => a = #[(.int (own_ch u))] ∧ Z.Warmed39 U.vm ∧ U.heap = h0) (fun _ _ _ _ _ => True) (fun _ U o U' => ∃ v L, o = .returned v ∧ Qf Z u h0 n0 v U'.heap L ∧ FrameEnd U o U' L ({ frames := 2, cells := 2, slots := 6, locals := 31 } : Room).cells ({ frames := 2, cells := 2, slots := 6, locals := 31 } : Room).slots) := by
  refine MetFree.of_bodySF (plainFor_of_name pnf) hisR ?_
  intro p e s m args below meth c s₁ Bd hml0 hP hK
  obtain ⟨rfl, hZ, hh⟩ := hP
  have hx := Bd.exec
  have hby := Bd.bytes
  have hml : c.maxLocals = 1 := hml0
  have hown : s.vm.findClass "java/lang/String" = some m.cls := findClass_of_methodNamed Bd.named
  have hnm := (name_of_methodNamed Bd.named Bd.method).1
  have X0 : Stand p l e ({ frames := 2, cells := 2, slots := 6, locals := 31 } : Room) s m #[(.int (own_ch u))] below meth c s₁ [] 0 0 := Stand.of_body Bd
  have e0 : s₁.heap = h0 := by rw [← hh, Bd.state]; rfl
  have N0 := Fr.nil n0
  have pre0 : ∀ t, Steps p.tables e below (s₁.setTop (mkF m 0 #[.val (.int (own_ch u))] [])) t → Steps p.tables e below (s₁.setTop (entryFrame m #[(.int (own_ch u))] 1)) t := fun t k => castTop (eff m (own_ch u)) k
  by_cases hL : (255 : Int32) < own_ch u
  · obtain ⟨T1, X1, e1, st1⟩ := getS X0 hx hZ (host := "") hown (hw _ (List.mem_of_getElem? (i := 4) rfl)) Via.refl e0 (Sta.ext O0.2 St.1) (g := (mkF m 0 #[.val (.int (own_ch u))] [])) rfl (hb hby df_0)
    obtain ⟨_, _, ⟨T2, L2, k2, n2⟩, -, X2, ⟨Lc2, hQ2, l2, y2, z2⟩, st2⟩ := Jvm.LawKit.callS X1 hx (y := (⟨"java/lang/StringLatin1", "canEncode", "(C)Z"⟩ : MethodName)) hown (mvT hZ (hw _ (List.mem_of_getElem? (i := 5) rfl))) (mvT hZ (hw _ (List.mem_of_getElem? (i := 6) rfl))) (mvT hZ (hw _ (List.mem_of_getElem? (i := 7) rfl))) (mvT hZ (hw _ (List.mem_of_getElem? (i := 8) rfl))) (by decide) (backOf (W := 0) (rma l Z a0 hw [] (own_ch u) h0 n0 Z0) hZ (hw _ (List.mem_of_getElem? (i := 8) rfl)) (hw _ (List.mem_of_getElem? (i := 7) rfl)) (by decide) (by decide)) (g := (mkF m 7 #[.val (.int (own_ch u))] [(.int (own_ch u))])) rfl (by rw [hml]; rfl) (argsL := [(.int (own_ch u))]) (rest := []) (lenOf pdf_0 rfl) rfl (by show 2 * 0 + _ ≤ _; exact Nat.le_of_eq rfl) (hb hby df_7) (fun _ _ => ⟨rfl, e1, (by decide : 0 + 0 ≤ _), (by decide : 0 + 0 ≤ _)⟩)
    dsimp only [Pt.U, Pt.locs, Pt.cells, Pt.slots] at X2 l2 y2 z2 st2 hQ2
    subst l2 y2 z2
    obtain ⟨rfl, Nq2, e2⟩ := hQ2
    have N2 := Fr.app N0 Nq2
    rw [own_can, if_pos hL] at st2
    obtain ⟨T3, h3, X3, e3, E3, A3, D3, -, st3⟩ := newO X2 hx hZ hown (hw _ (List.mem_of_getElem? (i := 9) rfl)) (hw _ (List.mem_of_getElem? (i := 10) rfl)) (hw _ (List.mem_of_getElem? (i := 2) rfl)) e2 (g := (mkF m 26 #[.val (.int (own_ch u))] [])) rfl (hb hby df_26) (by decide) (by decide)
    obtain ⟨b3, g3⟩ : ∃ z, z = h0.size := ⟨_, rfl⟩
    rw [← g3] at A3 D3 st3
    have gn_b3 : n0 ≤ b3 := Nat.le_trans Z0 (Nat.le_of_eq g3.symm)
    have O3 := O0.ext E3
    have Zs3 : n0 ≤ h3.size := Nat.le_trans Z0 E3.1
    have Kp3 := (Keep.refl h0 []).ext E3
    have Fvalue_b3 : Fld Z h3 b3 "java/lang/String" "value" "[B" .null := D3 (Or.inr (hw _ (List.mem_of_getElem? (i := 23) rfl))) (ty := (.array .byte)) (by decide)
    have Fcoder_b3 : Fld Z h3 b3 "java/lang/String" "coder" "B" (.int (0 : Int32)) := D3 (Or.inr (hw _ (List.mem_of_getElem? (i := 25) rfl))) (ty := .byte) (by decide)
    obtain ⟨_, _, ⟨T4, L4, k4, n4⟩, -, X4, ⟨Lc4, hQ4, l4, y4, z4⟩, st4⟩ := Jvm.LawKit.callS X3 hx (y := (⟨"java/lang/StringUTF16", "toBytes", "(C)[B"⟩ : MethodName)) hown (mvT hZ (hw _ (List.mem_of_getElem? (i := 113) rfl))) (mvT hZ (hw _ (List.mem_of_getElem? (i := 114) rfl))) (mvT hZ (hw _ (List.mem_of_getElem? (i := 36) rfl))) (mvT hZ (hw _ (List.mem_of_getElem? (i := 115) rfl))) (by decide) (backOf (W := 2) (rmd l Z a0 hw [] csx vF u h3 n0 Zs3 St O3) hZ (hw _ (List.mem_of_getElem? (i := 115) rfl)) (hw _ (List.mem_of_getElem? (i := 36) rfl)) (by decide) (by decide)) (g := (mkF m 31 #[.val (.int (own_ch u))] [(.int (own_ch u)), (.ref b3), (.ref b3)])) rfl (by rw [hml]; rfl) (argsL := [(.int (own_ch u))]) (rest := [(.ref b3), (.ref b3)]) (lenOf pdf_1 rfl) rfl (by show 2 * 0 + _ ≤ _; exact Nat.le_of_eq rfl) (hb hby df_31) (fun _ _ => ⟨rfl, e3, (by decide : 1 + 1 ≤ _), (by decide : 4 + 2 ≤ _)⟩)
    dsimp only [Pt.U, Pt.locs, Pt.cells, Pt.slots] at X4 l4 y4 z4 st4 hQ4
    subst l4 y4 z4
    obtain ⟨Nq4, t4, kb4, rfl, gn_t4, sb4, Kc4, Vb4⟩ := hQ4
    have N4 := Fr.app N2 Nq4
    have Zs4 : n0 ≤ T4.heap.size := Nat.le_trans Zs3 Kc4.1
    have Ex_b3_Kc4 := A3.keep Kc4
    have Fvalue_b3_Kc4 := Fvalue_b3.keep Kc4 nin0
    have Fcoder_b3_Kc4 := Fcoder_b3.keep Kc4 nin0
    have O4 := O3.keep Kc4 all0
    have Kp4 := Kp3.trans Kc4 all0
    have ne_t4 : b3 ≠ t4 := Nat.ne_of_lt (Nat.lt_of_lt_of_le Fvalue_b3.lt sb4)
    obtain ⟨_, _, ⟨T5, L5, k5, n5⟩, -, X5, ⟨Lc5, hQ5, l5, y5, z5⟩, st5⟩ := X4.specialBack hx (y := (⟨"java/lang/String", "<init>", "([BB)V"⟩ : MethodName)) rfl hown (mvT hZ (hw _ (List.mem_of_getElem? (i := 15) rfl))) (mvT hZ (hw _ (List.mem_of_getElem? (i := 16) rfl))) (mvT hZ (hw _ (List.mem_of_getElem? (i := 18) rfl))) (by decide) (backOf (W := 1) (rme l Z a0 hw [] b3 t4 (1 : Int32) T4.heap n0 Zs4 Ex_b3_Kc4 Fvalue_b3_Kc4 Fcoder_b3_Kc4 gn_b3 (by decide)) hZ (hw _ (List.mem_of_getElem? (i := 18) rfl)) (hw _ (List.mem_of_getElem? (i := 2) rfl)) (by decide) (by decide)) (g := (mkF m 35 #[.val (.int (own_ch u))] [(.int (1 : Int32)), (.ref t4), (.ref b3), (.ref b3)])) rfl (by rw [hml]; rfl) (Steps.refl _) (a := b3) (argsL := [(.ref t4), (.int (1 : Int32))]) (rest := [(.ref b3)]) (lenOf pdf_2 rfl) rfl (by show 2 * 0 + _ ≤ _; exact Nat.le_of_eq rfl) (hb hby df_35) (fun _ _ => ⟨rfl, rfl, (by decide : 2 + 0 ≤ _), (by decide : 6 + 0 ≤ _)⟩)
    dsimp only [Pt.U, Pt.locs, Pt.cells, Pt.slots] at X5 l5 y5 z5 st5 hQ5
    subst l5 y5 z5
    obtain ⟨rfl, Nq5, Kc5, Ei5, Gv5, Gc5⟩ := hQ5
    have N5 := Fr.app N4 Nq5
    have Zs5 : n0 ≤ T5.heap.size := Nat.le_trans Zs4 Kc5.1
    have Ex_b3_Kc5 := Ex_b3_Kc4.keep Kc5
    have Va_t4_Kc5 := Vb4.keep Kc5 (ninS (Ne.symm ne_t4) nin0)
    have O5 := O4.keep Kc5 (allS gn_b3 all0)
    have Kp5 := Kp4.trans Kc5 (allS (Or.inr (Nat.le_of_eq g3.symm)) all0)
    have hS : own_Str Z T5.heap n0 T5.heap.size b3 [u] := ⟨t4, kb4, _, Ei5, Gc5, Gv5, ⟨gn_b3, gn_t4, Gv5.lt, Va_t4_Kc5.lt⟩, Or.inr ⟨rfl, Va_t4_Kc5⟩⟩
    obtain ⟨fs, hr, hrun, hended, hW, hsame⟩ := X5.leave (v := some (.ref b3)) (fun h => by rw [Bd.returns] at h; cases h)
    refine ⟨_, _, pre0 _ ?_, hrun, hended, _, _, rfl, ?_, ⟨_, rfl⟩, hW, hsame.mono (by decide) (by decide)⟩
    · show Steps p.tables e below (s₁.setTop (mkF m 0 #[.val (.int (own_ch u))] [])) _
      refine st1 _ ?_
      show Steps p.tables e below (T1.setTop (mkF m 3 #[.val (.int (own_ch u))] [(.int csx)])) _
      refine XS.ifNo X1.here hx rfl (hb hby df_3) rfl ((if0 _ _).trans (feq (St.2.1 : ¬ (csx = (0 : Int32)))).1) ?_
      show Steps p.tables e below (T1.setTop (mkF m 6 #[.val (.int (own_ch u))] [])) _
      refine XS.iloadN X1.here hx rfl (hb hby df_6) rfl ?_
      show Steps p.tables e below (T1.setTop (mkF m 7 #[.val (.int (own_ch u))] [(.int (own_ch u))])) _
      refine st2 _ ?_
      show Steps p.tables e below (T2.setTop (mkF m 10 #[.val (.int (own_ch u))] [(.int (0 : Int32))])) _
      refine XS.ifYes X2.here hx rfl (pc0 := 10) (pc' := 26) rfl (hb hby df_10) rfl ((if0 _ _).trans (teq (rfl : (0 : Int32) = (0 : Int32))).1) (by decide) (by decide) ?_
      show Steps p.tables e below (T2.setTop (mkF m 26 #[.val (.int (own_ch u))] [])) _
      refine st3 _ ?_
      show Steps p.tables e below (T3.setTop (mkF m 29 #[.val (.int (own_ch u))] [(.ref b3)])) _
      refine XS.dup X3.here hx rfl (hb hby df_29) rfl rfl ?_
      show Steps p.tables e below (T3.setTop (mkF m 30 #[.val (.int (own_ch u))] [(.ref b3), (.ref b3)])) _
      refine XS.iloadN X3.here hx rfl (hb hby df_30) rfl ?_
      show Steps p.tables e below (T3.setTop (mkF m 31 #[.val (.int (own_ch u))] [(.int (own_ch u)), (.ref b3), (.ref b3)])) _
      refine st4 _ ?_
      show Steps p.tables e below (T4.setTop (mkF m 34 #[.val (.int (own_ch u))] [(.ref t4), (.ref b3), (.ref b3)])) _
      refine XS.iconst X4.here hx rfl (hb hby df_34) ?_
      show Steps p.tables e below (T4.setTop (mkF m 35 #[.val (.int (own_ch u))] [(.int (1 : Int32)), (.ref t4), (.ref b3), (.ref b3)])) _
      refine st5.trans ?_
      show Steps p.tables e below (T5.setTop (mkF m 38 #[.val (.int (own_ch u))] [(.ref b3)])) _
      exact retOut X5 hx Bd.returns rfl (by simp [Value.isRef, FieldType.isReference]) (hb hby df_38) hr
    · show Qf Z u h0 n0 _ T5.heap _
      exact ⟨N5, b3, rfl, Nat.le_of_eq g3.symm, Kp5, hS⟩
  · obtain ⟨T6, X6, e6, st6⟩ := getS X0 hx hZ (host := "") hown (hw _ (List.mem_of_getElem? (i := 4) rfl)) Via.refl e0 (Sta.ext O0.2 St.1) (g := (mkF m 0 #[.val (.int (own_ch u))] [])) rfl (hb hby df_0)
    obtain ⟨_, _, ⟨T7, L7, k7, n7⟩, -, X7, ⟨Lc7, hQ7, l7, y7, z7⟩, st7⟩ := Jvm.LawKit.callS X6 hx (y := (⟨"java/lang/StringLatin1", "canEncode", "(C)Z"⟩ : MethodName)) hown (mvT hZ (hw _ (List.mem_of_getElem? (i := 5) rfl))) (mvT hZ (hw _ (List.mem_of_getElem? (i := 6) rfl))) (mvT hZ (hw _ (List.mem_of_getElem? (i := 7) rfl))) (mvT hZ (hw _ (List.mem_of_getElem? (i := 8) rfl))) (by decide) (backOf (W := 0) (rma l Z a0 hw [] (own_ch u) h0 n0 Z0) hZ (hw _ (List.mem_of_getElem? (i := 8) rfl)) (hw _ (List.mem_of_getElem? (i := 7) rfl)) (by decide) (by decide)) (g := (mkF m 7 #[.val (.int (own_ch u))] [(.int (own_ch u))])) rfl (by rw [hml]; rfl) (argsL := [(.int (own_ch u))]) (rest := []) (lenOf pdf_0 rfl) rfl (by show 2 * 0 + _ ≤ _; exact Nat.le_of_eq rfl) (hb hby df_7) (fun _ _ => ⟨rfl, e6, (by decide : 0 + 0 ≤ _), (by decide : 0 + 0 ≤ _)⟩)
    dsimp only [Pt.U, Pt.locs, Pt.cells, Pt.slots] at X7 l7 y7 z7 st7 hQ7
    subst l7 y7 z7
    obtain ⟨rfl, Nq7, e7⟩ := hQ7
    have N7 := Fr.app N0 Nq7
    rw [own_can, if_neg hL] at st7
    obtain ⟨T8, h8, X8, e8, E8, A8, D8, -, st8⟩ := newO X7 hx hZ hown (hw _ (List.mem_of_getElem? (i := 9) rfl)) (hw _ (List.mem_of_getElem? (i := 10) rfl)) (hw _ (List.mem_of_getElem? (i := 2) rfl)) e7 (g := (mkF m 13 #[.val (.int (own_ch u))] [])) rfl (hb hby df_13) (by decide) (by decide)
    obtain ⟨b8, g8⟩ : ∃ z, z = h0.size := ⟨_, rfl⟩
    rw [← g8] at A8 D8 st8
    have gn_b8 : n0 ≤ b8 := Nat.le_trans Z0 (Nat.le_of_eq g8.symm)
    have O8 := O0.ext E8
    have Zs8 : n0 ≤ h8.size := Nat.le_trans Z0 E8.1
    have Kp8 := (Keep.refl h0 []).ext E8
    have Fvalue_b8 : Fld Z h8 b8 "java/lang/String" "value" "[B" .null := D8 (Or.inr (hw _ (List.mem_of_getElem? (i := 23) rfl))) (ty := (.array .byte)) (by decide)
    have Fcoder_b8 : Fld Z h8 b8 "java/lang/String" "coder" "B" (.int (0 : Int32)) := D8 (Or.inr (hw _ (List.mem_of_getElem? (i := 25) rfl))) (ty := .byte) (by decide)
    obtain ⟨_, _, ⟨T9, L9, k9, n9⟩, -, X9, ⟨Lc9, hQ9, l9, y9, z9⟩, st9⟩ := Jvm.LawKit.callS X8 hx (y := (⟨"java/lang/StringLatin1", "toBytes", "(C)[B"⟩ : MethodName)) hown (mvT hZ (hw _ (List.mem_of_getElem? (i := 11) rfl))) (mvT hZ (hw _ (List.mem_of_getElem? (i := 12) rfl))) (mvT hZ (hw _ (List.mem_of_getElem? (i := 7) rfl))) (mvT hZ (hw _ (List.mem_of_getElem? (i := 13) rfl))) (by decide) (backOf (W := 2) (rmb l Z a0 hw [] u h8 n0 Zs8) hZ (hw _ (List.mem_of_getElem? (i := 13) rfl)) (hw _ (List.mem_of_getElem? (i := 7) rfl)) (by decide) (by decide)) (g := (mkF m 18 #[.val (.int (own_ch u))] [(.int (own_ch u)), (.ref b8), (.ref b8)])) rfl (by rw [hml]; rfl) (argsL := [(.int (own_ch u))]) (rest := [(.ref b8), (.ref b8)]) (lenOf pdf_1 rfl) rfl (by show 2 * 0 + _ ≤ _; exact Nat.le_of_eq rfl) (hb hby df_18) (fun _ _ => ⟨rfl, e8, (by decide : 1 + 1 ≤ _), (by decide : 4 + 1 ≤ _)⟩)
    dsimp only [Pt.U, Pt.locs, Pt.cells, Pt.slots] at X9 l9 y9 z9 st9 hQ9
    subst l9 y9 z9
    obtain ⟨Nq9, t9, kb9, rfl, gn_t9, sb9, Kc9, Vb9⟩ := hQ9
    have N9 := Fr.app N7 Nq9
    have Zs9 : n0 ≤ T9.heap.size := Nat.le_trans Zs8 Kc9.1
    have Ex_b8_Kc9 := A8.keep Kc9
    have Fvalue_b8_Kc9 := Fvalue_b8.keep Kc9 nin0
    have Fcoder_b8_Kc9 := Fcoder_b8.keep Kc9 nin0
    have O9 := O8.keep Kc9 all0
    have Kp9 := Kp8.trans Kc9 all0
    have ne_t9 : b8 ≠ t9 := Nat.ne_of_lt (Nat.lt_of_lt_of_le Fvalue_b8.lt sb9)
    obtain ⟨_, _, ⟨T10, L10, k10, n10⟩, -, X10, ⟨Lc10, hQ10, l10, y10, z10⟩, st10⟩ := X9.specialBack hx (y := (⟨"java/lang/String", "<init>", "([BB)V"⟩ : MethodName)) rfl hown (mvT hZ (hw _ (List.mem_of_getElem? (i := 15) rfl))) (mvT hZ (hw _ (List.mem_of_getElem? (i := 16) rfl))) (mvT hZ (hw _ (List.mem_of_getElem? (i := 18) rfl))) (by decide) (backOf (W := 1) (rme l Z a0 hw [] b8 t9 (0 : Int32) T9.heap n0 Zs9 Ex_b8_Kc9 Fvalue_b8_Kc9 Fcoder_b8_Kc9 gn_b8 (by decide)) hZ (hw _ (List.mem_of_getElem? (i := 18) rfl)) (hw _ (List.mem_of_getElem? (i := 2) rfl)) (by decide) (by decide)) (g := (mkF m 22 #[.val (.int (own_ch u))] [(.int (0 : Int32)), (.ref t9), (.ref b8), (.ref b8)])) rfl (by rw [hml]; rfl) (Steps.refl _) (a := b8) (argsL := [(.ref t9), (.int (0 : Int32))]) (rest := [(.ref b8)]) (lenOf pdf_2 rfl) rfl (by show 2 * 0 + _ ≤ _; exact Nat.le_of_eq rfl) (hb hby df_22) (fun _ _ => ⟨rfl, rfl, (by decide : 2 + 0 ≤ _), (by decide : 5 + 0 ≤ _)⟩)
    dsimp only [Pt.U, Pt.locs, Pt.cells, Pt.slots] at X10 l10 y10 z10 st10 hQ10
    subst l10 y10 z10
    obtain ⟨rfl, Nq10, Kc10, Ei10, Gv10, Gc10⟩ := hQ10
    have N10 := Fr.app N9 Nq10
    have Zs10 : n0 ≤ T10.heap.size := Nat.le_trans Zs9 Kc10.1
    have Ex_b8_Kc10 := Ex_b8_Kc9.keep Kc10
    have Va_t9_Kc10 := Vb9.keep Kc10 (ninS (Ne.symm ne_t9) nin0)
    have O10 := O9.keep Kc10 (allS gn_b8 all0)
    have Kp10 := Kp9.trans Kc10 (allS (Or.inr (Nat.le_of_eq g8.symm)) all0)
    have hS : own_Str Z T10.heap n0 T10.heap.size b8 [u] := ⟨t9, kb9, _, Ei10, Gc10, Gv10, ⟨gn_b8, gn_t9, Gv10.lt, Va_t9_Kc10.lt⟩, Or.inl ⟨rfl, fun x hx => by rw [List.mem_singleton.mp hx]; exact hL, Va_t9_Kc10⟩⟩
    obtain ⟨fs, hr, hrun, hended, hW, hsame⟩ := X10.leave (v := some (.ref b8)) (fun h => by rw [Bd.returns] at h; cases h)
    refine ⟨_, _, pre0 _ ?_, hrun, hended, _, _, rfl, ?_, ⟨_, rfl⟩, hW, hsame.mono (by decide) (by decide)⟩
    · show Steps p.tables e below (s₁.setTop (mkF m 0 #[.val (.int (own_ch u))] [])) _
      refine st6 _ ?_
      show Steps p.tables e below (T6.setTop (mkF m 3 #[.val (.int (own_ch u))] [(.int csx)])) _
      refine XS.ifNo X6.here hx rfl (hb hby df_3) rfl ((if0 _ _).trans (feq (St.2.1 : ¬ (csx = (0 : Int32)))).1) ?_
      show Steps p.tables e below (T6.setTop (mkF m 6 #[.val (.int (own_ch u))] [])) _
      refine XS.iloadN X6.here hx rfl (hb hby df_6) rfl ?_
      show Steps p.tables e below (T6.setTop (mkF m 7 #[.val (.int (own_ch u))] [(.int (own_ch u))])) _
      refine st7 _ ?_
      show Steps p.tables e below (T7.setTop (mkF m 10 #[.val (.int (own_ch u))] [(.int (1 : Int32))])) _
      refine XS.ifNo X7.here hx rfl (hb hby df_10) rfl ((if0 _ _).trans (feq ((by decide) : ¬ ((1 : Int32) = (0 : Int32)))).1) ?_
      show Steps p.tables e below (T7.setTop (mkF m 13 #[.val (.int (own_ch u))] [])) _
      refine st8 _ ?_
      show Steps p.tables e below (T8.setTop (mkF m 16 #[.val (.int (own_ch u))] [(.ref b8)])) _
      refine XS.dup X8.here hx rfl (hb hby df_16) rfl rfl ?_
      show Steps p.tables e below (T8.setTop (mkF m 17 #[.val (.int (own_ch u))] [(.ref b8), (.ref b8)])) _
      refine XS.iloadN X8.here hx rfl (hb hby df_17) rfl ?_
      show Steps p.tables e below (T8.setTop (mkF m 18 #[.val (.int (own_ch u))] [(.int (own_ch u)), (.ref b8), (.ref b8)])) _
      refine st9 _ ?_
      show Steps p.tables e below (T9.setTop (mkF m 21 #[.val (.int (own_ch u))] [(.ref t9), (.ref b8), (.ref b8)])) _
      refine XS.iconst X9.here hx rfl (hb hby df_21) ?_
      show Steps p.tables e below (T9.setTop (mkF m 22 #[.val (.int (own_ch u))] [(.int (0 : Int32)), (.ref t9), (.ref b8), (.ref b8)])) _
      refine st10.trans ?_
      show Steps p.tables e below (T10.setTop (mkF m 25 #[.val (.int (own_ch u))] [(.ref b8)])) _
      exact retOut X10 hx Bd.returns rfl (by simp [Value.isRef, FieldType.isReference]) (hb hby df_25) hr
    · show Qf Z u h0 n0 _ T10.heap _
      exact ⟨N10, b8, rfl, Nat.le_of_eq g8.symm, Kp10, hS⟩
theorem dg_0 : decode jdk_52_method_3_code 0 = .ok (.iload_n 0, 1) := by decide +kernel
theorem dg_1 : decode jdk_52_method_3_code 1 = .ok (.ifCond .ge 11, 3) := by decide +kernel
theorem dg_12 : decode jdk_52_method_3_code 12 = .ok (.iload_n 0, 1) := by decide +kernel
theorem dg_13 : decode jdk_52_method_3_code 13 = .ok (.ldc 20, 2) := by decide +kernel
theorem dg_15 : decode jdk_52_method_3_code 15 = .ok (.if_icmp .lt 40, 3) := by decide +kernel
theorem dg_55 : decode jdk_52_method_3_code 55 = .ok (.iload_n 0, 1) := by decide +kernel
theorem dg_56 : decode jdk_52_method_3_code 56 = .ok (.iconst 1, 1) := by decide +kernel
theorem dg_57 : decode jdk_52_method_3_code 57 = .ok (.ishl, 1) := by decide +kernel
theorem dg_58 : decode jdk_52_method_3_code 58 = .ok (.ireturn, 1) := by decide +kernel
def Qg (h0 : Heap) (n0 : Nat) (v : Option Value) (h : Heap) (L : List Loc) : Prop := v = some (.int (4 : Int32)) ∧ Fr n0 L ∧ h = h0
theorem png : plainName "java/lang/StringUTF16" = true := by first | (simp [plainName, overriddenIn]; done) | decide +kernel
theorem efg (m : MethodId) (x0 : Int32) : entryFrame m #[(.int x0)] 1 = mkF m 0 #[.val (.int x0)] [] := by first | (simp [entryFrame, mkF, argsToLocals, Value.category]; done) | rfl
set_option maxRecDepth 65536 in
set_option maxHeartbeats 40000000 in
theorem rmg (l : Launch) (Z : State) (a0 : Array Value) (hw : ∀ d ∈ tables_1, d.before a0 Z = true) (ws : List Jvm.Cond)  (h0 : Heap) (n0 : Nat) (Z0 : n0 ≤ h0.size)  :
    MetFree l (⟨"java/lang/StringUTF16", "newBytesLength", "(I)I"⟩ : MethodName) (head1 (Jvm.Cond.code (⟨"java/lang/StringUTF16", "newBytesLength", "(I)I"⟩ : MethodName) jdk_52_method_3_code 1 (some .int) :: ws) ({ frames := 0, cells := 0, slots := 0, locals := 0 } : Room)) (fun a U => a = #[(.int (2 : Int32))] ∧ Z.Warmed39 U.vm ∧ U.heap = h0) (fun _ _ _ _ _ => True) (fun _ U o U' => ∃ v L, o = .returned v ∧ Qg h0 n0 v U'.heap L ∧ FrameEnd U o U' L ({ frames := 0, cells := 0, slots := 0, locals := 0 } : Room).cells ({ frames := 0, cells := 0, slots := 0, locals := 0 } : Room).slots) := by
  refine MetFree.of_bodySF (plainFor_of_name png) hisR ?_
  intro p e s m args below meth c s₁ Bd hml0 hP hK
  obtain ⟨rfl, hZ, hh⟩ := hP
  have hx := Bd.exec
  have hby := Bd.bytes
  have hml : c.maxLocals = 1 := hml0
  have hown : s.vm.findClass "java/lang/StringUTF16" = some m.cls := findClass_of_methodNamed Bd.named
  have hnm := (name_of_methodNamed Bd.named Bd.method).1
  have X0 : Stand p l e ({ frames := 0, cells := 0, slots := 0, locals := 0 } : Room) s m #[(.int (2 : Int32))] below meth c s₁ [] 0 0 := Stand.of_body Bd
  have e0 : s₁.heap = h0 := by rw [← hh, Bd.state]; rfl
  have N0 := Fr.nil n0
  have pre0 : ∀ t, Steps p.tables e below (s₁.setTop (mkF m 0 #[.val (.int (2 : Int32))] [])) t → Steps p.tables e below (s₁.setTop (entryFrame m #[(.int (2 : Int32))] 1)) t := fun t k => castTop (efg m (2 : Int32)) k
  obtain ⟨fs, hr, hrun, hended, hW, hsame⟩ := X0.leave (v := some (.int (4 : Int32))) (fun h => by rw [Bd.returns] at h; cases h)
  refine ⟨_, _, pre0 _ ?_, hrun, hended, _, _, rfl, ?_, ⟨_, rfl⟩, hW, hsame.mono (by decide) (by decide)⟩
  · show Steps p.tables e below (s₁.setTop (mkF m 0 #[.val (.int (2 : Int32))] [])) _
    refine XS.iloadN X0.here hx rfl (hb hby dg_0) rfl ?_
    show Steps p.tables e below (s₁.setTop (mkF m 1 #[.val (.int (2 : Int32))] [(.int (2 : Int32))])) _
    refine XS.ifYes X0.here hx rfl (pc0 := 1) (pc' := 12) rfl (hb hby dg_1) rfl ((if0 _ _).trans (flt ((by decide) : ¬ ((2 : Int32) < (0 : Int32)))).2.1) (by decide) (by decide) ?_
    show Steps p.tables e below (s₁.setTop (mkF m 12 #[.val (.int (2 : Int32))] [])) _
    refine XS.iloadN X0.here hx rfl (hb hby dg_12) rfl ?_
    show Steps p.tables e below (s₁.setTop (mkF m 13 #[.val (.int (2 : Int32))] [(.int (2 : Int32))])) _
    refine X0.ldcInt hx hown (mvT hZ (hw _ (List.mem_of_getElem? (i := 131) rfl))) (g := (mkF m 13 #[.val (.int (2 : Int32))] [(.int (2 : Int32))])) rfl (hb hby dg_13) _ ?_
    show Steps p.tables e below (s₁.setTop (mkF m 15 #[.val (.int (2 : Int32))] [(.int (1073741823 : Int32)), (.int (2 : Int32))])) _
    refine XS.icmpYes X0.here hx rfl (pc0 := 15) (pc' := 55) rfl (hb hby dg_15) rfl (tlt ((by decide) : (2 : Int32) < (1073741823 : Int32))).1 (by decide) (by decide) ?_
    show Steps p.tables e below (s₁.setTop (mkF m 55 #[.val (.int (2 : Int32))] [])) _
    refine XS.iloadN X0.here hx rfl (hb hby dg_55) rfl ?_
    show Steps p.tables e below (s₁.setTop (mkF m 56 #[.val (.int (2 : Int32))] [(.int (2 : Int32))])) _
    refine XS.iconst X0.here hx rfl (hb hby dg_56) ?_
    show Steps p.tables e below (s₁.setTop (mkF m 57 #[.val (.int (2 : Int32))] [(.int (1 : Int32)), (.int (2 : Int32))])) _
    refine XS.ishl X0.here hx rfl (hb hby dg_57) rfl ?_
    show Steps p.tables e below (s₁.setTop (mkF m 58 #[.val (.int (2 : Int32))] [(.int ((2 : Int32) <<< ((1 : Int32) &&& 31)))])) _
    rw [(show ((2 : Int32) <<< ((1 : Int32) &&& 31)) = 4 from by decide)]
    show Steps p.tables e below (s₁.setTop (mkF m 58 #[.val (.int (2 : Int32))] [(.int (4 : Int32))])) _
    exact retI X0 hx Bd.returns (hb hby dg_58) hr
  · show Qg h0 n0 _ s₁.heap _
    rw [e0]
    exact ⟨rfl, N0, rfl⟩
theorem dh_0 : decode jdk_52_method_2_code 0 = .ok (.iload_n 0, 1) := by decide +kernel
theorem dh_1 : decode jdk_52_method_2_code 1 = .ok (.invokestatic 11, 3) := by decide +kernel
theorem dh_4 : decode jdk_52_method_2_code 4 = .ok (.newarray .byte, 2) := by decide +kernel
theorem dh_6 : decode jdk_52_method_2_code 6 = .ok (.areturn, 1) := by decide +kernel
theorem pdh_0 : parseMethodDescriptor "(I)I" = some ⟨[.int], some .int⟩ := by decide +kernel
def Qh (Z : State) (h0 : Heap) (n0 : Nat) (v : Option Value) (h : Heap) (L : List Loc) : Prop := Fr n0 L ∧ ∃ (b : Addr) (k : ClassId), v = some (.ref b) ∧ n0 ≤ b ∧ h0.size ≤ b ∧ Keep h0 h [] ∧ Arv Z h b k .byte (4 : Int32) [.int (0 : Int32), .int (0 : Int32), .int (0 : Int32), .int (0 : Int32)] (.int (0 : Int32))
theorem pnh : plainName "java/lang/StringUTF16" = true := by first | (simp [plainName, overriddenIn]; done) | decide +kernel
theorem efh (m : MethodId) (x0 : Int32) : entryFrame m #[(.int x0)] 1 = mkF m 0 #[.val (.int x0)] [] := by first | (simp [entryFrame, mkF, argsToLocals, Value.category]; done) | rfl
set_option maxRecDepth 65536 in
set_option maxHeartbeats 40000000 in
theorem rmh (l : Launch) (Z : State) (a0 : Array Value) (hw : ∀ d ∈ tables_1, d.before a0 Z = true) (ws : List Jvm.Cond)  (h0 : Heap) (n0 : Nat) (Z0 : n0 ≤ h0.size)  :
    MetFree l (⟨"java/lang/StringUTF16", "newBytesFor", "(I)[B"⟩ : MethodName) (head1 (Jvm.Cond.code (⟨"java/lang/StringUTF16", "newBytesFor", "(I)[B"⟩ : MethodName) jdk_52_method_2_code 1 (some (.array .byte)) :: ws) ({ frames := 1, cells := 1, slots := 4, locals := 12 } : Room)) (fun a U => a = #[(.int (2 : Int32))] ∧ Z.Warmed39 U.vm ∧ U.heap = h0) (fun _ _ _ _ _ => True) (fun _ U o U' => ∃ v L, o = .returned v ∧ Qh Z h0 n0 v U'.heap L ∧ FrameEnd U o U' L ({ frames := 1, cells := 1, slots := 4, locals := 12 } : Room).cells ({ frames := 1, cells := 1, slots := 4, locals := 12 } : Room).slots) := by
  refine MetFree.of_bodySF (plainFor_of_name pnh) hisR ?_
  intro p e s m args below meth c s₁ Bd hml0 hP hK
  obtain ⟨rfl, hZ, hh⟩ := hP
  have hx := Bd.exec
  have hby := Bd.bytes
  have hml : c.maxLocals = 1 := hml0
  have hown : s.vm.findClass "java/lang/StringUTF16" = some m.cls := findClass_of_methodNamed Bd.named
  have hnm := (name_of_methodNamed Bd.named Bd.method).1
  have X0 : Stand p l e ({ frames := 1, cells := 1, slots := 4, locals := 12 } : Room) s m #[(.int (2 : Int32))] below meth c s₁ [] 0 0 := Stand.of_body Bd
  have e0 : s₁.heap = h0 := by rw [← hh, Bd.state]; rfl
  have N0 := Fr.nil n0
  have pre0 : ∀ t, Steps p.tables e below (s₁.setTop (mkF m 0 #[.val (.int (2 : Int32))] [])) t → Steps p.tables e below (s₁.setTop (entryFrame m #[(.int (2 : Int32))] 1)) t := fun t k => castTop (efh m (2 : Int32)) k
  obtain ⟨_, _, ⟨T1, L1, k1, n1⟩, -, X1, ⟨Lc1, hQ1, l1, y1, z1⟩, st1⟩ := Jvm.LawKit.callS X0 hx (y := (⟨"java/lang/StringUTF16", "newBytesLength", "(I)I"⟩ : MethodName)) hown (mvT hZ (hw _ (List.mem_of_getElem? (i := 128) rfl))) (mvT hZ (hw _ (List.mem_of_getElem? (i := 129) rfl))) (mvT hZ (hw _ (List.mem_of_getElem? (i := 36) rfl))) (mvT hZ (hw _ (List.mem_of_getElem? (i := 130) rfl))) (by decide) (backOf (W := 0) (rmg l Z a0 hw [] h0 n0 Z0) hZ (hw _ (List.mem_of_getElem? (i := 130) rfl)) (hw _ (List.mem_of_getElem? (i := 36) rfl)) (by decide) (by decide)) (g := (mkF m 1 #[.val (.int (2 : Int32))] [(.int (2 : Int32))])) rfl (by rw [hml]; rfl) (argsL := [(.int (2 : Int32))]) (rest := []) (lenOf pdh_0 rfl) rfl (by show 2 * 0 + _ ≤ _; exact Nat.le_of_eq rfl) (hb hby dh_1) (fun _ _ => ⟨rfl, e0, (by decide : 0 + 0 ≤ _), (by decide : 0 + 0 ≤ _)⟩)
  dsimp only [Pt.U, Pt.locs, Pt.cells, Pt.slots] at X1 l1 y1 z1 st1 hQ1
  subst l1 y1 z1
  obtain ⟨rfl, Nq1, e1⟩ := hQ1
  have N1 := Fr.app N0 Nq1
  obtain ⟨T2, h2, k2, X2, e2, E2, A2, st2⟩ := newP X1 hx hZ (hw _ (List.mem_of_getElem? (i := 14) rfl)) e1 (g := (mkF m 4 #[.val (.int (2 : Int32))] [(.int (4 : Int32))])) rfl (hb hby dh_4) rfl (by decide) (cap := 4) (by decide) (by decide) (by decide) (by decide)
  obtain ⟨b2, g2⟩ : ∃ z, z = h0.size := ⟨_, rfl⟩
  rw [← g2] at A2 st2
  have gn_b2 : n0 ≤ b2 := Nat.le_trans Z0 (Nat.le_of_eq g2.symm)
  have Zs2 : n0 ≤ h2.size := Nat.le_trans Z0 E2.1
  have Kp2 := (Keep.refl h0 []).ext E2
  have Va_b2 : Arv Z h2 b2 k2 .byte (4 : Int32) [(.int (0 : Int32)), (.int (0 : Int32)), (.int (0 : Int32)), (.int (0 : Int32))] (.int (0 : Int32)) := (Arv.new A2 (by decide)).pad (pad_rep [] (.int (0 : Int32)) 4)
  obtain ⟨fs, hr, hrun, hended, hW, hsame⟩ := X2.leave (v := some (.ref b2)) (fun h => by rw [Bd.returns] at h; cases h)
  refine ⟨_, _, pre0 _ ?_, hrun, hended, _, _, rfl, ?_, ⟨_, rfl⟩, hW, hsame.mono (by decide) (by decide)⟩
  · show Steps p.tables e below (s₁.setTop (mkF m 0 #[.val (.int (2 : Int32))] [])) _
    refine XS.iloadN X0.here hx rfl (hb hby dh_0) rfl ?_
    show Steps p.tables e below (s₁.setTop (mkF m 1 #[.val (.int (2 : Int32))] [(.int (2 : Int32))])) _
    refine st1 _ ?_
    show Steps p.tables e below (T1.setTop (mkF m 4 #[.val (.int (2 : Int32))] [(.int (4 : Int32))])) _
    refine st2 _ ?_
    show Steps p.tables e below (T2.setTop (mkF m 6 #[.val (.int (2 : Int32))] [(.ref b2)])) _
    exact retOut X2 hx Bd.returns rfl (by simp [Value.isRef, FieldType.isReference]) (hb hby dh_6) hr
  · show Qh Z h0 n0 _ T2.heap _
    rw [e2]
    exact ⟨N1, b2, k2, rfl, gn_b2, Nat.le_of_eq g2.symm, Kp2, Va_b2⟩
theorem di_0 : decode jdk_52_method_14_code 0 = .ok (.iload_n 2, 1) := by decide +kernel
theorem di_1 : decode jdk_52_method_14_code 1 = .ok (.invokestatic 107, 3) := by decide +kernel
theorem di_4 : decode jdk_52_method_14_code 4 = .ok (.astore_n 3, 1) := by decide +kernel
theorem di_5 : decode jdk_52_method_14_code 5 = .ok (.iconst 0, 1) := by decide +kernel
theorem di_6 : decode jdk_52_method_14_code 6 = .ok (.istore 4, 2) := by decide +kernel
theorem di_8 : decode jdk_52_method_14_code 8 = .ok (.iload 4, 2) := by decide +kernel
theorem di_10 : decode jdk_52_method_14_code 10 = .ok (.iload_n 2, 1) := by decide +kernel
theorem di_11 : decode jdk_52_method_14_code 11 = .ok (.if_icmp .ge 21, 3) := by decide +kernel
theorem di_14 : decode jdk_52_method_14_code 14 = .ok (.aload_n 3, 1) := by decide +kernel
theorem di_15 : decode jdk_52_method_14_code 15 = .ok (.iload 4, 2) := by decide +kernel
theorem di_17 : decode jdk_52_method_14_code 17 = .ok (.aload_n 0, 1) := by decide +kernel
theorem di_18 : decode jdk_52_method_14_code 18 = .ok (.iload_n 1, 1) := by decide +kernel
theorem di_19 : decode jdk_52_method_14_code 19 = .ok (.caload, 1) := by decide +kernel
theorem di_20 : decode jdk_52_method_14_code 20 = .ok (.invokestatic 111, 3) := by decide +kernel
theorem di_23 : decode jdk_52_method_14_code 23 = .ok (.iinc 1 1, 3) := by decide +kernel
theorem di_26 : decode jdk_52_method_14_code 26 = .ok (.iinc 4 1, 3) := by decide +kernel
theorem di_29 : decode jdk_52_method_14_code 29 = .ok (.goto (-21), 3) := by decide +kernel
theorem di_32 : decode jdk_52_method_14_code 32 = .ok (.aload_n 3, 1) := by decide +kernel
theorem di_33 : decode jdk_52_method_14_code 33 = .ok (.areturn, 1) := by decide +kernel
theorem pdi_0 : parseMethodDescriptor "(I)[B" = some ⟨[.int], some (.array .byte)⟩ := by decide +kernel
theorem pdi_1 : parseMethodDescriptor "([BII)V" = some ⟨[(.array .byte), .int, .int], none⟩ := by decide +kernel
def Qi (Z : State) (u w : UInt16) (h0 : Heap) (n0 : Nat) (v : Option Value) (h : Heap) (L : List Loc) : Prop := Fr n0 L ∧ ∃ (b : Addr) (k : ClassId), v = some (.ref b) ∧ n0 ≤ b ∧ h0.size ≤ b ∧ Keep h0 h [] ∧ Arv Z h b k .byte (4 : Int32) [.int (own_b0 u), .int (own_b1 u), .int (own_b0 w), .int (own_b1 w)] (.int (0 : Int32))
theorem pni : plainName "java/lang/StringUTF16" = true := by first | (simp [plainName, overriddenIn]; done) | decide +kernel
theorem efi (m : MethodId) (x0 : Addr) (x1 : Int32) (x2 : Int32) : entryFrame m #[(.ref x0), (.int x1), (.int x2)] 5 = mkF m 0 #[.val (.ref x0), .val (.int x1), .val (.int x2), .unset, .unset] [] := by first | (simp [entryFrame, mkF, argsToLocals, Value.category]; done) | rfl
set_option maxRecDepth 65536 in
set_option maxHeartbeats 40000000 in
theorem rmi (l : Launch) (Z : State) (a0 : Array Value) (hw : ∀ d ∈ tables_1, d.before a0 Z = true) (ws : List Jvm.Cond) (csx : Int32) (vF : Value) (a1 : Addr) (kc : ClassId) (u w : UInt16) (h0 : Heap) (n0 : Nat) (Z0 : n0 ≤ h0.size) (St : own_St Z csx vF) (O0 : Old Z n0 h0) (V1 : Arv Z h0 a1 kc .char (2 : Int32) [.int (own_ch u), .int (own_ch w)] (.int (0 : Int32))) :
    MetFree l (⟨"java/lang/StringUTF16", "toBytes", "([CII)[B"⟩ : MethodName) (head1 (Jvm.Cond.code (⟨"java/lang/StringUTF16", "toBytes", "([CII)[B"⟩ : MethodName) jdk_52_method_14_code 5 (some (.array .byte)) :: ws) ({ frames := 2, cells := 1, slots := 4, locals := 24 } : Room)) (fun a U => a = #[(.ref a1), (.int (0 : Int32)), (.int (2 : Int32))] ∧ Z.Warmed39 U.vm ∧ U.heap = h0) (fun _ _ _ _ _ => True) (fun _ U o U' => ∃ v L, o = .returned v ∧ Qi Z u w h0 n0 v U'.heap L ∧ FrameEnd U o U' L ({ frames := 2, cells := 1, slots := 4, locals := 24 } : Room).cells ({ frames := 2, cells := 1, slots := 4, locals := 24 } : Room).slots) := by
  refine MetFree.of_bodySF (plainFor_of_name pni) hisR ?_
  intro p e s m args below meth c s₁ Bd hml0 hP hK
  obtain ⟨rfl, hZ, hh⟩ := hP
  have hx := Bd.exec
  have hby := Bd.bytes
  have hml : c.maxLocals = 5 := hml0
  have hown : s.vm.findClass "java/lang/StringUTF16" = some m.cls := findClass_of_methodNamed Bd.named
  have hnm := (name_of_methodNamed Bd.named Bd.method).1
  have X0 : Stand p l e ({ frames := 2, cells := 1, slots := 4, locals := 24 } : Room) s m #[(.ref a1), (.int (0 : Int32)), (.int (2 : Int32))] below meth c s₁ [] 0 0 := Stand.of_body Bd
  have e0 : s₁.heap = h0 := by rw [← hh, Bd.state]; rfl
  have N0 := Fr.nil n0
  have pre0 : ∀ t, Steps p.tables e below (s₁.setTop (mkF m 0 #[.val (.ref a1), .val (.int (0 : Int32)), .val (.int (2 : Int32)), .unset, .unset] [])) t → Steps p.tables e below (s₁.setTop (entryFrame m #[(.ref a1), (.int (0 : Int32)), (.int (2 : Int32))] 5)) t := fun t k => castTop (efi m a1 (0 : Int32) (2 : Int32)) k
  obtain ⟨_, _, ⟨T1, L1, k1, n1⟩, -, X1, ⟨Lc1, hQ1, l1, y1, z1⟩, st1⟩ := Jvm.LawKit.callS X0 hx (y := (⟨"java/lang/StringUTF16", "newBytesFor", "(I)[B"⟩ : MethodName)) hown (mvT hZ (hw _ (List.mem_of_getElem? (i := 125) rfl))) (mvT hZ (hw _ (List.mem_of_getElem? (i := 126) rfl))) (mvT hZ (hw _ (List.mem_of_getElem? (i := 36) rfl))) (mvT hZ (hw _ (List.mem_of_getElem? (i := 127) rfl))) (by decide) (backOf (W := 0) (rmh l Z a0 hw [] h0 n0 Z0) hZ (hw _ (List.mem_of_getElem? (i := 127) rfl)) (hw _ (List.mem_of_getElem? (i := 36) rfl)) (by decide) (by decide)) (g := (mkF m 1 #[.val (.ref a1), .val (.int (0 : Int32)), .val (.int (2 : Int32)), .unset, .unset] [(.int (2 : Int32))])) rfl (by rw [hml]; rfl) (argsL := [(.int (2 : Int32))]) (rest := []) (lenOf pdi_0 rfl) rfl (by show 2 * 0 + _ ≤ _; exact Nat.le_of_eq rfl) (hb hby di_1) (fun _ _ => ⟨rfl, e0, (by decide : 0 + 1 ≤ _), (by decide : 0 + 4 ≤ _)⟩)
  dsimp only [Pt.U, Pt.locs, Pt.cells, Pt.slots] at X1 l1 y1 z1 st1 hQ1
  subst l1 y1 z1
  obtain ⟨Nq1, t1, kb1, rfl, gn_t1, sb1, Kc1, Vb1⟩ := hQ1
  have N1 := Fr.app N0 Nq1
  have Zs1 : n0 ≤ T1.heap.size := Nat.le_trans Z0 Kc1.1
  have V1_Kc1 := V1.keep Kc1 nin0
  have O1 := O0.keep Kc1 all0
  have Kp1 := (Keep.refl h0 []).trans Kc1 all0
  have ne_t1 : a1 ≠ t1 := Nat.ne_of_lt (Nat.lt_of_lt_of_le V1.lt sb1)
  obtain ⟨cl2, Ar2, qk2, Sz2, Nn2, Hs2, Gs2⟩ := id V1_Kc1
  have hin2 : ¬ ((0 : Int32) < 0 ∨ cl2.slots.size ≤ ((0 : Int32)).toNatClampNeg) := inb_of Sz2 ⟨by decide, by decide⟩
  have hat2 : cl2.slots[((0 : Int32)).toNatClampNeg]? = some (.int (own_ch u)) := Hs2 0 (by rw [Sz2]; decide)
  obtain ⟨_, _, ⟨T3, L3, k3, n3⟩, -, X3, ⟨Lc3, hQ3, l3, y3, z3⟩, st3⟩ := Jvm.LawKit.callS X1 hx (y := (⟨"java/lang/StringUTF16", "putChar", "([BII)V"⟩ : MethodName)) hown (mvT hZ (hw _ (List.mem_of_getElem? (i := 116) rfl))) (mvT hZ (hw _ (List.mem_of_getElem? (i := 117) rfl))) (mvT hZ (hw _ (List.mem_of_getElem? (i := 36) rfl))) (mvT hZ (hw _ (List.mem_of_getElem? (i := 118) rfl))) (by decide) (backOf (W := 0) (rmc l Z a0 hw [] csx vF t1 0 u kb1 (4 : Int32) [.int (0 : Int32), .int (0 : Int32), .int (0 : Int32), .int (0 : Int32)] T1.heap n0 Zs1 St O1 (by decide) Vb1 (by decide) (by decide) (Nat.le_of_ble_eq_true rfl) gn_t1) hZ (hw _ (List.mem_of_getElem? (i := 118) rfl)) (hw _ (List.mem_of_getElem? (i := 36) rfl)) (by decide) (by decide)) (g := (mkF m 20 #[.val (.ref a1), .val (.int (0 : Int32)), .val (.int (2 : Int32)), .val (.ref t1), .val (.int (0 : Int32))] [(.int (own_ch u)), (.int (0 : Int32)), (.ref t1)])) rfl (by rw [hml]; rfl) (argsL := [(.ref t1), (.int (0 : Int32)), (.int (own_ch u))]) (rest := []) (lenOf pdi_1 rfl) rfl (by show 2 * 0 + _ ≤ _; exact Nat.le_of_eq rfl) (hb hby di_20) (fun _ _ => ⟨rfl, rfl, (by decide : 1 + 0 ≤ _), (by decide : 4 + 0 ≤ _)⟩)
  dsimp only [Pt.U, Pt.locs, Pt.cells, Pt.slots] at X3 l3 y3 z3 st3 hQ3
  subst l3 y3 z3
  obtain ⟨rfl, Nq3, Kc3, Vc3⟩ := hQ3
  have N3 := Fr.app N1 Nq3
  have Zs3 : n0 ≤ T3.heap.size := Nat.le_trans Zs1 Kc3.1
  have V1_Kc3 := V1_Kc1.keep Kc3 (ninS ne_t1 nin0)
  have O3 := O1.keep Kc3 (allS gn_t1 all0)
  have Kp3 := Kp1.trans Kc3 (allS (Or.inr sb1) all0)
  have Vp3 : Arv Z T3.heap t1 kb1 .byte (4 : Int32) [.int (own_b0 u), .int (own_b1 u), .int (0 : Int32), .int (0 : Int32)] (.int (0 : Int32)) := Vc3
  obtain ⟨cl4, Ar4, qk4, Sz4, Nn4, Hs4, Gs4⟩ := id V1_Kc3
  have hin4 : ¬ ((1 : Int32) < 0 ∨ cl4.slots.size ≤ ((1 : Int32)).toNatClampNeg) := inb_of Sz4 ⟨by decide, by decide⟩
  have hat4 : cl4.slots[((1 : Int32)).toNatClampNeg]? = some (.int (own_ch w)) := Hs4 1 (by rw [Sz4]; decide)
  obtain ⟨_, _, ⟨T5, L5, k5, n5⟩, -, X5, ⟨Lc5, hQ5, l5, y5, z5⟩, st5⟩ := Jvm.LawKit.callS X3 hx (y := (⟨"java/lang/StringUTF16", "putChar", "([BII)V"⟩ : MethodName)) hown (mvT hZ (hw _ (List.mem_of_getElem? (i := 116) rfl))) (mvT hZ (hw _ (List.mem_of_getElem? (i := 117) rfl))) (mvT hZ (hw _ (List.mem_of_getElem? (i := 36) rfl))) (mvT hZ (hw _ (List.mem_of_getElem? (i := 118) rfl))) (by decide) (backOf (W := 0) (rmc l Z a0 hw [] csx vF t1 1 w kb1 (4 : Int32) [.int (own_b0 u), .int (own_b1 u), .int (0 : Int32), .int (0 : Int32)] T3.heap n0 Zs3 St O3 (by decide) Vp3 (by decide) (by decide) (Nat.le_of_ble_eq_true rfl) gn_t1) hZ (hw _ (List.mem_of_getElem? (i := 118) rfl)) (hw _ (List.mem_of_getElem? (i := 36) rfl)) (by decide) (by decide)) (g := (mkF m 20 #[.val (.ref a1), .val (.int (1 : Int32)), .val (.int (2 : Int32)), .val (.ref t1), .val (.int (1 : Int32))] [(.int (own_ch w)), (.int (1 : Int32)), (.ref t1)])) rfl (by rw [hml]; rfl) (argsL := [(.ref t1), (.int (1 : Int32)), (.int (own_ch w))]) (rest := []) (lenOf pdi_1 rfl) rfl (by show 2 * 0 + _ ≤ _; exact Nat.le_of_eq rfl) (hb hby di_20) (fun _ _ => ⟨rfl, rfl, (by decide : 1 + 0 ≤ _), (by decide : 4 + 0 ≤ _)⟩)
  dsimp only [Pt.U, Pt.locs, Pt.cells, Pt.slots] at X5 l5 y5 z5 st5 hQ5
  subst l5 y5 z5
  obtain ⟨rfl, Nq5, Kc5, Vc5⟩ := hQ5
  have N5 := Fr.app N3 Nq5
  have Zs5 : n0 ≤ T5.heap.size := Nat.le_trans Zs3 Kc5.1
  have V1_Kc5 := V1_Kc3.keep Kc5 (ninS ne_t1 nin0)
  have O5 := O3.keep Kc5 (allS gn_t1 all0)
  have Kp5 := Kp3.trans Kc5 (allS (Or.inr sb1) all0)
  have Vp5 : Arv Z T5.heap t1 kb1 .byte (4 : Int32) [.int (own_b0 u), .int (own_b1 u), .int (own_b0 w), .int (own_b1 w)] (.int (0 : Int32)) := Vc5
  obtain ⟨fs, hr, hrun, hended, hW, hsame⟩ := X5.leave (v := some (.ref t1)) (fun h => by rw [Bd.returns] at h; cases h)
  refine ⟨_, _, pre0 _ ?_, hrun, hended, _, _, rfl, ?_, ⟨_, rfl⟩, hW, hsame.mono (by decide) (by decide)⟩
  · show Steps p.tables e below (s₁.setTop (mkF m 0 #[.val (.ref a1), .val (.int (0 : Int32)), .val (.int (2 : Int32)), .unset, .unset] [])) _
    refine XS.iloadN X0.here hx rfl (hb hby di_0) rfl ?_
    show Steps p.tables e below (s₁.setTop (mkF m 1 #[.val (.ref a1), .val (.int (0 : Int32)), .val (.int (2 : Int32)), .unset, .unset] [(.int (2 : Int32))])) _
    refine st1 _ ?_
    show Steps p.tables e below (T1.setTop (mkF m 4 #[.val (.ref a1), .val (.int (0 : Int32)), .val (.int (2 : Int32)), .unset, .unset] [(.ref t1)])) _
    refine XS.astoreN X1.here hx rfl (hb hby di_4) rfl rfl (l' := #[.val (.ref a1), .val (.int (0 : Int32)), .val (.int (2 : Int32)), .val (.ref t1), .unset]) rfl ?_
    show Steps p.tables e below (T1.setTop (mkF m 5 #[.val (.ref a1), .val (.int (0 : Int32)), .val (.int (2 : Int32)), .val (.ref t1), .unset] [])) _
    refine XS.iconst X1.here hx rfl (hb hby di_5) ?_
    show Steps p.tables e below (T1.setTop (mkF m 6 #[.val (.ref a1), .val (.int (0 : Int32)), .val (.int (2 : Int32)), .val (.ref t1), .unset] [(.int (0 : Int32))])) _
    refine XS.istore X1.here hx rfl (hb hby di_6) rfl (l' := #[.val (.ref a1), .val (.int (0 : Int32)), .val (.int (2 : Int32)), .val (.ref t1), .val (.int (0 : Int32))]) rfl ?_
    show Steps p.tables e below (T1.setTop (mkF m 8 #[.val (.ref a1), .val (.int (0 : Int32)), .val (.int (2 : Int32)), .val (.ref t1), .val (.int (0 : Int32))] [])) _
    refine XS.iload X1.here hx rfl (hb hby di_8) rfl ?_
    show Steps p.tables e below (T1.setTop (mkF m 10 #[.val (.ref a1), .val (.int (0 : Int32)), .val (.int (2 : Int32)), .val (.ref t1), .val (.int (0 : Int32))] [(.int (0 : Int32))])) _
    refine XS.iloadN X1.here hx rfl (hb hby di_10) rfl ?_
    show Steps p.tables e below (T1.setTop (mkF m 11 #[.val (.ref a1), .val (.int (0 : Int32)), .val (.int (2 : Int32)), .val (.ref t1), .val (.int (0 : Int32))] [(.int (2 : Int32)), (.int (0 : Int32))])) _
    refine XS.icmpNo X1.here hx rfl (hb hby di_11) rfl (tlt ((by decide) : (0 : Int32) < (2 : Int32))).2.1 ?_
    show Steps p.tables e below (T1.setTop (mkF m 14 #[.val (.ref a1), .val (.int (0 : Int32)), .val (.int (2 : Int32)), .val (.ref t1), .val (.int (0 : Int32))] [])) _
    refine XS.aloadN X1.here hx rfl (hb hby di_14) rfl rfl ?_
    show Steps p.tables e below (T1.setTop (mkF m 15 #[.val (.ref a1), .val (.int (0 : Int32)), .val (.int (2 : Int32)), .val (.ref t1), .val (.int (0 : Int32))] [(.ref t1)])) _
    refine XS.iload X1.here hx rfl (hb hby di_15) rfl ?_
    show Steps p.tables e below (T1.setTop (mkF m 17 #[.val (.ref a1), .val (.int (0 : Int32)), .val (.int (2 : Int32)), .val (.ref t1), .val (.int (0 : Int32))] [(.int (0 : Int32)), (.ref t1)])) _
    refine XS.aloadN X1.here hx rfl (hb hby di_17) rfl rfl ?_
    show Steps p.tables e below (T1.setTop (mkF m 18 #[.val (.ref a1), .val (.int (0 : Int32)), .val (.int (2 : Int32)), .val (.ref t1), .val (.int (0 : Int32))] [(.ref a1), (.int (0 : Int32)), (.ref t1)])) _
    refine XS.iloadN X1.here hx rfl (hb hby di_18) rfl ?_
    show Steps p.tables e below (T1.setTop (mkF m 19 #[.val (.ref a1), .val (.int (0 : Int32)), .val (.int (2 : Int32)), .val (.ref t1), .val (.int (0 : Int32))] [(.int (0 : Int32)), (.ref a1), (.int (0 : Int32)), (.ref t1)])) _
    refine X1.caload hx (j := (0 : Int32)) (v := (.int (own_ch u))) (Ar2.1) (State.isArrayOf_alike hZ.alike Ar2.2.1) Ar2.2.2 hin2 hat2 (g := (mkF m 19 #[.val (.ref a1), .val (.int (0 : Int32)), .val (.int (2 : Int32)), .val (.ref t1), .val (.int (0 : Int32))] [(.int (0 : Int32)), (.ref a1), (.int (0 : Int32)), (.ref t1)])) rfl rfl (hb hby di_19) _ ?_
    show Steps p.tables e below (T1.setTop (mkF m 20 #[.val (.ref a1), .val (.int (0 : Int32)), .val (.int (2 : Int32)), .val (.ref t1), .val (.int (0 : Int32))] [(.int (own_ch u)), (.int (0 : Int32)), (.ref t1)])) _
    refine st3 _ ?_
    show Steps p.tables e below (T3.setTop (mkF m 23 #[.val (.ref a1), .val (.int (0 : Int32)), .val (.int (2 : Int32)), .val (.ref t1), .val (.int (0 : Int32))] [])) _
    refine XS.iinc X3.here hx rfl (hb hby di_23) rfl (l' := #[.val (.ref a1), .val (.int ((0 : Int32) + (1 : Int32))), .val (.int (2 : Int32)), .val (.ref t1), .val (.int (0 : Int32))]) rfl ?_
    show Steps p.tables e below (T3.setTop (mkF m 26 #[.val (.ref a1), .val (.int ((0 : Int32) + (1 : Int32))), .val (.int (2 : Int32)), .val (.ref t1), .val (.int (0 : Int32))] [])) _
    refine XS.iinc X3.here hx rfl (hb hby di_26) rfl (l' := #[.val (.ref a1), .val (.int ((0 : Int32) + (1 : Int32))), .val (.int (2 : Int32)), .val (.ref t1), .val (.int ((0 : Int32) + (1 : Int32)))]) rfl ?_
    show Steps p.tables e below (T3.setTop (mkF m 29 #[.val (.ref a1), .val (.int ((0 : Int32) + (1 : Int32))), .val (.int (2 : Int32)), .val (.ref t1), .val (.int ((0 : Int32) + (1 : Int32)))] [])) _
    rw [(show (0 : Int32) + (1 : Int32) = 1 from by decide)]
    show Steps p.tables e below (T3.setTop (mkF m 29 #[.val (.ref a1), .val (.int (1 : Int32)), .val (.int (2 : Int32)), .val (.ref t1), .val (.int (1 : Int32))] [])) _
    refine XS.goto X3.here hx rfl (pc0 := 29) (pc' := 8) rfl (hb hby di_29) (by decide) (by decide) ?_
    show Steps p.tables e below (T3.setTop (mkF m 8 #[.val (.ref a1), .val (.int (1 : Int32)), .val (.int (2 : Int32)), .val (.ref t1), .val (.int (1 : Int32))] [])) _
    refine XS.iload X3.here hx rfl (hb hby di_8) rfl ?_
    show Steps p.tables e below (T3.setTop (mkF m 10 #[.val (.ref a1), .val (.int (1 : Int32)), .val (.int (2 : Int32)), .val (.ref t1), .val (.int (1 : Int32))] [(.int (1 : Int32))])) _
    refine XS.iloadN X3.here hx rfl (hb hby di_10) rfl ?_
    show Steps p.tables e below (T3.setTop (mkF m 11 #[.val (.ref a1), .val (.int (1 : Int32)), .val (.int (2 : Int32)), .val (.ref t1), .val (.int (1 : Int32))] [(.int (2 : Int32)), (.int (1 : Int32))])) _
    refine XS.icmpNo X3.here hx rfl (hb hby di_11) rfl (tlt ((by decide) : (1 : Int32) < (2 : Int32))).2.1 ?_
    show Steps p.tables e below (T3.setTop (mkF m 14 #[.val (.ref a1), .val (.int (1 : Int32)), .val (.int (2 : Int32)), .val (.ref t1), .val (.int (1 : Int32))] [])) _
    refine XS.aloadN X3.here hx rfl (hb hby di_14) rfl rfl ?_
    show Steps p.tables e below (T3.setTop (mkF m 15 #[.val (.ref a1), .val (.int (1 : Int32)), .val (.int (2 : Int32)), .val (.ref t1), .val (.int (1 : Int32))] [(.ref t1)])) _
    refine XS.iload X3.here hx rfl (hb hby di_15) rfl ?_
    show Steps p.tables e below (T3.setTop (mkF m 17 #[.val (.ref a1), .val (.int (1 : Int32)), .val (.int (2 : Int32)), .val (.ref t1), .val (.int (1 : Int32))] [(.int (1 : Int32)), (.ref t1)])) _
    refine XS.aloadN X3.here hx rfl (hb hby di_17) rfl rfl ?_
    show Steps p.tables e below (T3.setTop (mkF m 18 #[.val (.ref a1), .val (.int (1 : Int32)), .val (.int (2 : Int32)), .val (.ref t1), .val (.int (1 : Int32))] [(.ref a1), (.int (1 : Int32)), (.ref t1)])) _
    refine XS.iloadN X3.here hx rfl (hb hby di_18) rfl ?_
    show Steps p.tables e below (T3.setTop (mkF m 19 #[.val (.ref a1), .val (.int (1 : Int32)), .val (.int (2 : Int32)), .val (.ref t1), .val (.int (1 : Int32))] [(.int (1 : Int32)), (.ref a1), (.int (1 : Int32)), (.ref t1)])) _
    refine X3.caload hx (j := (1 : Int32)) (v := (.int (own_ch w))) (Ar4.1) (State.isArrayOf_alike hZ.alike Ar4.2.1) Ar4.2.2 hin4 hat4 (g := (mkF m 19 #[.val (.ref a1), .val (.int (1 : Int32)), .val (.int (2 : Int32)), .val (.ref t1), .val (.int (1 : Int32))] [(.int (1 : Int32)), (.ref a1), (.int (1 : Int32)), (.ref t1)])) rfl rfl (hb hby di_19) _ ?_
    show Steps p.tables e below (T3.setTop (mkF m 20 #[.val (.ref a1), .val (.int (1 : Int32)), .val (.int (2 : Int32)), .val (.ref t1), .val (.int (1 : Int32))] [(.int (own_ch w)), (.int (1 : Int32)), (.ref t1)])) _
    refine st5 _ ?_
    show Steps p.tables e below (T5.setTop (mkF m 23 #[.val (.ref a1), .val (.int (1 : Int32)), .val (.int (2 : Int32)), .val (.ref t1), .val (.int (1 : Int32))] [])) _
    refine XS.iinc X5.here hx rfl (hb hby di_23) rfl (l' := #[.val (.ref a1), .val (.int ((1 : Int32) + (1 : Int32))), .val (.int (2 : Int32)), .val (.ref t1), .val (.int (1 : Int32))]) rfl ?_
    show Steps p.tables e below (T5.setTop (mkF m 26 #[.val (.ref a1), .val (.int ((1 : Int32) + (1 : Int32))), .val (.int (2 : Int32)), .val (.ref t1), .val (.int (1 : Int32))] [])) _
    refine XS.iinc X5.here hx rfl (hb hby di_26) rfl (l' := #[.val (.ref a1), .val (.int ((1 : Int32) + (1 : Int32))), .val (.int (2 : Int32)), .val (.ref t1), .val (.int ((1 : Int32) + (1 : Int32)))]) rfl ?_
    show Steps p.tables e below (T5.setTop (mkF m 29 #[.val (.ref a1), .val (.int ((1 : Int32) + (1 : Int32))), .val (.int (2 : Int32)), .val (.ref t1), .val (.int ((1 : Int32) + (1 : Int32)))] [])) _
    rw [(show (1 : Int32) + (1 : Int32) = 2 from by decide)]
    show Steps p.tables e below (T5.setTop (mkF m 29 #[.val (.ref a1), .val (.int (2 : Int32)), .val (.int (2 : Int32)), .val (.ref t1), .val (.int (2 : Int32))] [])) _
    refine XS.goto X5.here hx rfl (pc0 := 29) (pc' := 8) rfl (hb hby di_29) (by decide) (by decide) ?_
    show Steps p.tables e below (T5.setTop (mkF m 8 #[.val (.ref a1), .val (.int (2 : Int32)), .val (.int (2 : Int32)), .val (.ref t1), .val (.int (2 : Int32))] [])) _
    refine XS.iload X5.here hx rfl (hb hby di_8) rfl ?_
    show Steps p.tables e below (T5.setTop (mkF m 10 #[.val (.ref a1), .val (.int (2 : Int32)), .val (.int (2 : Int32)), .val (.ref t1), .val (.int (2 : Int32))] [(.int (2 : Int32))])) _
    refine XS.iloadN X5.here hx rfl (hb hby di_10) rfl ?_
    show Steps p.tables e below (T5.setTop (mkF m 11 #[.val (.ref a1), .val (.int (2 : Int32)), .val (.int (2 : Int32)), .val (.ref t1), .val (.int (2 : Int32))] [(.int (2 : Int32)), (.int (2 : Int32))])) _
    refine XS.icmpYes X5.here hx rfl (pc0 := 11) (pc' := 32) rfl (hb hby di_11) rfl (flt ((by decide) : ¬ ((2 : Int32) < (2 : Int32)))).2.1 (by decide) (by decide) ?_
    show Steps p.tables e below (T5.setTop (mkF m 32 #[.val (.ref a1), .val (.int (2 : Int32)), .val (.int (2 : Int32)), .val (.ref t1), .val (.int (2 : Int32))] [])) _
    refine XS.aloadN X5.here hx rfl (hb hby di_32) rfl rfl ?_
    show Steps p.tables e below (T5.setTop (mkF m 33 #[.val (.ref a1), .val (.int (2 : Int32)), .val (.int (2 : Int32)), .val (.ref t1), .val (.int (2 : Int32))] [(.ref t1)])) _
    exact retOut X5 hx Bd.returns rfl (by simp [Value.isRef, FieldType.isReference]) (hb hby di_33) hr
  · show Qi Z u w h0 n0 _ T5.heap _
    exact ⟨N5, t1, kb1, rfl, gn_t1, sb1, Kp5, Vp5⟩
theorem dj_0 : decode jdk_52_method_5_code 0 = .ok (.getstatic 44, 3) := by decide +kernel
theorem dj_3 : decode jdk_52_method_5_code 3 = .ok (.ifCond .ne 25, 3) := by decide +kernel
theorem dj_28 : decode jdk_52_method_5_code 28 = .ok (.iload_n 1, 1) := by decide +kernel
theorem dj_29 : decode jdk_52_method_5_code 29 = .ok (.iconst 1, 1) := by decide +kernel
theorem dj_30 : decode jdk_52_method_5_code 30 = .ok (.ishl, 1) := by decide +kernel
theorem dj_31 : decode jdk_52_method_5_code 31 = .ok (.istore_n 1, 1) := by decide +kernel
theorem dj_32 : decode jdk_52_method_5_code 32 = .ok (.aload_n 0, 1) := by decide +kernel
theorem dj_33 : decode jdk_52_method_5_code 33 = .ok (.iload_n 1, 1) := by decide +kernel
theorem dj_34 : decode jdk_52_method_5_code 34 = .ok (.iinc 1 1, 3) := by decide +kernel
theorem dj_37 : decode jdk_52_method_5_code 37 = .ok (.baload, 1) := by decide +kernel
theorem dj_38 : decode jdk_52_method_5_code 38 = .ok (.sipush 255, 3) := by decide +kernel
theorem dj_41 : decode jdk_52_method_5_code 41 = .ok (.iand, 1) := by decide +kernel
theorem dj_42 : decode jdk_52_method_5_code 42 = .ok (.getstatic 59, 3) := by decide +kernel
theorem dj_45 : decode jdk_52_method_5_code 45 = .ok (.ishl, 1) := by decide +kernel
theorem dj_46 : decode jdk_52_method_5_code 46 = .ok (.aload_n 0, 1) := by decide +kernel
theorem dj_47 : decode jdk_52_method_5_code 47 = .ok (.iload_n 1, 1) := by decide +kernel
theorem dj_48 : decode jdk_52_method_5_code 48 = .ok (.baload, 1) := by decide +kernel
theorem dj_49 : decode jdk_52_method_5_code 49 = .ok (.sipush 255, 3) := by decide +kernel
theorem dj_52 : decode jdk_52_method_5_code 52 = .ok (.iand, 1) := by decide +kernel
theorem dj_53 : decode jdk_52_method_5_code 53 = .ok (.getstatic 63, 3) := by decide +kernel
theorem dj_56 : decode jdk_52_method_5_code 56 = .ok (.ishl, 1) := by decide +kernel
theorem dj_57 : decode jdk_52_method_5_code 57 = .ok (.ior, 1) := by decide +kernel
theorem dj_58 : decode jdk_52_method_5_code 58 = .ok (.i2c, 1) := by decide +kernel
theorem dj_59 : decode jdk_52_method_5_code 59 = .ok (.ireturn, 1) := by decide +kernel
def Qj (u : UInt16) (h0 : Heap) (n0 : Nat) (v : Option Value) (h : Heap) (L : List Loc) : Prop := v = some (.int (own_ch u)) ∧ Fr n0 L ∧ h = h0
theorem pnj : plainName "java/lang/StringUTF16" = true := by first | (simp [plainName, overriddenIn]; done) | decide +kernel
theorem efj (m : MethodId) (x0 : Addr) (x1 : Int32) : entryFrame m #[(.ref x0), (.int x1)] 2 = mkF m 0 #[.val (.ref x0), .val (.int x1)] [] := by first | (simp [entryFrame, mkF, argsToLocals, Value.category]; done) | rfl
set_option maxRecDepth 65536 in
set_option maxHeartbeats 40000000 in
theorem rmj (l : Launch) (Z : State) (a0 : Array Value) (hw : ∀ d ∈ tables_1, d.before a0 Z = true) (ws : List Jvm.Cond) (csx : Int32) (vF : Value) (a1 : Addr) (i : Nat) (u : UInt16) (cl : Cell) (h0 : Heap) (n0 : Nat) (Z0 : n0 ≤ h0.size) (St : own_St Z csx vF) (O0 : Old Z n0 h0) (hi : i < 2) (Ar : Arr Z h0 a1 cl .byte) (hsz : 2 * i + 1 < cl.slots.size) (ha : cl.slots[2 * i]? = some (.int (own_b0 u))) (hb' : cl.slots[2 * i + 1]? = some (.int (own_b1 u))) :
    MetFree l (⟨"java/lang/StringUTF16", "getChar", "([BI)C"⟩ : MethodName) (head1 (Jvm.Cond.code (⟨"java/lang/StringUTF16", "getChar", "([BI)C"⟩ : MethodName) jdk_52_method_5_code 2 (some .char) :: ws) ({ frames := 0, cells := 0, slots := 0, locals := 0 } : Room)) (fun a U => a = #[(.ref a1), (.int (Int32.ofNat i))] ∧ Z.Warmed39 U.vm ∧ U.heap = h0) (fun _ _ _ _ _ => True) (fun _ U o U' => ∃ v L, o = .returned v ∧ Qj u h0 n0 v U'.heap L ∧ FrameEnd U o U' L ({ frames := 0, cells := 0, slots := 0, locals := 0 } : Room).cells ({ frames := 0, cells := 0, slots := 0, locals := 0 } : Room).slots) := by
  refine MetFree.of_bodySF (plainFor_of_name pnj) hisR ?_
  intro p e s m args below meth c s₁ Bd hml0 hP hK
  obtain ⟨rfl, hZ, hh⟩ := hP
  have hx := Bd.exec
  have hby := Bd.bytes
  have hml : c.maxLocals = 2 := hml0
  have hown : s.vm.findClass "java/lang/StringUTF16" = some m.cls := findClass_of_methodNamed Bd.named
  have hnm := (name_of_methodNamed Bd.named Bd.method).1
  have X0 : Stand p l e ({ frames := 0, cells := 0, slots := 0, locals := 0 } : Room) s m #[(.ref a1), (.int (Int32.ofNat i))] below meth c s₁ [] 0 0 := Stand.of_body Bd
  have e0 : s₁.heap = h0 := by rw [← hh, Bd.state]; rfl
  have N0 := Fr.nil n0
  have pre0 : ∀ t, Steps p.tables e below (s₁.setTop (mkF m 0 #[.val (.ref a1), .val (.int (Int32.ofNat i))] [])) t → Steps p.tables e below (s₁.setTop (entryFrame m #[(.ref a1), (.int (Int32.ofNat i))] 2)) t := fun t k => castTop (efj m a1 (Int32.ofNat i)) k
  obtain ⟨T1, X1, e1, st1⟩ := getS X0 hx hZ (host := "") hown (hw _ (List.mem_of_getElem? (i := 119) rfl)) Via.refl e0 (Sta.ext O0.2 St.2.2.2.2.1) (g := (mkF m 0 #[.val (.ref a1), .val (.int (Int32.ofNat i))] [])) rfl (hb hby dj_0)
  obtain ⟨T2, X2, e2, st2⟩ := getS X1 hx hZ (host := "") hown (hw _ (List.mem_of_getElem? (i := 120) rfl)) Via.refl e1 (Sta.ext O0.2 St.2.2.2.2.2.1) (g := (mkF m 42 #[.val (.ref a1), .val (.int (((Int32.ofNat i) <<< ((1 : Int32) &&& 31)) + (1 : Int32)))] [(.int ((own_b0 u) &&& (255 : Int32)))])) rfl (hb hby dj_42)
  obtain ⟨T3, X3, e3, st3⟩ := getS X2 hx hZ (host := "") hown (hw _ (List.mem_of_getElem? (i := 121) rfl)) Via.refl e2 (Sta.ext O0.2 St.2.2.2.2.2.2) (g := (mkF m 53 #[.val (.ref a1), .val (.int (((Int32.ofNat i) <<< ((1 : Int32) &&& 31)) + (1 : Int32)))] [(.int ((own_b1 u) &&& (255 : Int32))), (.int (((own_b0 u) &&& (255 : Int32)) <<< ((0 : Int32) &&& 31)))])) rfl (hb hby dj_53)
  obtain ⟨fs, hr, hrun, hended, hW, hsame⟩ := X3.leave (v := some (.int (nar .char (((((own_b0 u) &&& (255 : Int32)) <<< ((0 : Int32) &&& 31)) ||| (((own_b1 u) &&& (255 : Int32)) <<< ((8 : Int32) &&& 31))).toUInt32.toUInt16.toUInt32.toInt32)))) (fun h => by rw [Bd.returns] at h; cases h)
  refine ⟨_, _, pre0 _ ?_, hrun, hended, _, _, rfl, ?_, ⟨_, rfl⟩, hW, hsame.mono (by decide) (by decide)⟩
  · show Steps p.tables e below (s₁.setTop (mkF m 0 #[.val (.ref a1), .val (.int (Int32.ofNat i))] [])) _
    refine st1 _ ?_
    show Steps p.tables e below (T1.setTop (mkF m 3 #[.val (.ref a1), .val (.int (Int32.ofNat i))] [(.int (1 : Int32))])) _
    refine XS.ifYes X1.here hx rfl (pc0 := 3) (pc' := 28) rfl (hb hby dj_3) rfl ((if0 _ _).trans (feq ((by decide) : ¬ ((1 : Int32) = (0 : Int32)))).2) (by decide) (by decide) ?_
    show Steps p.tables e below (T1.setTop (mkF m 28 #[.val (.ref a1), .val (.int (Int32.ofNat i))] [])) _
    refine XS.iloadN X1.here hx rfl (hb hby dj_28) rfl ?_
    show Steps p.tables e below (T1.setTop (mkF m 29 #[.val (.ref a1), .val (.int (Int32.ofNat i))] [(.int (Int32.ofNat i))])) _
    refine XS.iconst X1.here hx rfl (hb hby dj_29) ?_
    show Steps p.tables e below (T1.setTop (mkF m 30 #[.val (.ref a1), .val (.int (Int32.ofNat i))] [(.int (1 : Int32)), (.int (Int32.ofNat i))])) _
    refine XS.ishl X1.here hx rfl (hb hby dj_30) rfl ?_
    show Steps p.tables e below (T1.setTop (mkF m 31 #[.val (.ref a1), .val (.int (Int32.ofNat i))] [(.int ((Int32.ofNat i) <<< ((1 : Int32) &&& 31)))])) _
    refine XS.istoreN X1.here hx rfl (hb hby dj_31) rfl (l' := #[.val (.ref a1), .val (.int ((Int32.ofNat i) <<< ((1 : Int32) &&& 31)))]) rfl ?_
    show Steps p.tables e below (T1.setTop (mkF m 32 #[.val (.ref a1), .val (.int ((Int32.ofNat i) <<< ((1 : Int32) &&& 31)))] [])) _
    refine XS.aloadN X1.here hx rfl (hb hby dj_32) rfl rfl ?_
    show Steps p.tables e below (T1.setTop (mkF m 33 #[.val (.ref a1), .val (.int ((Int32.ofNat i) <<< ((1 : Int32) &&& 31)))] [(.ref a1)])) _
    refine XS.iloadN X1.here hx rfl (hb hby dj_33) rfl ?_
    show Steps p.tables e below (T1.setTop (mkF m 34 #[.val (.ref a1), .val (.int ((Int32.ofNat i) <<< ((1 : Int32) &&& 31)))] [(.int ((Int32.ofNat i) <<< ((1 : Int32) &&& 31))), (.ref a1)])) _
    refine XS.iinc X1.here hx rfl (hb hby dj_34) rfl (l' := #[.val (.ref a1), .val (.int (((Int32.ofNat i) <<< ((1 : Int32) &&& 31)) + (1 : Int32)))]) rfl ?_
    show Steps p.tables e below (T1.setTop (mkF m 37 #[.val (.ref a1), .val (.int (((Int32.ofNat i) <<< ((1 : Int32) &&& 31)) + (1 : Int32)))] [(.int ((Int32.ofNat i) <<< ((1 : Int32) &&& 31))), (.ref a1)])) _
    refine X1.baloadBytes hx (j := ((Int32.ofNat i) <<< ((1 : Int32) &&& 31))) (v := (.int (own_b0 u))) (by rw [e1]; exact Ar.1) (State.isArrayOf_alike hZ.alike Ar.2.1) Ar.2.2 (by rw [own_d0 i hi]; exact fun q => q.elim (own_d0n i hi) (fun q => by omega)) (by rw [own_d0 i hi]; exact ha) (g := (mkF m 37 #[.val (.ref a1), .val (.int (((Int32.ofNat i) <<< ((1 : Int32) &&& 31)) + (1 : Int32)))] [(.int ((Int32.ofNat i) <<< ((1 : Int32) &&& 31))), (.ref a1)])) rfl rfl (hb hby dj_37) _ ?_
    show Steps p.tables e below (T1.setTop (mkF m 38 #[.val (.ref a1), .val (.int (((Int32.ofNat i) <<< ((1 : Int32) &&& 31)) + (1 : Int32)))] [(.int (own_b0 u))])) _
    refine XS.sipush X1.here hx rfl (hb hby dj_38) ?_
    show Steps p.tables e below (T1.setTop (mkF m 41 #[.val (.ref a1), .val (.int (((Int32.ofNat i) <<< ((1 : Int32) &&& 31)) + (1 : Int32)))] [(.int (255 : Int32)), (.int (own_b0 u))])) _
    refine XS.iand X1.here hx rfl (hb hby dj_41) rfl ?_
    show Steps p.tables e below (T1.setTop (mkF m 42 #[.val (.ref a1), .val (.int (((Int32.ofNat i) <<< ((1 : Int32) &&& 31)) + (1 : Int32)))] [(.int ((own_b0 u) &&& (255 : Int32)))])) _
    refine st2 _ ?_
    show Steps p.tables e below (T2.setTop (mkF m 45 #[.val (.ref a1), .val (.int (((Int32.ofNat i) <<< ((1 : Int32) &&& 31)) + (1 : Int32)))] [(.int (0 : Int32)), (.int ((own_b0 u) &&& (255 : Int32)))])) _
    refine XS.ishl X2.here hx rfl (hb hby dj_45) rfl ?_
    show Steps p.tables e below (T2.setTop (mkF m 46 #[.val (.ref a1), .val (.int (((Int32.ofNat i) <<< ((1 : Int32) &&& 31)) + (1 : Int32)))] [(.int (((own_b0 u) &&& (255 : Int32)) <<< ((0 : Int32) &&& 31)))])) _
    refine XS.aloadN X2.here hx rfl (hb hby dj_46) rfl rfl ?_
    show Steps p.tables e below (T2.setTop (mkF m 47 #[.val (.ref a1), .val (.int (((Int32.ofNat i) <<< ((1 : Int32) &&& 31)) + (1 : Int32)))] [(.ref a1), (.int (((own_b0 u) &&& (255 : Int32)) <<< ((0 : Int32) &&& 31)))])) _
    refine XS.iloadN X2.here hx rfl (hb hby dj_47) rfl ?_
    show Steps p.tables e below (T2.setTop (mkF m 48 #[.val (.ref a1), .val (.int (((Int32.ofNat i) <<< ((1 : Int32) &&& 31)) + (1 : Int32)))] [(.int (((Int32.ofNat i) <<< ((1 : Int32) &&& 31)) + (1 : Int32))), (.ref a1), (.int (((own_b0 u) &&& (255 : Int32)) <<< ((0 : Int32) &&& 31)))])) _
    refine X2.baloadBytes hx (j := (((Int32.ofNat i) <<< ((1 : Int32) &&& 31)) + (1 : Int32))) (v := (.int (own_b1 u))) (by rw [e2]; exact Ar.1) (State.isArrayOf_alike hZ.alike Ar.2.1) Ar.2.2 (by rw [own_d1 i hi]; exact fun q => q.elim (own_d1n i hi) (fun q => by omega)) (by rw [own_d1 i hi]; exact hb') (g := (mkF m 48 #[.val (.ref a1), .val (.int (((Int32.ofNat i) <<< ((1 : Int32) &&& 31)) + (1 : Int32)))] [(.int (((Int32.ofNat i) <<< ((1 : Int32) &&& 31)) + (1 : Int32))), (.ref a1), (.int (((own_b0 u) &&& (255 : Int32)) <<< ((0 : Int32) &&& 31)))])) rfl rfl (hb hby dj_48) _ ?_
    show Steps p.tables e below (T2.setTop (mkF m 49 #[.val (.ref a1), .val (.int (((Int32.ofNat i) <<< ((1 : Int32) &&& 31)) + (1 : Int32)))] [(.int (own_b1 u)), (.int (((own_b0 u) &&& (255 : Int32)) <<< ((0 : Int32) &&& 31)))])) _
    refine XS.sipush X2.here hx rfl (hb hby dj_49) ?_
    show Steps p.tables e below (T2.setTop (mkF m 52 #[.val (.ref a1), .val (.int (((Int32.ofNat i) <<< ((1 : Int32) &&& 31)) + (1 : Int32)))] [(.int (255 : Int32)), (.int (own_b1 u)), (.int (((own_b0 u) &&& (255 : Int32)) <<< ((0 : Int32) &&& 31)))])) _
    refine XS.iand X2.here hx rfl (hb hby dj_52) rfl ?_
    show Steps p.tables e below (T2.setTop (mkF m 53 #[.val (.ref a1), .val (.int (((Int32.ofNat i) <<< ((1 : Int32) &&& 31)) + (1 : Int32)))] [(.int ((own_b1 u) &&& (255 : Int32))), (.int (((own_b0 u) &&& (255 : Int32)) <<< ((0 : Int32) &&& 31)))])) _
    refine st3 _ ?_
    show Steps p.tables e below (T3.setTop (mkF m 56 #[.val (.ref a1), .val (.int (((Int32.ofNat i) <<< ((1 : Int32) &&& 31)) + (1 : Int32)))] [(.int (8 : Int32)), (.int ((own_b1 u) &&& (255 : Int32))), (.int (((own_b0 u) &&& (255 : Int32)) <<< ((0 : Int32) &&& 31)))])) _
    refine XS.ishl X3.here hx rfl (hb hby dj_56) rfl ?_
    show Steps p.tables e below (T3.setTop (mkF m 57 #[.val (.ref a1), .val (.int (((Int32.ofNat i) <<< ((1 : Int32) &&& 31)) + (1 : Int32)))] [(.int (((own_b1 u) &&& (255 : Int32)) <<< ((8 : Int32) &&& 31))), (.int (((own_b0 u) &&& (255 : Int32)) <<< ((0 : Int32) &&& 31)))])) _
    refine XS.ior X3.here hx rfl (hb hby dj_57) rfl ?_
    show Steps p.tables e below (T3.setTop (mkF m 58 #[.val (.ref a1), .val (.int (((Int32.ofNat i) <<< ((1 : Int32) &&& 31)) + (1 : Int32)))] [(.int ((((own_b0 u) &&& (255 : Int32)) <<< ((0 : Int32) &&& 31)) ||| (((own_b1 u) &&& (255 : Int32)) <<< ((8 : Int32) &&& 31))))])) _
    refine XS.i2c X3.here hx rfl (hb hby dj_58) rfl ?_
    show Steps p.tables e below (T3.setTop (mkF m 59 #[.val (.ref a1), .val (.int (((Int32.ofNat i) <<< ((1 : Int32) &&& 31)) + (1 : Int32)))] [(.int (((((own_b0 u) &&& (255 : Int32)) <<< ((0 : Int32) &&& 31)) ||| (((own_b1 u) &&& (255 : Int32)) <<< ((8 : Int32) &&& 31))).toUInt32.toUInt16.toUInt32.toInt32))])) _
    exact retN X3 hx (t := .char) Bd.returns (by simp) (hb hby dj_59) hr
  · show Qj u h0 n0 _ T3.heap _
    rw [e3]
    exact ⟨by rw [own_get], N0, rfl⟩
theorem dk_0 : decode jdk_52_method_21_code 0 = .ok (.iconst 0, 1) := by decide +kernel
theorem dk_1 : decode jdk_52_method_21_code 1 = .ok (.istore 5, 2) := by decide +kernel
theorem dk_3 : decode jdk_52_method_21_code 3 = .ok (.iload 5, 2) := by decide +kernel
theorem dk_5 : decode jdk_52_method_21_code 5 = .ok (.iload 4, 2) := by decide +kernel
theorem dk_7 : decode jdk_52_method_21_code 7 = .ok (.if_icmp .ge 37, 3) := by decide +kernel
theorem dk_10 : decode jdk_52_method_21_code 10 = .ok (.aload_n 0, 1) := by decide +kernel
theorem dk_11 : decode jdk_52_method_21_code 11 = .ok (.iload_n 1, 1) := by decide +kernel
theorem dk_12 : decode jdk_52_method_21_code 12 = .ok (.caload, 1) := by decide +kernel
theorem dk_13 : decode jdk_52_method_21_code 13 = .ok (.istore 6, 2) := by decide +kernel
theorem dk_15 : decode jdk_52_method_21_code 15 = .ok (.iload 6, 2) := by decide +kernel
theorem dk_17 : decode jdk_52_method_21_code 17 = .ok (.sipush 255, 3) := by decide +kernel
theorem dk_20 : decode jdk_52_method_21_code 20 = .ok (.if_icmp .le 6, 3) := by decide +kernel
theorem dk_23 : decode jdk_52_method_21_code 23 = .ok (.iload 5, 2) := by decide +kernel
theorem dk_25 : decode jdk_52_method_21_code 25 = .ok (.ireturn, 1) := by decide +kernel
theorem dk_26 : decode jdk_52_method_21_code 26 = .ok (.aload_n 2, 1) := by decide +kernel
theorem dk_27 : decode jdk_52_method_21_code 27 = .ok (.iload_n 3, 1) := by decide +kernel
theorem dk_28 : decode jdk_52_method_21_code 28 = .ok (.iload 6, 2) := by decide +kernel
theorem dk_30 : decode jdk_52_method_21_code 30 = .ok (.i2b, 1) := by decide +kernel
theorem dk_31 : decode jdk_52_method_21_code 31 = .ok (.bastore, 1) := by decide +kernel
theorem dk_32 : decode jdk_52_method_21_code 32 = .ok (.iinc 1 1, 3) := by decide +kernel
theorem dk_35 : decode jdk_52_method_21_code 35 = .ok (.iinc 3 1, 3) := by decide +kernel
theorem dk_38 : decode jdk_52_method_21_code 38 = .ok (.iinc 5 1, 3) := by decide +kernel
theorem dk_41 : decode jdk_52_method_21_code 41 = .ok (.goto (-38), 3) := by decide +kernel
theorem dk_44 : decode jdk_52_method_21_code 44 = .ok (.iload 4, 2) := by decide +kernel
theorem dk_46 : decode jdk_52_method_21_code 46 = .ok (.ireturn, 1) := by decide +kernel
def Qk (Z : State) (u w : UInt16) (a3 : Addr) (kb : ClassId) (h0 : Heap) (n0 : Nat) (v : Option Value) (h : Heap) (L : List Loc) : Prop := Fr n0 L ∧ Keep h0 h [a3] ∧ (((255 : Int32) < own_ch u ∧ v = some (.int (0 : Int32))) ∨ (¬ (255 : Int32) < own_ch u ∧ (255 : Int32) < own_ch w ∧ v = some (.int (1 : Int32))) ∨ (¬ (255 : Int32) < own_ch u ∧ ¬ (255 : Int32) < own_ch w ∧ v = some (.int (2 : Int32)) ∧ Arv Z h a3 kb .byte (2 : Int32) [.int (own_l u), .int (own_l w)] (.int (0 : Int32))))
theorem pnk : plainName "java/lang/StringUTF16" = true := by first | (simp [plainName, overriddenIn]; done) | decide +kernel
theorem efk (m : MethodId) (x0 : Addr) (x1 : Int32) (x2 : Addr) (x3 : Int32) (x4 : Int32) : entryFrame m #[(.ref x0), (.int x1), (.ref x2), (.int x3), (.int x4)] 7 = mkF m 0 #[.val (.ref x0), .val (.int x1), .val (.ref x2), .val (.int x3), .val (.int x4), .unset, .unset] [] := by first | (simp [entryFrame, mkF, argsToLocals, Value.category]; done) | rfl
set_option maxRecDepth 65536 in
set_option maxHeartbeats 40000000 in
theorem rmk (l : Launch) (Z : State) (a0 : Array Value) (hw : ∀ d ∈ tables_1, d.before a0 Z = true) (ws : List Jvm.Cond) (a1 : Addr) (kc : ClassId) (u w : UInt16) (a3 : Addr) (kb : ClassId) (h0 : Heap) (n0 : Nat) (Z0 : n0 ≤ h0.size) (V1 : Arv Z h0 a1 kc .char (2 : Int32) [.int (own_ch u), .int (own_ch w)] (.int (0 : Int32))) (V3 : Arv Z h0 a3 kb .byte (2 : Int32) [.int (0 : Int32), .int (0 : Int32)] (.int (0 : Int32))) (ne13 : a1 ≠ a3) (gn_a3 : n0 ≤ a3) :
    MetFree l (⟨"java/lang/StringUTF16", "compress", "([CI[BII)I"⟩ : MethodName) (head1 (Jvm.Cond.code (⟨"java/lang/StringUTF16", "compress", "([CI[BII)I"⟩ : MethodName) jdk_52_method_21_code 7 (some .int) :: ws) ({ frames := 0, cells := 0, slots := 0, locals := 0 } : Room)) (fun a U => a = #[(.ref a1), (.int (0 : Int32)), (.ref a3), (.int (0 : Int32)), (.int (2 : Int32))] ∧ Z.Warmed39 U.vm ∧ U.heap = h0) (fun _ _ _ _ _ => True) (fun _ U o U' => ∃ v L, o = .returned v ∧ Qk Z u w a3 kb h0 n0 v U'.heap L ∧ FrameEnd U o U' L ({ frames := 0, cells := 0, slots := 0, locals := 0 } : Room).cells ({ frames := 0, cells := 0, slots := 0, locals := 0 } : Room).slots) := by
  refine MetFree.of_bodySF (plainFor_of_name pnk) hisR ?_
  intro p e s m args below meth c s₁ Bd hml0 hP hK
  obtain ⟨rfl, hZ, hh⟩ := hP
  have hx := Bd.exec
  have hby := Bd.bytes
  have hml : c.maxLocals = 7 := hml0
  have hown : s.vm.findClass "java/lang/StringUTF16" = some m.cls := findClass_of_methodNamed Bd.named
  have hnm := (name_of_methodNamed Bd.named Bd.method).1
  have X0 : Stand p l e ({ frames := 0, cells := 0, slots := 0, locals := 0 } : Room) s m #[(.ref a1), (.int (0 : Int32)), (.ref a3), (.int (0 : Int32)), (.int (2 : Int32))] below meth c s₁ [] 0 0 := Stand.of_body Bd
  have e0 : s₁.heap = h0 := by rw [← hh, Bd.state]; rfl
  have N0 := Fr.nil n0
  have pre0 : ∀ t, Steps p.tables e below (s₁.setTop (mkF m 0 #[.val (.ref a1), .val (.int (0 : Int32)), .val (.ref a3), .val (.int (0 : Int32)), .val (.int (2 : Int32)), .unset, .unset] [])) t → Steps p.tables e below (s₁.setTop (entryFrame m #[(.ref a1), (.int (0 : Int32)), (.ref a3), (.int (0 : Int32)), (.int (2 : Int32))] 7)) t := fun t k => castTop (efk m a1 (0 : Int32) a3 (0 : Int32) (2 : Int32)) k
  obtain ⟨cl1, Ar1, qk1, Sz1, Nn1, Hs1, Gs1⟩ := id V1
  have hin1 : ¬ ((0 : Int32) < 0 ∨ cl1.slots.size ≤ ((0 : Int32)).toNatClampNeg) := inb_of Sz1 ⟨by decide, by decide⟩
  have hat1 : cl1.slots[((0 : Int32)).toNatClampNeg]? = some (.int (own_ch u)) := Hs1 0 (by rw [Sz1]; decide)
  by_cases hc1 : (255 : Int32) < (own_ch u)
  · obtain ⟨fs, hr, hrun, hended, hW, hsame⟩ := X0.leave (v := some (.int (0 : Int32))) (fun h => by rw [Bd.returns] at h; cases h)
    refine ⟨_, _, pre0 _ ?_, hrun, hended, _, _, rfl, ?_, ⟨_, rfl⟩, hW, hsame.mono (by decide) (by decide)⟩
    · show Steps p.tables e below (s₁.setTop (mkF m 0 #[.val (.ref a1), .val (.int (0 : Int32)), .val (.ref a3), .val (.int (0 : Int32)), .val (.int (2 : Int32)), .unset, .unset] [])) _
      refine XS.iconst X0.here hx rfl (hb hby dk_0) ?_
      show Steps p.tables e below (s₁.setTop (mkF m 1 #[.val (.ref a1), .val (.int (0 : Int32)), .val (.ref a3), .val (.int (0 : Int32)), .val (.int (2 : Int32)), .unset, .unset] [(.int (0 : Int32))])) _
      refine XS.istore X0.here hx rfl (hb hby dk_1) rfl (l' := #[.val (.ref a1), .val (.int (0 : Int32)), .val (.ref a3), .val (.int (0 : Int32)), .val (.int (2 : Int32)), .val (.int (0 : Int32)), .unset]) rfl ?_
      show Steps p.tables e below (s₁.setTop (mkF m 3 #[.val (.ref a1), .val (.int (0 : Int32)), .val (.ref a3), .val (.int (0 : Int32)), .val (.int (2 : Int32)), .val (.int (0 : Int32)), .unset] [])) _
      refine XS.iload X0.here hx rfl (hb hby dk_3) rfl ?_
      show Steps p.tables e below (s₁.setTop (mkF m 5 #[.val (.ref a1), .val (.int (0 : Int32)), .val (.ref a3), .val (.int (0 : Int32)), .val (.int (2 : Int32)), .val (.int (0 : Int32)), .unset] [(.int (0 : Int32))])) _
      refine XS.iload X0.here hx rfl (hb hby dk_5) rfl ?_
      show Steps p.tables e below (s₁.setTop (mkF m 7 #[.val (.ref a1), .val (.int (0 : Int32)), .val (.ref a3), .val (.int (0 : Int32)), .val (.int (2 : Int32)), .val (.int (0 : Int32)), .unset] [(.int (2 : Int32)), (.int (0 : Int32))])) _
      refine XS.icmpNo X0.here hx rfl (hb hby dk_7) rfl (tlt ((by decide) : (0 : Int32) < (2 : Int32))).2.1 ?_
      show Steps p.tables e below (s₁.setTop (mkF m 10 #[.val (.ref a1), .val (.int (0 : Int32)), .val (.ref a3), .val (.int (0 : Int32)), .val (.int (2 : Int32)), .val (.int (0 : Int32)), .unset] [])) _
      refine XS.aloadN X0.here hx rfl (hb hby dk_10) rfl rfl ?_
      show Steps p.tables e below (s₁.setTop (mkF m 11 #[.val (.ref a1), .val (.int (0 : Int32)), .val (.ref a3), .val (.int (0 : Int32)), .val (.int (2 : Int32)), .val (.int (0 : Int32)), .unset] [(.ref a1)])) _
      refine XS.iloadN X0.here hx rfl (hb hby dk_11) rfl ?_
      show Steps p.tables e below (s₁.setTop (mkF m 12 #[.val (.ref a1), .val (.int (0 : Int32)), .val (.ref a3), .val (.int (0 : Int32)), .val (.int (2 : Int32)), .val (.int (0 : Int32)), .unset] [(.int (0 : Int32)), (.ref a1)])) _
      refine X0.caload hx (j := (0 : Int32)) (v := (.int (own_ch u))) (by rw [e0]; exact Ar1.1) (State.isArrayOf_alike hZ.alike Ar1.2.1) Ar1.2.2 hin1 hat1 (g := (mkF m 12 #[.val (.ref a1), .val (.int (0 : Int32)), .val (.ref a3), .val (.int (0 : Int32)), .val (.int (2 : Int32)), .val (.int (0 : Int32)), .unset] [(.int (0 : Int32)), (.ref a1)])) rfl rfl (hb hby dk_12) _ ?_
      show Steps p.tables e below (s₁.setTop (mkF m 13 #[.val (.ref a1), .val (.int (0 : Int32)), .val (.ref a3), .val (.int (0 : Int32)), .val (.int (2 : Int32)), .val (.int (0 : Int32)), .unset] [(.int (own_ch u))])) _
      refine XS.istore X0.here hx rfl (hb hby dk_13) rfl (l' := #[.val (.ref a1), .val (.int (0 : Int32)), .val (.ref a3), .val (.int (0 : Int32)), .val (.int (2 : Int32)), .val (.int (0 : Int32)), .val (.int (own_ch u))]) rfl ?_
      show Steps p.tables e below (s₁.setTop (mkF m 15 #[.val (.ref a1), .val (.int (0 : Int32)), .val (.ref a3), .val (.int (0 : Int32)), .val (.int (2 : Int32)), .val (.int (0 : Int32)), .val (.int (own_ch u))] [])) _
      refine XS.iload X0.here hx rfl (hb hby dk_15) rfl ?_
      show Steps p.tables e below (s₁.setTop (mkF m 17 #[.val (.ref a1), .val (.int (0 : Int32)), .val (.ref a3), .val (.int (0 : Int32)), .val (.int (2 : Int32)), .val (.int (0 : Int32)), .val (.int (own_ch u))] [(.int (own_ch u))])) _
      refine XS.sipush X0.here hx rfl (hb hby dk_17) ?_
      show Steps p.tables e below (s₁.setTop (mkF m 20 #[.val (.ref a1), .val (.int (0 : Int32)), .val (.ref a3), .val (.int (0 : Int32)), .val (.int (2 : Int32)), .val (.int (0 : Int32)), .val (.int (own_ch u))] [(.int (255 : Int32)), (.int (own_ch u))])) _
      refine XS.icmpNo X0.here hx rfl (hb hby dk_20) rfl (tlt (hc1 : (255 : Int32) < (own_ch u))).2.2.2 ?_
      show Steps p.tables e below (s₁.setTop (mkF m 23 #[.val (.ref a1), .val (.int (0 : Int32)), .val (.ref a3), .val (.int (0 : Int32)), .val (.int (2 : Int32)), .val (.int (0 : Int32)), .val (.int (own_ch u))] [])) _
      refine XS.iload X0.here hx rfl (hb hby dk_23) rfl ?_
      show Steps p.tables e below (s₁.setTop (mkF m 25 #[.val (.ref a1), .val (.int (0 : Int32)), .val (.ref a3), .val (.int (0 : Int32)), .val (.int (2 : Int32)), .val (.int (0 : Int32)), .val (.int (own_ch u))] [(.int (0 : Int32))])) _
      exact retI X0 hx Bd.returns (hb hby dk_25) hr
    · show Qk Z u w a3 kb h0 n0 _ s₁.heap _
      rw [e0]
      exact ⟨N0, (Keep.refl h0 [a3]), Or.inl ⟨hc1, rfl⟩⟩
  · obtain ⟨cl2, Ar2, q2, Sz2, Nn2, Hs2, Gs2⟩ := V3
    have hin2 : ¬ ((0 : Int32) < 0 ∨ cl2.slots.size ≤ ((0 : Int32)).toNatClampNeg) := inb_of Sz2 ⟨by decide, by decide⟩
    obtain ⟨T3, h3, X3, e3, W3, st3⟩ := stB X0 hx hZ e0 Ar2 (j := (0 : Int32)) hin2 (g := (mkF m 31 #[.val (.ref a1), .val (.int (0 : Int32)), .val (.ref a3), .val (.int (0 : Int32)), .val (.int (2 : Int32)), .val (.int (0 : Int32)), .val (.int (own_ch u))] [(.int ((own_ch u).toInt8.toInt32)), (.int (0 : Int32)), (.ref a3)])) rfl rfl (hb hby dk_31)
    have V3_W3 := Arv.set Ar2 q2 Sz2 Nn2 Hs2 Gs2 (fits_nar_byte _) W3 0 rfl (Nat.le_of_ble_eq_true rfl)
    have V1_W3 := V1.other W3 ne13
    have N3 := Fr.snoc X3 N0 gn_a3
    have Zs3 : n0 ≤ h3.size := Nat.le_trans Z0 (Keep.of_wr W3).1
    have Kp3 := (Keep.refl h0 [a3]).wr W3 (Or.inl (List.mem_of_getElem? (i := 0) rfl))
    obtain ⟨cl4, Ar4, qk4, Sz4, Nn4, Hs4, Gs4⟩ := id V1_W3
    have hin4 : ¬ ((1 : Int32) < 0 ∨ cl4.slots.size ≤ ((1 : Int32)).toNatClampNeg) := inb_of Sz4 ⟨by decide, by decide⟩
    have hat4 : cl4.slots[((1 : Int32)).toNatClampNeg]? = some (.int (own_ch w)) := Hs4 1 (by rw [Sz4]; decide)
    by_cases hc2 : (255 : Int32) < (own_ch w)
    · obtain ⟨fs, hr, hrun, hended, hW, hsame⟩ := X3.leave (v := some (.int (1 : Int32))) (fun h => by rw [Bd.returns] at h; cases h)
      refine ⟨_, _, pre0 _ ?_, hrun, hended, _, _, rfl, ?_, ⟨_, rfl⟩, hW, hsame.mono (by decide) (by decide)⟩
      · show Steps p.tables e below (s₁.setTop (mkF m 0 #[.val (.ref a1), .val (.int (0 : Int32)), .val (.ref a3), .val (.int (0 : Int32)), .val (.int (2 : Int32)), .unset, .unset] [])) _
        refine XS.iconst X0.here hx rfl (hb hby dk_0) ?_
        show Steps p.tables e below (s₁.setTop (mkF m 1 #[.val (.ref a1), .val (.int (0 : Int32)), .val (.ref a3), .val (.int (0 : Int32)), .val (.int (2 : Int32)), .unset, .unset] [(.int (0 : Int32))])) _
        refine XS.istore X0.here hx rfl (hb hby dk_1) rfl (l' := #[.val (.ref a1), .val (.int (0 : Int32)), .val (.ref a3), .val (.int (0 : Int32)), .val (.int (2 : Int32)), .val (.int (0 : Int32)), .unset]) rfl ?_
        show Steps p.tables e below (s₁.setTop (mkF m 3 #[.val (.ref a1), .val (.int (0 : Int32)), .val (.ref a3), .val (.int (0 : Int32)), .val (.int (2 : Int32)), .val (.int (0 : Int32)), .unset] [])) _
        refine XS.iload X0.here hx rfl (hb hby dk_3) rfl ?_
        show Steps p.tables e below (s₁.setTop (mkF m 5 #[.val (.ref a1), .val (.int (0 : Int32)), .val (.ref a3), .val (.int (0 : Int32)), .val (.int (2 : Int32)), .val (.int (0 : Int32)), .unset] [(.int (0 : Int32))])) _
        refine XS.iload X0.here hx rfl (hb hby dk_5) rfl ?_
        show Steps p.tables e below (s₁.setTop (mkF m 7 #[.val (.ref a1), .val (.int (0 : Int32)), .val (.ref a3), .val (.int (0 : Int32)), .val (.int (2 : Int32)), .val (.int (0 : Int32)), .unset] [(.int (2 : Int32)), (.int (0 : Int32))])) _
        refine XS.icmpNo X0.here hx rfl (hb hby dk_7) rfl (tlt ((by decide) : (0 : Int32) < (2 : Int32))).2.1 ?_
        show Steps p.tables e below (s₁.setTop (mkF m 10 #[.val (.ref a1), .val (.int (0 : Int32)), .val (.ref a3), .val (.int (0 : Int32)), .val (.int (2 : Int32)), .val (.int (0 : Int32)), .unset] [])) _
        refine XS.aloadN X0.here hx rfl (hb hby dk_10) rfl rfl ?_
        show Steps p.tables e below (s₁.setTop (mkF m 11 #[.val (.ref a1), .val (.int (0 : Int32)), .val (.ref a3), .val (.int (0 : Int32)), .val (.int (2 : Int32)), .val (.int (0 : Int32)), .unset] [(.ref a1)])) _
        refine XS.iloadN X0.here hx rfl (hb hby dk_11) rfl ?_
        show Steps p.tables e below (s₁.setTop (mkF m 12 #[.val (.ref a1), .val (.int (0 : Int32)), .val (.ref a3), .val (.int (0 : Int32)), .val (.int (2 : Int32)), .val (.int (0 : Int32)), .unset] [(.int (0 : Int32)), (.ref a1)])) _
        refine X0.caload hx (j := (0 : Int32)) (v := (.int (own_ch u))) (by rw [e0]; exact Ar1.1) (State.isArrayOf_alike hZ.alike Ar1.2.1) Ar1.2.2 hin1 hat1 (g := (mkF m 12 #[.val (.ref a1), .val (.int (0 : Int32)), .val (.ref a3), .val (.int (0 : Int32)), .val (.int (2 : Int32)), .val (.int (0 : Int32)), .unset] [(.int (0 : Int32)), (.ref a1)])) rfl rfl (hb hby dk_12) _ ?_
        show Steps p.tables e below (s₁.setTop (mkF m 13 #[.val (.ref a1), .val (.int (0 : Int32)), .val (.ref a3), .val (.int (0 : Int32)), .val (.int (2 : Int32)), .val (.int (0 : Int32)), .unset] [(.int (own_ch u))])) _
        refine XS.istore X0.here hx rfl (hb hby dk_13) rfl (l' := #[.val (.ref a1), .val (.int (0 : Int32)), .val (.ref a3), .val (.int (0 : Int32)), .val (.int (2 : Int32)), .val (.int (0 : Int32)), .val (.int (own_ch u))]) rfl ?_
        show Steps p.tables e below (s₁.setTop (mkF m 15 #[.val (.ref a1), .val (.int (0 : Int32)), .val (.ref a3), .val (.int (0 : Int32)), .val (.int (2 : Int32)), .val (.int (0 : Int32)), .val (.int (own_ch u))] [])) _
        refine XS.iload X0.here hx rfl (hb hby dk_15) rfl ?_
        show Steps p.tables e below (s₁.setTop (mkF m 17 #[.val (.ref a1), .val (.int (0 : Int32)), .val (.ref a3), .val (.int (0 : Int32)), .val (.int (2 : Int32)), .val (.int (0 : Int32)), .val (.int (own_ch u))] [(.int (own_ch u))])) _
        refine XS.sipush X0.here hx rfl (hb hby dk_17) ?_
        show Steps p.tables e below (s₁.setTop (mkF m 20 #[.val (.ref a1), .val (.int (0 : Int32)), .val (.ref a3), .val (.int (0 : Int32)), .val (.int (2 : Int32)), .val (.int (0 : Int32)), .val (.int (own_ch u))] [(.int (255 : Int32)), (.int (own_ch u))])) _
        refine XS.icmpYes X0.here hx rfl (pc0 := 20) (pc' := 26) rfl (hb hby dk_20) rfl (flt (hc1 : ¬ ((255 : Int32) < (own_ch u)))).2.2.2 (by decide) (by decide) ?_
        show Steps p.tables e below (s₁.setTop (mkF m 26 #[.val (.ref a1), .val (.int (0 : Int32)), .val (.ref a3), .val (.int (0 : Int32)), .val (.int (2 : Int32)), .val (.int (0 : Int32)), .val (.int (own_ch u))] [])) _
        refine XS.aloadN X0.here hx rfl (hb hby dk_26) rfl rfl ?_
        show Steps p.tables e below (s₁.setTop (mkF m 27 #[.val (.ref a1), .val (.int (0 : Int32)), .val (.ref a3), .val (.int (0 : Int32)), .val (.int (2 : Int32)), .val (.int (0 : Int32)), .val (.int (own_ch u))] [(.ref a3)])) _
        refine XS.iloadN X0.here hx rfl (hb hby dk_27) rfl ?_
        show Steps p.tables e below (s₁.setTop (mkF m 28 #[.val (.ref a1), .val (.int (0 : Int32)), .val (.ref a3), .val (.int (0 : Int32)), .val (.int (2 : Int32)), .val (.int (0 : Int32)), .val (.int (own_ch u))] [(.int (0 : Int32)), (.ref a3)])) _
        refine XS.iload X0.here hx rfl (hb hby dk_28) rfl ?_
        show Steps p.tables e below (s₁.setTop (mkF m 30 #[.val (.ref a1), .val (.int (0 : Int32)), .val (.ref a3), .val (.int (0 : Int32)), .val (.int (2 : Int32)), .val (.int (0 : Int32)), .val (.int (own_ch u))] [(.int (own_ch u)), (.int (0 : Int32)), (.ref a3)])) _
        refine XS.i2b X0.here hx rfl (hb hby dk_30) rfl ?_
        show Steps p.tables e below (s₁.setTop (mkF m 31 #[.val (.ref a1), .val (.int (0 : Int32)), .val (.ref a3), .val (.int (0 : Int32)), .val (.int (2 : Int32)), .val (.int (0 : Int32)), .val (.int (own_ch u))] [(.int ((own_ch u).toInt8.toInt32)), (.int (0 : Int32)), (.ref a3)])) _
        refine st3 _ ?_
        show Steps p.tables e below (T3.setTop (mkF m 32 #[.val (.ref a1), .val (.int (0 : Int32)), .val (.ref a3), .val (.int (0 : Int32)), .val (.int (2 : Int32)), .val (.int (0 : Int32)), .val (.int (own_ch u))] [])) _
        refine XS.iinc X3.here hx rfl (hb hby dk_32) rfl (l' := #[.val (.ref a1), .val (.int ((0 : Int32) + (1 : Int32))), .val (.ref a3), .val (.int (0 : Int32)), .val (.int (2 : Int32)), .val (.int (0 : Int32)), .val (.int (own_ch u))]) rfl ?_
        show Steps p.tables e below (T3.setTop (mkF m 35 #[.val (.ref a1), .val (.int ((0 : Int32) + (1 : Int32))), .val (.ref a3), .val (.int (0 : Int32)), .val (.int (2 : Int32)), .val (.int (0 : Int32)), .val (.int (own_ch u))] [])) _
        refine XS.iinc X3.here hx rfl (hb hby dk_35) rfl (l' := #[.val (.ref a1), .val (.int ((0 : Int32) + (1 : Int32))), .val (.ref a3), .val (.int ((0 : Int32) + (1 : Int32))), .val (.int (2 : Int32)), .val (.int (0 : Int32)), .val (.int (own_ch u))]) rfl ?_
        show Steps p.tables e below (T3.setTop (mkF m 38 #[.val (.ref a1), .val (.int ((0 : Int32) + (1 : Int32))), .val (.ref a3), .val (.int ((0 : Int32) + (1 : Int32))), .val (.int (2 : Int32)), .val (.int (0 : Int32)), .val (.int (own_ch u))] [])) _
        refine XS.iinc X3.here hx rfl (hb hby dk_38) rfl (l' := #[.val (.ref a1), .val (.int ((0 : Int32) + (1 : Int32))), .val (.ref a3), .val (.int ((0 : Int32) + (1 : Int32))), .val (.int (2 : Int32)), .val (.int ((0 : Int32) + (1 : Int32))), .val (.int (own_ch u))]) rfl ?_
        show Steps p.tables e below (T3.setTop (mkF m 41 #[.val (.ref a1), .val (.int ((0 : Int32) + (1 : Int32))), .val (.ref a3), .val (.int ((0 : Int32) + (1 : Int32))), .val (.int (2 : Int32)), .val (.int ((0 : Int32) + (1 : Int32))), .val (.int (own_ch u))] [])) _
        rw [(show (0 : Int32) + (1 : Int32) = 1 from by decide)]
        show Steps p.tables e below (T3.setTop (mkF m 41 #[.val (.ref a1), .val (.int (1 : Int32)), .val (.ref a3), .val (.int (1 : Int32)), .val (.int (2 : Int32)), .val (.int (1 : Int32)), .val (.int (own_ch u))] [])) _
        refine XS.goto X3.here hx rfl (pc0 := 41) (pc' := 3) rfl (hb hby dk_41) (by decide) (by decide) ?_
        show Steps p.tables e below (T3.setTop (mkF m 3 #[.val (.ref a1), .val (.int (1 : Int32)), .val (.ref a3), .val (.int (1 : Int32)), .val (.int (2 : Int32)), .val (.int (1 : Int32)), .val (.int (own_ch u))] [])) _
        refine XS.iload X3.here hx rfl (hb hby dk_3) rfl ?_
        show Steps p.tables e below (T3.setTop (mkF m 5 #[.val (.ref a1), .val (.int (1 : Int32)), .val (.ref a3), .val (.int (1 : Int32)), .val (.int (2 : Int32)), .val (.int (1 : Int32)), .val (.int (own_ch u))] [(.int (1 : Int32))])) _
        refine XS.iload X3.here hx rfl (hb hby dk_5) rfl ?_
        show Steps p.tables e below (T3.setTop (mkF m 7 #[.val (.ref a1), .val (.int (1 : Int32)), .val (.ref a3), .val (.int (1 : Int32)), .val (.int (2 : Int32)), .val (.int (1 : Int32)), .val (.int (own_ch u))] [(.int (2 : Int32)), (.int (1 : Int32))])) _
        refine XS.icmpNo X3.here hx rfl (hb hby dk_7) rfl (tlt ((by decide) : (1 : Int32) < (2 : Int32))).2.1 ?_
        show Steps p.tables e below (T3.setTop (mkF m 10 #[.val (.ref a1), .val (.int (1 : Int32)), .val (.ref a3), .val (.int (1 : Int32)), .val (.int (2 : Int32)), .val (.int (1 : Int32)), .val (.int (own_ch u))] [])) _
        refine XS.aloadN X3.here hx rfl (hb hby dk_10) rfl rfl ?_
        show Steps p.tables e below (T3.setTop (mkF m 11 #[.val (.ref a1), .val (.int (1 : Int32)), .val (.ref a3), .val (.int (1 : Int32)), .val (.int (2 : Int32)), .val (.int (1 : Int32)), .val (.int (own_ch u))] [(.ref a1)])) _
        refine XS.iloadN X3.here hx rfl (hb hby dk_11) rfl ?_
        show Steps p.tables e below (T3.setTop (mkF m 12 #[.val (.ref a1), .val (.int (1 : Int32)), .val (.ref a3), .val (.int (1 : Int32)), .val (.int (2 : Int32)), .val (.int (1 : Int32)), .val (.int (own_ch u))] [(.int (1 : Int32)), (.ref a1)])) _
        refine X3.caload hx (j := (1 : Int32)) (v := (.int (own_ch w))) (by rw [e3]; exact Ar4.1) (State.isArrayOf_alike hZ.alike Ar4.2.1) Ar4.2.2 hin4 hat4 (g := (mkF m 12 #[.val (.ref a1), .val (.int (1 : Int32)), .val (.ref a3), .val (.int (1 : Int32)), .val (.int (2 : Int32)), .val (.int (1 : Int32)), .val (.int (own_ch u))] [(.int (1 : Int32)), (.ref a1)])) rfl rfl (hb hby dk_12) _ ?_
        show Steps p.tables e below (T3.setTop (mkF m 13 #[.val (.ref a1), .val (.int (1 : Int32)), .val (.ref a3), .val (.int (1 : Int32)), .val (.int (2 : Int32)), .val (.int (1 : Int32)), .val (.int (own_ch u))] [(.int (own_ch w))])) _
        refine XS.istore X3.here hx rfl (hb hby dk_13) rfl (l' := #[.val (.ref a1), .val (.int (1 : Int32)), .val (.ref a3), .val (.int (1 : Int32)), .val (.int (2 : Int32)), .val (.int (1 : Int32)), .val (.int (own_ch w))]) rfl ?_
        show Steps p.tables e below (T3.setTop (mkF m 15 #[.val (.ref a1), .val (.int (1 : Int32)), .val (.ref a3), .val (.int (1 : Int32)), .val (.int (2 : Int32)), .val (.int (1 : Int32)), .val (.int (own_ch w))] [])) _
        refine XS.iload X3.here hx rfl (hb hby dk_15) rfl ?_
        show Steps p.tables e below (T3.setTop (mkF m 17 #[.val (.ref a1), .val (.int (1 : Int32)), .val (.ref a3), .val (.int (1 : Int32)), .val (.int (2 : Int32)), .val (.int (1 : Int32)), .val (.int (own_ch w))] [(.int (own_ch w))])) _
        refine XS.sipush X3.here hx rfl (hb hby dk_17) ?_
        show Steps p.tables e below (T3.setTop (mkF m 20 #[.val (.ref a1), .val (.int (1 : Int32)), .val (.ref a3), .val (.int (1 : Int32)), .val (.int (2 : Int32)), .val (.int (1 : Int32)), .val (.int (own_ch w))] [(.int (255 : Int32)), (.int (own_ch w))])) _
        refine XS.icmpNo X3.here hx rfl (hb hby dk_20) rfl (tlt (hc2 : (255 : Int32) < (own_ch w))).2.2.2 ?_
        show Steps p.tables e below (T3.setTop (mkF m 23 #[.val (.ref a1), .val (.int (1 : Int32)), .val (.ref a3), .val (.int (1 : Int32)), .val (.int (2 : Int32)), .val (.int (1 : Int32)), .val (.int (own_ch w))] [])) _
        refine XS.iload X3.here hx rfl (hb hby dk_23) rfl ?_
        show Steps p.tables e below (T3.setTop (mkF m 25 #[.val (.ref a1), .val (.int (1 : Int32)), .val (.ref a3), .val (.int (1 : Int32)), .val (.int (2 : Int32)), .val (.int (1 : Int32)), .val (.int (own_ch w))] [(.int (1 : Int32))])) _
        exact retI X3 hx Bd.returns (hb hby dk_25) hr
      · show Qk Z u w a3 kb h0 n0 _ T3.heap _
        rw [e3]
        exact ⟨N3, Kp3, Or.inr (Or.inl ⟨hc1, hc2, rfl⟩)⟩
    · obtain ⟨cl5, Ar5, q5, Sz5, Nn5, Hs5, Gs5⟩ := V3_W3
      have hin5 : ¬ ((1 : Int32) < 0 ∨ cl5.slots.size ≤ ((1 : Int32)).toNatClampNeg) := inb_of Sz5 ⟨by decide, by decide⟩
      obtain ⟨T6, h6, X6, e6, W6, st6⟩ := stB X3 hx hZ e3 Ar5 (j := (1 : Int32)) hin5 (g := (mkF m 31 #[.val (.ref a1), .val (.int (1 : Int32)), .val (.ref a3), .val (.int (1 : Int32)), .val (.int (2 : Int32)), .val (.int (1 : Int32)), .val (.int (own_ch w))] [(.int ((own_ch w).toInt8.toInt32)), (.int (1 : Int32)), (.ref a3)])) rfl rfl (hb hby dk_31)
      have V3_W6 := Arv.set Ar5 q5 Sz5 Nn5 Hs5 Gs5 (fits_nar_byte _) W6 1 rfl (Nat.le_of_ble_eq_true rfl)
      have V1_W6 := V1_W3.other W6 ne13
      have N6 := Fr.snoc X6 N3 gn_a3
      have Zs6 : n0 ≤ h6.size := Nat.le_trans Zs3 (Keep.of_wr W6).1
      have Kp6 := Kp3.wr W6 (Or.inl (List.mem_of_getElem? (i := 0) rfl))
      obtain ⟨fs, hr, hrun, hended, hW, hsame⟩ := X6.leave (v := some (.int (2 : Int32))) (fun h => by rw [Bd.returns] at h; cases h)
      refine ⟨_, _, pre0 _ ?_, hrun, hended, _, _, rfl, ?_, ⟨_, rfl⟩, hW, hsame.mono (by decide) (by decide)⟩
      · show Steps p.tables e below (s₁.setTop (mkF m 0 #[.val (.ref a1), .val (.int (0 : Int32)), .val (.ref a3), .val (.int (0 : Int32)), .val (.int (2 : Int32)), .unset, .unset] [])) _
        refine XS.iconst X0.here hx rfl (hb hby dk_0) ?_
        show Steps p.tables e below (s₁.setTop (mkF m 1 #[.val (.ref a1), .val (.int (0 : Int32)), .val (.ref a3), .val (.int (0 : Int32)), .val (.int (2 : Int32)), .unset, .unset] [(.int (0 : Int32))])) _
        refine XS.istore X0.here hx rfl (hb hby dk_1) rfl (l' := #[.val (.ref a1), .val (.int (0 : Int32)), .val (.ref a3), .val (.int (0 : Int32)), .val (.int (2 : Int32)), .val (.int (0 : Int32)), .unset]) rfl ?_
        show Steps p.tables e below (s₁.setTop (mkF m 3 #[.val (.ref a1), .val (.int (0 : Int32)), .val (.ref a3), .val (.int (0 : Int32)), .val (.int (2 : Int32)), .val (.int (0 : Int32)), .unset] [])) _
        refine XS.iload X0.here hx rfl (hb hby dk_3) rfl ?_
        show Steps p.tables e below (s₁.setTop (mkF m 5 #[.val (.ref a1), .val (.int (0 : Int32)), .val (.ref a3), .val (.int (0 : Int32)), .val (.int (2 : Int32)), .val (.int (0 : Int32)), .unset] [(.int (0 : Int32))])) _
        refine XS.iload X0.here hx rfl (hb hby dk_5) rfl ?_
        show Steps p.tables e below (s₁.setTop (mkF m 7 #[.val (.ref a1), .val (.int (0 : Int32)), .val (.ref a3), .val (.int (0 : Int32)), .val (.int (2 : Int32)), .val (.int (0 : Int32)), .unset] [(.int (2 : Int32)), (.int (0 : Int32))])) _
        refine XS.icmpNo X0.here hx rfl (hb hby dk_7) rfl (tlt ((by decide) : (0 : Int32) < (2 : Int32))).2.1 ?_
        show Steps p.tables e below (s₁.setTop (mkF m 10 #[.val (.ref a1), .val (.int (0 : Int32)), .val (.ref a3), .val (.int (0 : Int32)), .val (.int (2 : Int32)), .val (.int (0 : Int32)), .unset] [])) _
        refine XS.aloadN X0.here hx rfl (hb hby dk_10) rfl rfl ?_
        show Steps p.tables e below (s₁.setTop (mkF m 11 #[.val (.ref a1), .val (.int (0 : Int32)), .val (.ref a3), .val (.int (0 : Int32)), .val (.int (2 : Int32)), .val (.int (0 : Int32)), .unset] [(.ref a1)])) _
        refine XS.iloadN X0.here hx rfl (hb hby dk_11) rfl ?_
        show Steps p.tables e below (s₁.setTop (mkF m 12 #[.val (.ref a1), .val (.int (0 : Int32)), .val (.ref a3), .val (.int (0 : Int32)), .val (.int (2 : Int32)), .val (.int (0 : Int32)), .unset] [(.int (0 : Int32)), (.ref a1)])) _
        refine X0.caload hx (j := (0 : Int32)) (v := (.int (own_ch u))) (by rw [e0]; exact Ar1.1) (State.isArrayOf_alike hZ.alike Ar1.2.1) Ar1.2.2 hin1 hat1 (g := (mkF m 12 #[.val (.ref a1), .val (.int (0 : Int32)), .val (.ref a3), .val (.int (0 : Int32)), .val (.int (2 : Int32)), .val (.int (0 : Int32)), .unset] [(.int (0 : Int32)), (.ref a1)])) rfl rfl (hb hby dk_12) _ ?_
        show Steps p.tables e below (s₁.setTop (mkF m 13 #[.val (.ref a1), .val (.int (0 : Int32)), .val (.ref a3), .val (.int (0 : Int32)), .val (.int (2 : Int32)), .val (.int (0 : Int32)), .unset] [(.int (own_ch u))])) _
        refine XS.istore X0.here hx rfl (hb hby dk_13) rfl (l' := #[.val (.ref a1), .val (.int (0 : Int32)), .val (.ref a3), .val (.int (0 : Int32)), .val (.int (2 : Int32)), .val (.int (0 : Int32)), .val (.int (own_ch u))]) rfl ?_
        show Steps p.tables e below (s₁.setTop (mkF m 15 #[.val (.ref a1), .val (.int (0 : Int32)), .val (.ref a3), .val (.int (0 : Int32)), .val (.int (2 : Int32)), .val (.int (0 : Int32)), .val (.int (own_ch u))] [])) _
        refine XS.iload X0.here hx rfl (hb hby dk_15) rfl ?_
        show Steps p.tables e below (s₁.setTop (mkF m 17 #[.val (.ref a1), .val (.int (0 : Int32)), .val (.ref a3), .val (.int (0 : Int32)), .val (.int (2 : Int32)), .val (.int (0 : Int32)), .val (.int (own_ch u))] [(.int (own_ch u))])) _
        refine XS.sipush X0.here hx rfl (hb hby dk_17) ?_
        show Steps p.tables e below (s₁.setTop (mkF m 20 #[.val (.ref a1), .val (.int (0 : Int32)), .val (.ref a3), .val (.int (0 : Int32)), .val (.int (2 : Int32)), .val (.int (0 : Int32)), .val (.int (own_ch u))] [(.int (255 : Int32)), (.int (own_ch u))])) _
        refine XS.icmpYes X0.here hx rfl (pc0 := 20) (pc' := 26) rfl (hb hby dk_20) rfl (flt (hc1 : ¬ ((255 : Int32) < (own_ch u)))).2.2.2 (by decide) (by decide) ?_
        show Steps p.tables e below (s₁.setTop (mkF m 26 #[.val (.ref a1), .val (.int (0 : Int32)), .val (.ref a3), .val (.int (0 : Int32)), .val (.int (2 : Int32)), .val (.int (0 : Int32)), .val (.int (own_ch u))] [])) _
        refine XS.aloadN X0.here hx rfl (hb hby dk_26) rfl rfl ?_
        show Steps p.tables e below (s₁.setTop (mkF m 27 #[.val (.ref a1), .val (.int (0 : Int32)), .val (.ref a3), .val (.int (0 : Int32)), .val (.int (2 : Int32)), .val (.int (0 : Int32)), .val (.int (own_ch u))] [(.ref a3)])) _
        refine XS.iloadN X0.here hx rfl (hb hby dk_27) rfl ?_
        show Steps p.tables e below (s₁.setTop (mkF m 28 #[.val (.ref a1), .val (.int (0 : Int32)), .val (.ref a3), .val (.int (0 : Int32)), .val (.int (2 : Int32)), .val (.int (0 : Int32)), .val (.int (own_ch u))] [(.int (0 : Int32)), (.ref a3)])) _
        refine XS.iload X0.here hx rfl (hb hby dk_28) rfl ?_
        show Steps p.tables e below (s₁.setTop (mkF m 30 #[.val (.ref a1), .val (.int (0 : Int32)), .val (.ref a3), .val (.int (0 : Int32)), .val (.int (2 : Int32)), .val (.int (0 : Int32)), .val (.int (own_ch u))] [(.int (own_ch u)), (.int (0 : Int32)), (.ref a3)])) _
        refine XS.i2b X0.here hx rfl (hb hby dk_30) rfl ?_
        show Steps p.tables e below (s₁.setTop (mkF m 31 #[.val (.ref a1), .val (.int (0 : Int32)), .val (.ref a3), .val (.int (0 : Int32)), .val (.int (2 : Int32)), .val (.int (0 : Int32)), .val (.int (own_ch u))] [(.int ((own_ch u).toInt8.toInt32)), (.int (0 : Int32)), (.ref a3)])) _
        refine st3 _ ?_
        show Steps p.tables e below (T3.setTop (mkF m 32 #[.val (.ref a1), .val (.int (0 : Int32)), .val (.ref a3), .val (.int (0 : Int32)), .val (.int (2 : Int32)), .val (.int (0 : Int32)), .val (.int (own_ch u))] [])) _
        refine XS.iinc X3.here hx rfl (hb hby dk_32) rfl (l' := #[.val (.ref a1), .val (.int ((0 : Int32) + (1 : Int32))), .val (.ref a3), .val (.int (0 : Int32)), .val (.int (2 : Int32)), .val (.int (0 : Int32)), .val (.int (own_ch u))]) rfl ?_
        show Steps p.tables e below (T3.setTop (mkF m 35 #[.val (.ref a1), .val (.int ((0 : Int32) + (1 : Int32))), .val (.ref a3), .val (.int (0 : Int32)), .val (.int (2 : Int32)), .val (.int (0 : Int32)), .val (.int (own_ch u))] [])) _
        refine XS.iinc X3.here hx rfl (hb hby dk_35) rfl (l' := #[.val (.ref a1), .val (.int ((0 : Int32) + (1 : Int32))), .val (.ref a3), .val (.int ((0 : Int32) + (1 : Int32))), .val (.int (2 : Int32)), .val (.int (0 : Int32)), .val (.int (own_ch u))]) rfl ?_
        show Steps p.tables e below (T3.setTop (mkF m 38 #[.val (.ref a1), .val (.int ((0 : Int32) + (1 : Int32))), .val (.ref a3), .val (.int ((0 : Int32) + (1 : Int32))), .val (.int (2 : Int32)), .val (.int (0 : Int32)), .val (.int (own_ch u))] [])) _
        refine XS.iinc X3.here hx rfl (hb hby dk_38) rfl (l' := #[.val (.ref a1), .val (.int ((0 : Int32) + (1 : Int32))), .val (.ref a3), .val (.int ((0 : Int32) + (1 : Int32))), .val (.int (2 : Int32)), .val (.int ((0 : Int32) + (1 : Int32))), .val (.int (own_ch u))]) rfl ?_
        show Steps p.tables e below (T3.setTop (mkF m 41 #[.val (.ref a1), .val (.int ((0 : Int32) + (1 : Int32))), .val (.ref a3), .val (.int ((0 : Int32) + (1 : Int32))), .val (.int (2 : Int32)), .val (.int ((0 : Int32) + (1 : Int32))), .val (.int (own_ch u))] [])) _
        rw [(show (0 : Int32) + (1 : Int32) = 1 from by decide)]
        show Steps p.tables e below (T3.setTop (mkF m 41 #[.val (.ref a1), .val (.int (1 : Int32)), .val (.ref a3), .val (.int (1 : Int32)), .val (.int (2 : Int32)), .val (.int (1 : Int32)), .val (.int (own_ch u))] [])) _
        refine XS.goto X3.here hx rfl (pc0 := 41) (pc' := 3) rfl (hb hby dk_41) (by decide) (by decide) ?_
        show Steps p.tables e below (T3.setTop (mkF m 3 #[.val (.ref a1), .val (.int (1 : Int32)), .val (.ref a3), .val (.int (1 : Int32)), .val (.int (2 : Int32)), .val (.int (1 : Int32)), .val (.int (own_ch u))] [])) _
        refine XS.iload X3.here hx rfl (hb hby dk_3) rfl ?_
        show Steps p.tables e below (T3.setTop (mkF m 5 #[.val (.ref a1), .val (.int (1 : Int32)), .val (.ref a3), .val (.int (1 : Int32)), .val (.int (2 : Int32)), .val (.int (1 : Int32)), .val (.int (own_ch u))] [(.int (1 : Int32))])) _
        refine XS.iload X3.here hx rfl (hb hby dk_5) rfl ?_
        show Steps p.tables e below (T3.setTop (mkF m 7 #[.val (.ref a1), .val (.int (1 : Int32)), .val (.ref a3), .val (.int (1 : Int32)), .val (.int (2 : Int32)), .val (.int (1 : Int32)), .val (.int (own_ch u))] [(.int (2 : Int32)), (.int (1 : Int32))])) _
        refine XS.icmpNo X3.here hx rfl (hb hby dk_7) rfl (tlt ((by decide) : (1 : Int32) < (2 : Int32))).2.1 ?_
        show Steps p.tables e below (T3.setTop (mkF m 10 #[.val (.ref a1), .val (.int (1 : Int32)), .val (.ref a3), .val (.int (1 : Int32)), .val (.int (2 : Int32)), .val (.int (1 : Int32)), .val (.int (own_ch u))] [])) _
        refine XS.aloadN X3.here hx rfl (hb hby dk_10) rfl rfl ?_
        show Steps p.tables e below (T3.setTop (mkF m 11 #[.val (.ref a1), .val (.int (1 : Int32)), .val (.ref a3), .val (.int (1 : Int32)), .val (.int (2 : Int32)), .val (.int (1 : Int32)), .val (.int (own_ch u))] [(.ref a1)])) _
        refine XS.iloadN X3.here hx rfl (hb hby dk_11) rfl ?_
        show Steps p.tables e below (T3.setTop (mkF m 12 #[.val (.ref a1), .val (.int (1 : Int32)), .val (.ref a3), .val (.int (1 : Int32)), .val (.int (2 : Int32)), .val (.int (1 : Int32)), .val (.int (own_ch u))] [(.int (1 : Int32)), (.ref a1)])) _
        refine X3.caload hx (j := (1 : Int32)) (v := (.int (own_ch w))) (by rw [e3]; exact Ar4.1) (State.isArrayOf_alike hZ.alike Ar4.2.1) Ar4.2.2 hin4 hat4 (g := (mkF m 12 #[.val (.ref a1), .val (.int (1 : Int32)), .val (.ref a3), .val (.int (1 : Int32)), .val (.int (2 : Int32)), .val (.int (1 : Int32)), .val (.int (own_ch u))] [(.int (1 : Int32)), (.ref a1)])) rfl rfl (hb hby dk_12) _ ?_
        show Steps p.tables e below (T3.setTop (mkF m 13 #[.val (.ref a1), .val (.int (1 : Int32)), .val (.ref a3), .val (.int (1 : Int32)), .val (.int (2 : Int32)), .val (.int (1 : Int32)), .val (.int (own_ch u))] [(.int (own_ch w))])) _
        refine XS.istore X3.here hx rfl (hb hby dk_13) rfl (l' := #[.val (.ref a1), .val (.int (1 : Int32)), .val (.ref a3), .val (.int (1 : Int32)), .val (.int (2 : Int32)), .val (.int (1 : Int32)), .val (.int (own_ch w))]) rfl ?_
        show Steps p.tables e below (T3.setTop (mkF m 15 #[.val (.ref a1), .val (.int (1 : Int32)), .val (.ref a3), .val (.int (1 : Int32)), .val (.int (2 : Int32)), .val (.int (1 : Int32)), .val (.int (own_ch w))] [])) _
        refine XS.iload X3.here hx rfl (hb hby dk_15) rfl ?_
        show Steps p.tables e below (T3.setTop (mkF m 17 #[.val (.ref a1), .val (.int (1 : Int32)), .val (.ref a3), .val (.int (1 : Int32)), .val (.int (2 : Int32)), .val (.int (1 : Int32)), .val (.int (own_ch w))] [(.int (own_ch w))])) _
        refine XS.sipush X3.here hx rfl (hb hby dk_17) ?_
        show Steps p.tables e below (T3.setTop (mkF m 20 #[.val (.ref a1), .val (.int (1 : Int32)), .val (.ref a3), .val (.int (1 : Int32)), .val (.int (2 : Int32)), .val (.int (1 : Int32)), .val (.int (own_ch w))] [(.int (255 : Int32)), (.int (own_ch w))])) _
        refine XS.icmpYes X3.here hx rfl (pc0 := 20) (pc' := 26) rfl (hb hby dk_20) rfl (flt (hc2 : ¬ ((255 : Int32) < (own_ch w)))).2.2.2 (by decide) (by decide) ?_
        show Steps p.tables e below (T3.setTop (mkF m 26 #[.val (.ref a1), .val (.int (1 : Int32)), .val (.ref a3), .val (.int (1 : Int32)), .val (.int (2 : Int32)), .val (.int (1 : Int32)), .val (.int (own_ch w))] [])) _
        refine XS.aloadN X3.here hx rfl (hb hby dk_26) rfl rfl ?_
        show Steps p.tables e below (T3.setTop (mkF m 27 #[.val (.ref a1), .val (.int (1 : Int32)), .val (.ref a3), .val (.int (1 : Int32)), .val (.int (2 : Int32)), .val (.int (1 : Int32)), .val (.int (own_ch w))] [(.ref a3)])) _
        refine XS.iloadN X3.here hx rfl (hb hby dk_27) rfl ?_
        show Steps p.tables e below (T3.setTop (mkF m 28 #[.val (.ref a1), .val (.int (1 : Int32)), .val (.ref a3), .val (.int (1 : Int32)), .val (.int (2 : Int32)), .val (.int (1 : Int32)), .val (.int (own_ch w))] [(.int (1 : Int32)), (.ref a3)])) _
        refine XS.iload X3.here hx rfl (hb hby dk_28) rfl ?_
        show Steps p.tables e below (T3.setTop (mkF m 30 #[.val (.ref a1), .val (.int (1 : Int32)), .val (.ref a3), .val (.int (1 : Int32)), .val (.int (2 : Int32)), .val (.int (1 : Int32)), .val (.int (own_ch w))] [(.int (own_ch w)), (.int (1 : Int32)), (.ref a3)])) _
        refine XS.i2b X3.here hx rfl (hb hby dk_30) rfl ?_
        show Steps p.tables e below (T3.setTop (mkF m 31 #[.val (.ref a1), .val (.int (1 : Int32)), .val (.ref a3), .val (.int (1 : Int32)), .val (.int (2 : Int32)), .val (.int (1 : Int32)), .val (.int (own_ch w))] [(.int ((own_ch w).toInt8.toInt32)), (.int (1 : Int32)), (.ref a3)])) _
        refine st6 _ ?_
        show Steps p.tables e below (T6.setTop (mkF m 32 #[.val (.ref a1), .val (.int (1 : Int32)), .val (.ref a3), .val (.int (1 : Int32)), .val (.int (2 : Int32)), .val (.int (1 : Int32)), .val (.int (own_ch w))] [])) _
        refine XS.iinc X6.here hx rfl (hb hby dk_32) rfl (l' := #[.val (.ref a1), .val (.int ((1 : Int32) + (1 : Int32))), .val (.ref a3), .val (.int (1 : Int32)), .val (.int (2 : Int32)), .val (.int (1 : Int32)), .val (.int (own_ch w))]) rfl ?_
        show Steps p.tables e below (T6.setTop (mkF m 35 #[.val (.ref a1), .val (.int ((1 : Int32) + (1 : Int32))), .val (.ref a3), .val (.int (1 : Int32)), .val (.int (2 : Int32)), .val (.int (1 : Int32)), .val (.int (own_ch w))] [])) _
        refine XS.iinc X6.here hx rfl (hb hby dk_35) rfl (l' := #[.val (.ref a1), .val (.int ((1 : Int32) + (1 : Int32))), .val (.ref a3), .val (.int ((1 : Int32) + (1 : Int32))), .val (.int (2 : Int32)), .val (.int (1 : Int32)), .val (.int (own_ch w))]) rfl ?_
        show Steps p.tables e below (T6.setTop (mkF m 38 #[.val (.ref a1), .val (.int ((1 : Int32) + (1 : Int32))), .val (.ref a3), .val (.int ((1 : Int32) + (1 : Int32))), .val (.int (2 : Int32)), .val (.int (1 : Int32)), .val (.int (own_ch w))] [])) _
        refine XS.iinc X6.here hx rfl (hb hby dk_38) rfl (l' := #[.val (.ref a1), .val (.int ((1 : Int32) + (1 : Int32))), .val (.ref a3), .val (.int ((1 : Int32) + (1 : Int32))), .val (.int (2 : Int32)), .val (.int ((1 : Int32) + (1 : Int32))), .val (.int (own_ch w))]) rfl ?_
        show Steps p.tables e below (T6.setTop (mkF m 41 #[.val (.ref a1), .val (.int ((1 : Int32) + (1 : Int32))), .val (.ref a3), .val (.int ((1 : Int32) + (1 : Int32))), .val (.int (2 : Int32)), .val (.int ((1 : Int32) + (1 : Int32))), .val (.int (own_ch w))] [])) _
        rw [(show (1 : Int32) + (1 : Int32) = 2 from by decide)]
        show Steps p.tables e below (T6.setTop (mkF m 41 #[.val (.ref a1), .val (.int (2 : Int32)), .val (.ref a3), .val (.int (2 : Int32)), .val (.int (2 : Int32)), .val (.int (2 : Int32)), .val (.int (own_ch w))] [])) _
        refine XS.goto X6.here hx rfl (pc0 := 41) (pc' := 3) rfl (hb hby dk_41) (by decide) (by decide) ?_
        show Steps p.tables e below (T6.setTop (mkF m 3 #[.val (.ref a1), .val (.int (2 : Int32)), .val (.ref a3), .val (.int (2 : Int32)), .val (.int (2 : Int32)), .val (.int (2 : Int32)), .val (.int (own_ch w))] [])) _
        refine XS.iload X6.here hx rfl (hb hby dk_3) rfl ?_
        show Steps p.tables e below (T6.setTop (mkF m 5 #[.val (.ref a1), .val (.int (2 : Int32)), .val (.ref a3), .val (.int (2 : Int32)), .val (.int (2 : Int32)), .val (.int (2 : Int32)), .val (.int (own_ch w))] [(.int (2 : Int32))])) _
        refine XS.iload X6.here hx rfl (hb hby dk_5) rfl ?_
        show Steps p.tables e below (T6.setTop (mkF m 7 #[.val (.ref a1), .val (.int (2 : Int32)), .val (.ref a3), .val (.int (2 : Int32)), .val (.int (2 : Int32)), .val (.int (2 : Int32)), .val (.int (own_ch w))] [(.int (2 : Int32)), (.int (2 : Int32))])) _
        refine XS.icmpYes X6.here hx rfl (pc0 := 7) (pc' := 44) rfl (hb hby dk_7) rfl (flt ((by decide) : ¬ ((2 : Int32) < (2 : Int32)))).2.1 (by decide) (by decide) ?_
        show Steps p.tables e below (T6.setTop (mkF m 44 #[.val (.ref a1), .val (.int (2 : Int32)), .val (.ref a3), .val (.int (2 : Int32)), .val (.int (2 : Int32)), .val (.int (2 : Int32)), .val (.int (own_ch w))] [])) _
        refine XS.iload X6.here hx rfl (hb hby dk_44) rfl ?_
        show Steps p.tables e below (T6.setTop (mkF m 46 #[.val (.ref a1), .val (.int (2 : Int32)), .val (.ref a3), .val (.int (2 : Int32)), .val (.int (2 : Int32)), .val (.int (2 : Int32)), .val (.int (own_ch w))] [(.int (2 : Int32))])) _
        exact retI X6 hx Bd.returns (hb hby dk_46) hr
      · show Qk Z u w a3 kb h0 n0 _ T6.heap _
        rw [e6]
        exact ⟨N6, Kp6, Or.inr (Or.inr ⟨hc1, hc2, rfl, V3_W6⟩)⟩
theorem dm_0 : decode jdk_52_method_16_code 0 = .ok (.iload_n 2, 1) := by decide +kernel
theorem dm_1 : decode jdk_52_method_16_code 1 = .ok (.newarray .byte, 2) := by decide +kernel
theorem dm_3 : decode jdk_52_method_16_code 3 = .ok (.astore_n 3, 1) := by decide +kernel
theorem dm_4 : decode jdk_52_method_16_code 4 = .ok (.aload_n 0, 1) := by decide +kernel
theorem dm_5 : decode jdk_52_method_16_code 5 = .ok (.iload_n 1, 1) := by decide +kernel
theorem dm_6 : decode jdk_52_method_16_code 6 = .ok (.aload_n 3, 1) := by decide +kernel
theorem dm_7 : decode jdk_52_method_16_code 7 = .ok (.iconst 0, 1) := by decide +kernel
theorem dm_8 : decode jdk_52_method_16_code 8 = .ok (.iload_n 2, 1) := by decide +kernel
theorem dm_9 : decode jdk_52_method_16_code 9 = .ok (.invokestatic 115, 3) := by decide +kernel
theorem dm_12 : decode jdk_52_method_16_code 12 = .ok (.istore 4, 2) := by decide +kernel
theorem dm_14 : decode jdk_52_method_16_code 14 = .ok (.iload 4, 2) := by decide +kernel
theorem dm_16 : decode jdk_52_method_16_code 16 = .ok (.iload_n 2, 1) := by decide +kernel
theorem dm_17 : decode jdk_52_method_16_code 17 = .ok (.if_icmp .eq 40, 3) := by decide +kernel
theorem dm_20 : decode jdk_52_method_16_code 20 = .ok (.aload_n 0, 1) := by decide +kernel
theorem dm_21 : decode jdk_52_method_16_code 21 = .ok (.iload_n 1, 1) := by decide +kernel
theorem dm_22 : decode jdk_52_method_16_code 22 = .ok (.iload_n 2, 1) := by decide +kernel
theorem dm_23 : decode jdk_52_method_16_code 23 = .ok (.invokestatic 119, 3) := by decide +kernel
theorem dm_26 : decode jdk_52_method_16_code 26 = .ok (.astore 5, 2) := by decide +kernel
theorem dm_28 : decode jdk_52_method_16_code 28 = .ok (.aload 5, 2) := by decide +kernel
theorem dm_30 : decode jdk_52_method_16_code 30 = .ok (.iload 4, 2) := by decide +kernel
theorem dm_32 : decode jdk_52_method_16_code 32 = .ok (.invokestatic 71, 3) := by decide +kernel
theorem dm_35 : decode jdk_52_method_16_code 35 = .ok (.sipush 255, 3) := by decide +kernel
theorem dm_38 : decode jdk_52_method_16_code 38 = .ok (.if_icmp .gt 16, 3) := by decide +kernel
theorem dm_54 : decode jdk_52_method_16_code 54 = .ok (.aload 5, 2) := by decide +kernel
theorem dm_56 : decode jdk_52_method_16_code 56 = .ok (.areturn, 1) := by decide +kernel
theorem dm_57 : decode jdk_52_method_16_code 57 = .ok (.aload_n 3, 1) := by decide +kernel
theorem dm_58 : decode jdk_52_method_16_code 58 = .ok (.areturn, 1) := by decide +kernel
theorem pdm_0 : parseMethodDescriptor "([CI[BII)I" = some ⟨[(.array .char), .int, (.array .byte), .int, .int], some .int⟩ := by decide +kernel
theorem pdm_1 : parseMethodDescriptor "([CII)[B" = some ⟨[(.array .char), .int, .int], some (.array .byte)⟩ := by decide +kernel
theorem pdm_2 : parseMethodDescriptor "([BI)C" = some ⟨[(.array .byte), .int], some .char⟩ := by decide +kernel
def Qm (Z : State) (u w : UInt16) (h0 : Heap) (n0 : Nat) (v : Option Value) (h : Heap) (L : List Loc) : Prop := Fr n0 L ∧ ∃ (b : Addr) (k : ClassId), v = some (.ref b) ∧ n0 ≤ b ∧ h0.size ≤ b ∧ Keep h0 h [] ∧ ((¬ (255 : Int32) < own_ch u ∧ ¬ (255 : Int32) < own_ch w ∧ Arv Z h b k .byte (2 : Int32) [.int (own_l u), .int (own_l w)] (.int (0 : Int32))) ∨ Arv Z h b k .byte (4 : Int32) [.int (own_b0 u), .int (own_b1 u), .int (own_b0 w), .int (own_b1 w)] (.int (0 : Int32)))
theorem pnm : plainName "java/lang/StringUTF16" = true := by first | (simp [plainName, overriddenIn]; done) | decide +kernel
theorem efm (m : MethodId) (x0 : Addr) (x1 : Int32) (x2 : Int32) : entryFrame m #[(.ref x0), (.int x1), (.int x2)] 6 = mkF m 0 #[.val (.ref x0), .val (.int x1), .val (.int x2), .unset, .unset, .unset] [] := by first | (simp [entryFrame, mkF, argsToLocals, Value.category]; done) | rfl
set_option maxRecDepth 65536 in
set_option maxHeartbeats 40000000 in
theorem rmm (l : Launch) (Z : State) (a0 : Array Value) (hw : ∀ d ∈ tables_1, d.before a0 Z = true) (ws : List Jvm.Cond) (csx : Int32) (vF : Value) (a1 : Addr) (kc : ClassId) (u w : UInt16) (h0 : Heap) (n0 : Nat) (Z0 : n0 ≤ h0.size) (St : own_St Z csx vF) (O0 : Old Z n0 h0) (V1 : Arv Z h0 a1 kc .char (2 : Int32) [.int (own_ch u), .int (own_ch w)] (.int (0 : Int32))) :
    MetFree l (⟨"java/lang/StringUTF16", "compress", "([CII)[B"⟩ : MethodName) (head1 (Jvm.Cond.code (⟨"java/lang/StringUTF16", "compress", "([CII)[B"⟩ : MethodName) jdk_52_method_16_code 6 (some (.array .byte)) :: ws) ({ frames := 3, cells := 2, slots := 6, locals := 40 } : Room)) (fun a U => a = #[(.ref a1), (.int (0 : Int32)), (.int (2 : Int32))] ∧ Z.Warmed39 U.vm ∧ U.heap = h0) (fun _ _ _ _ _ => True) (fun _ U o U' => ∃ v L, o = .returned v ∧ Qm Z u w h0 n0 v U'.heap L ∧ FrameEnd U o U' L ({ frames := 3, cells := 2, slots := 6, locals := 40 } : Room).cells ({ frames := 3, cells := 2, slots := 6, locals := 40 } : Room).slots) := by
  refine MetFree.of_bodySF (plainFor_of_name pnm) hisR ?_
  intro p e s m args below meth c s₁ Bd hml0 hP hK
  obtain ⟨rfl, hZ, hh⟩ := hP
  have hx := Bd.exec
  have hby := Bd.bytes
  have hml : c.maxLocals = 6 := hml0
  have hown : s.vm.findClass "java/lang/StringUTF16" = some m.cls := findClass_of_methodNamed Bd.named
  have hnm := (name_of_methodNamed Bd.named Bd.method).1
  have X0 : Stand p l e ({ frames := 3, cells := 2, slots := 6, locals := 40 } : Room) s m #[(.ref a1), (.int (0 : Int32)), (.int (2 : Int32))] below meth c s₁ [] 0 0 := Stand.of_body Bd
  have e0 : s₁.heap = h0 := by rw [← hh, Bd.state]; rfl
  have N0 := Fr.nil n0
  have pre0 : ∀ t, Steps p.tables e below (s₁.setTop (mkF m 0 #[.val (.ref a1), .val (.int (0 : Int32)), .val (.int (2 : Int32)), .unset, .unset, .unset] [])) t → Steps p.tables e below (s₁.setTop (entryFrame m #[(.ref a1), (.int (0 : Int32)), (.int (2 : Int32))] 6)) t := fun t k => castTop (efm m a1 (0 : Int32) (2 : Int32)) k
  obtain ⟨T1, h1, k1, X1, e1, E1, A1, st1⟩ := newP X0 hx hZ (hw _ (List.mem_of_getElem? (i := 14) rfl)) e0 (g := (mkF m 1 #[.val (.ref a1), .val (.int (0 : Int32)), .val (.int (2 : Int32)), .unset, .unset, .unset] [(.int (2 : Int32))])) rfl (hb hby dm_1) rfl (by decide) (cap := 2) (by decide) (by decide) (by decide) (by decide)
  obtain ⟨b1, g1⟩ : ∃ z, z = h0.size := ⟨_, rfl⟩
  rw [← g1] at A1 st1
  have gn_b1 : n0 ≤ b1 := Nat.le_trans Z0 (Nat.le_of_eq g1.symm)
  have ne_a1_b1 : a1 ≠ b1 := Nat.ne_of_lt (Nat.lt_of_lt_of_le V1.lt (Nat.le_of_eq g1.symm))
  have O1 := O0.ext E1
  have V1_E1 := V1.ext E1
  have Zs1 : n0 ≤ h1.size := Nat.le_trans Z0 E1.1
  have Kp1 := (Keep.refl h0 []).ext E1
  have Va_b1 : Arv Z h1 b1 k1 .byte (2 : Int32) [(.int (0 : Int32)), (.int (0 : Int32))] (.int (0 : Int32)) := (Arv.new A1 (by decide)).pad (pad_rep [] (.int (0 : Int32)) 2)
  obtain ⟨_, _, ⟨T2, L2, k2, n2⟩, -, X2, ⟨Lc2, hQ2, l2, y2, z2⟩, st2⟩ := Jvm.LawKit.callS X1 hx (y := (⟨"java/lang/StringUTF16", "compress", "([CI[BII)I"⟩ : MethodName)) hown (mvT hZ (hw _ (List.mem_of_getElem? (i := 38) rfl))) (mvT hZ (hw _ (List.mem_of_getElem? (i := 39) rfl))) (mvT hZ (hw _ (List.mem_of_getElem? (i := 36) rfl))) (mvT hZ (hw _ (List.mem_of_getElem? (i := 40) rfl))) (by decide) (backOf (W := 0) (rmk l Z a0 hw [] a1 kc u w b1 k1 h1 n0 Zs1 V1_E1 Va_b1 ne_a1_b1 gn_b1) hZ (hw _ (List.mem_of_getElem? (i := 40) rfl)) (hw _ (List.mem_of_getElem? (i := 36) rfl)) (by decide) (by decide)) (g := (mkF m 9 #[.val (.ref a1), .val (.int (0 : Int32)), .val (.int (2 : Int32)), .val (.ref b1), .unset, .unset] [(.int (2 : Int32)), (.int (0 : Int32)), (.ref b1), (.int (0 : Int32)), (.ref a1)])) rfl (by rw [hml]; rfl) (argsL := [(.ref a1), (.int (0 : Int32)), (.ref b1), (.int (0 : Int32)), (.int (2 : Int32))]) (rest := []) (lenOf pdm_0 rfl) rfl (by show 2 * 0 + _ ≤ _; exact Nat.le_of_eq rfl) (hb hby dm_9) (fun _ _ => ⟨rfl, e1, (by decide : 1 + 0 ≤ _), (by decide : 2 + 0 ≤ _)⟩)
  dsimp only [Pt.U, Pt.locs, Pt.cells, Pt.slots] at X2 l2 y2 z2 st2 hQ2
  subst l2 y2 z2
  obtain ⟨Nq2, Kc2, hcase⟩ := hQ2
  have N2 := Fr.app N0 Nq2
  have Zs2 : n0 ≤ T2.heap.size := Nat.le_trans Zs1 Kc2.1
  have V1_Kc2 := V1_E1.keep Kc2 (ninS ne_a1_b1 nin0)
  have O2 := O1.keep Kc2 (allS gn_b1 all0)
  have Kp2 := Kp1.trans Kc2 (allS (Or.inr (Nat.le_of_eq g1.symm)) all0)
  rcases hcase with ⟨hu, rfl⟩ | ⟨hu, hv, rfl⟩ | ⟨hu, hv, rfl, V3'⟩
  · obtain ⟨_, _, ⟨T3, L3, k3, n3⟩, -, X3, ⟨Lc3, hQ3, l3, y3, z3⟩, st3⟩ := Jvm.LawKit.callS X2 hx (y := (⟨"java/lang/StringUTF16", "toBytes", "([CII)[B"⟩ : MethodName)) hown (mvT hZ (hw _ (List.mem_of_getElem? (i := 122) rfl))) (mvT hZ (hw _ (List.mem_of_getElem? (i := 123) rfl))) (mvT hZ (hw _ (List.mem_of_getElem? (i := 36) rfl))) (mvT hZ (hw _ (List.mem_of_getElem? (i := 124) rfl))) (by decide) (backOf (W := 0) (rmi l Z a0 hw [] csx vF a1 kc u w T2.heap n0 Zs2 St O2 V1_Kc2) hZ (hw _ (List.mem_of_getElem? (i := 124) rfl)) (hw _ (List.mem_of_getElem? (i := 36) rfl)) (by decide) (by decide)) (g := (mkF m 23 #[.val (.ref a1), .val (.int (0 : Int32)), .val (.int (2 : Int32)), .val (.ref b1), .val (.int (0 : Int32)), .unset] [(.int (2 : Int32)), (.int (0 : Int32)), (.ref a1)])) rfl (by rw [hml]; rfl) (argsL := [(.ref a1), (.int (0 : Int32)), (.int (2 : Int32))]) (rest := []) (lenOf pdm_1 rfl) rfl (by show 2 * 0 + _ ≤ _; exact Nat.le_of_eq rfl) (hb hby dm_23) (fun _ _ => ⟨rfl, rfl, (by decide : 1 + 1 ≤ _), (by decide : 2 + 4 ≤ _)⟩)
    dsimp only [Pt.U, Pt.locs, Pt.cells, Pt.slots] at X3 l3 y3 z3 st3 hQ3
    subst l3 y3 z3
    obtain ⟨Nq3, t3, kb3, rfl, gn_t3, sb3, Kc3, Vb3⟩ := hQ3
    have N3 := Fr.app N2 Nq3
    have Zs3 : n0 ≤ T3.heap.size := Nat.le_trans Zs2 Kc3.1
    have V1_Kc3 := V1_Kc2.keep Kc3 nin0
    have O3 := O2.keep Kc3 all0
    have Kp3 := Kp2.trans Kc3 all0
    obtain ⟨cl4, Ar4, qk4, Sz4, Nn4, Hs4, Gs4⟩ := id Vb3
    obtain ⟨_, _, ⟨T4, L4, k4, n4⟩, -, X4, ⟨Lc4, hQ4, l4, y4, z4⟩, st4⟩ := Jvm.LawKit.callS X3 hx (y := (⟨"java/lang/StringUTF16", "getChar", "([BI)C"⟩ : MethodName)) hown (mvT hZ (hw _ (List.mem_of_getElem? (i := 132) rfl))) (mvT hZ (hw _ (List.mem_of_getElem? (i := 133) rfl))) (mvT hZ (hw _ (List.mem_of_getElem? (i := 36) rfl))) (mvT hZ (hw _ (List.mem_of_getElem? (i := 134) rfl))) (by decide) (backOf (W := 0) (rmj l Z a0 hw [] csx vF t3 0 u cl4 T3.heap n0 Zs3 St O3 (by decide) Ar4 (by rw [Sz4]; decide) (Hs4 0 (by rw [Sz4]; decide)) (Hs4 1 (by rw [Sz4]; decide))) hZ (hw _ (List.mem_of_getElem? (i := 134) rfl)) (hw _ (List.mem_of_getElem? (i := 36) rfl)) (by decide) (by decide)) (g := (mkF m 32 #[.val (.ref a1), .val (.int (0 : Int32)), .val (.int (2 : Int32)), .val (.ref b1), .val (.int (0 : Int32)), .val (.ref t3)] [(.int (0 : Int32)), (.ref t3)])) rfl (by rw [hml]; rfl) (argsL := [(.ref t3), (.int (0 : Int32))]) (rest := []) (lenOf pdm_2 rfl) rfl (by show 2 * 0 + _ ≤ _; exact Nat.le_of_eq rfl) (hb hby dm_32) (fun _ _ => ⟨rfl, rfl, (by decide : 2 + 0 ≤ _), (by decide : 6 + 0 ≤ _)⟩)
    dsimp only [Pt.U, Pt.locs, Pt.cells, Pt.slots] at X4 l4 y4 z4 st4 hQ4
    subst l4 y4 z4
    obtain ⟨rfl, Nq4, e4⟩ := hQ4
    have N4 := Fr.app N3 Nq4
    obtain ⟨fs, hr, hrun, hended, hW, hsame⟩ := X4.leave (v := some (.ref t3)) (fun h => by rw [Bd.returns] at h; cases h)
    refine ⟨_, _, pre0 _ ?_, hrun, hended, _, _, rfl, ?_, ⟨_, rfl⟩, hW, hsame.mono (by decide) (by decide)⟩
    · show Steps p.tables e below (s₁.setTop (mkF m 0 #[.val (.ref a1), .val (.int (0 : Int32)), .val (.int (2 : Int32)), .unset, .unset, .unset] [])) _
      refine XS.iloadN X0.here hx rfl (hb hby dm_0) rfl ?_
      show Steps p.tables e below (s₁.setTop (mkF m 1 #[.val (.ref a1), .val (.int (0 : Int32)), .val (.int (2 : Int32)), .unset, .unset, .unset] [(.int (2 : Int32))])) _
      refine st1 _ ?_
      show Steps p.tables e below (T1.setTop (mkF m 3 #[.val (.ref a1), .val (.int (0 : Int32)), .val (.int (2 : Int32)), .unset, .unset, .unset] [(.ref b1)])) _
      refine XS.astoreN X1.here hx rfl (hb hby dm_3) rfl rfl (l' := #[.val (.ref a1), .val (.int (0 : Int32)), .val (.int (2 : Int32)), .val (.ref b1), .unset, .unset]) rfl ?_
      show Steps p.tables e below (T1.setTop (mkF m 4 #[.val (.ref a1), .val (.int (0 : Int32)), .val (.int (2 : Int32)), .val (.ref b1), .unset, .unset] [])) _
      refine XS.aloadN X1.here hx rfl (hb hby dm_4) rfl rfl ?_
      show Steps p.tables e below (T1.setTop (mkF m 5 #[.val (.ref a1), .val (.int (0 : Int32)), .val (.int (2 : Int32)), .val (.ref b1), .unset, .unset] [(.ref a1)])) _
      refine XS.iloadN X1.here hx rfl (hb hby dm_5) rfl ?_
      show Steps p.tables e below (T1.setTop (mkF m 6 #[.val (.ref a1), .val (.int (0 : Int32)), .val (.int (2 : Int32)), .val (.ref b1), .unset, .unset] [(.int (0 : Int32)), (.ref a1)])) _
      refine XS.aloadN X1.here hx rfl (hb hby dm_6) rfl rfl ?_
      show Steps p.tables e below (T1.setTop (mkF m 7 #[.val (.ref a1), .val (.int (0 : Int32)), .val (.int (2 : Int32)), .val (.ref b1), .unset, .unset] [(.ref b1), (.int (0 : Int32)), (.ref a1)])) _
      refine XS.iconst X1.here hx rfl (hb hby dm_7) ?_
      show Steps p.tables e below (T1.setTop (mkF m 8 #[.val (.ref a1), .val (.int (0 : Int32)), .val (.int (2 : Int32)), .val (.ref b1), .unset, .unset] [(.int (0 : Int32)), (.ref b1), (.int (0 : Int32)), (.ref a1)])) _
      refine XS.iloadN X1.here hx rfl (hb hby dm_8) rfl ?_
      show Steps p.tables e below (T1.setTop (mkF m 9 #[.val (.ref a1), .val (.int (0 : Int32)), .val (.int (2 : Int32)), .val (.ref b1), .unset, .unset] [(.int (2 : Int32)), (.int (0 : Int32)), (.ref b1), (.int (0 : Int32)), (.ref a1)])) _
      refine st2 _ ?_
      show Steps p.tables e below (T2.setTop (mkF m 12 #[.val (.ref a1), .val (.int (0 : Int32)), .val (.int (2 : Int32)), .val (.ref b1), .unset, .unset] [(.int (0 : Int32))])) _
      refine XS.istore X2.here hx rfl (hb hby dm_12) rfl (l' := #[.val (.ref a1), .val (.int (0 : Int32)), .val (.int (2 : Int32)), .val (.ref b1), .val (.int (0 : Int32)), .unset]) rfl ?_
      show Steps p.tables e below (T2.setTop (mkF m 14 #[.val (.ref a1), .val (.int (0 : Int32)), .val (.int (2 : Int32)), .val (.ref b1), .val (.int (0 : Int32)), .unset] [])) _
      refine XS.iload X2.here hx rfl (hb hby dm_14) rfl ?_
      show Steps p.tables e below (T2.setTop (mkF m 16 #[.val (.ref a1), .val (.int (0 : Int32)), .val (.int (2 : Int32)), .val (.ref b1), .val (.int (0 : Int32)), .unset] [(.int (0 : Int32))])) _
      refine XS.iloadN X2.here hx rfl (hb hby dm_16) rfl ?_
      show Steps p.tables e below (T2.setTop (mkF m 17 #[.val (.ref a1), .val (.int (0 : Int32)), .val (.int (2 : Int32)), .val (.ref b1), .val (.int (0 : Int32)), .unset] [(.int (2 : Int32)), (.int (0 : Int32))])) _
      refine XS.icmpNo X2.here hx rfl (hb hby dm_17) rfl (feq ((by decide) : ¬ ((0 : Int32) = (2 : Int32)))).1 ?_
      show Steps p.tables e below (T2.setTop (mkF m 20 #[.val (.ref a1), .val (.int (0 : Int32)), .val (.int (2 : Int32)), .val (.ref b1), .val (.int (0 : Int32)), .unset] [])) _
      refine XS.aloadN X2.here hx rfl (hb hby dm_20) rfl rfl ?_
      show Steps p.tables e below (T2.setTop (mkF m 21 #[.val (.ref a1), .val (.int (0 : Int32)), .val (.int (2 : Int32)), .val (.ref b1), .val (.int (0 : Int32)), .unset] [(.ref a1)])) _
      refine XS.iloadN X2.here hx rfl (hb hby dm_21) rfl ?_
      show Steps p.tables e below (T2.setTop (mkF m 22 #[.val (.ref a1), .val (.int (0 : Int32)), .val (.int (2 : Int32)), .val (.ref b1), .val (.int (0 : Int32)), .unset] [(.int (0 : Int32)), (.ref a1)])) _
      refine XS.iloadN X2.here hx rfl (hb hby dm_22) rfl ?_
      show Steps p.tables e below (T2.setTop (mkF m 23 #[.val (.ref a1), .val (.int (0 : Int32)), .val (.int (2 : Int32)), .val (.ref b1), .val (.int (0 : Int32)), .unset] [(.int (2 : Int32)), (.int (0 : Int32)), (.ref a1)])) _
      refine st3 _ ?_
      show Steps p.tables e below (T3.setTop (mkF m 26 #[.val (.ref a1), .val (.int (0 : Int32)), .val (.int (2 : Int32)), .val (.ref b1), .val (.int (0 : Int32)), .unset] [(.ref t3)])) _
      refine XS.astore X3.here hx rfl (hb hby dm_26) rfl rfl (l' := #[.val (.ref a1), .val (.int (0 : Int32)), .val (.int (2 : Int32)), .val (.ref b1), .val (.int (0 : Int32)), .val (.ref t3)]) rfl ?_
      show Steps p.tables e below (T3.setTop (mkF m 28 #[.val (.ref a1), .val (.int (0 : Int32)), .val (.int (2 : Int32)), .val (.ref b1), .val (.int (0 : Int32)), .val (.ref t3)] [])) _
      refine XS.aload X3.here hx rfl (hb hby dm_28) rfl rfl ?_
      show Steps p.tables e below (T3.setTop (mkF m 30 #[.val (.ref a1), .val (.int (0 : Int32)), .val (.int (2 : Int32)), .val (.ref b1), .val (.int (0 : Int32)), .val (.ref t3)] [(.ref t3)])) _
      refine XS.iload X3.here hx rfl (hb hby dm_30) rfl ?_
      show Steps p.tables e below (T3.setTop (mkF m 32 #[.val (.ref a1), .val (.int (0 : Int32)), .val (.int (2 : Int32)), .val (.ref b1), .val (.int (0 : Int32)), .val (.ref t3)] [(.int (0 : Int32)), (.ref t3)])) _
      refine st4 _ ?_
      show Steps p.tables e below (T4.setTop (mkF m 35 #[.val (.ref a1), .val (.int (0 : Int32)), .val (.int (2 : Int32)), .val (.ref b1), .val (.int (0 : Int32)), .val (.ref t3)] [(.int (own_ch u))])) _
      refine XS.sipush X4.here hx rfl (hb hby dm_35) ?_
      show Steps p.tables e below (T4.setTop (mkF m 38 #[.val (.ref a1), .val (.int (0 : Int32)), .val (.int (2 : Int32)), .val (.ref b1), .val (.int (0 : Int32)), .val (.ref t3)] [(.int (255 : Int32)), (.int (own_ch u))])) _
      refine XS.icmpYes X4.here hx rfl (pc0 := 38) (pc' := 54) rfl (hb hby dm_38) rfl (tlt (hu : (255 : Int32) < (own_ch u))).2.2.1 (by decide) (by decide) ?_
      show Steps p.tables e below (T4.setTop (mkF m 54 #[.val (.ref a1), .val (.int (0 : Int32)), .val (.int (2 : Int32)), .val (.ref b1), .val (.int (0 : Int32)), .val (.ref t3)] [])) _
      refine XS.aload X4.here hx rfl (hb hby dm_54) rfl rfl ?_
      show Steps p.tables e below (T4.setTop (mkF m 56 #[.val (.ref a1), .val (.int (0 : Int32)), .val (.int (2 : Int32)), .val (.ref b1), .val (.int (0 : Int32)), .val (.ref t3)] [(.ref t3)])) _
      exact retOut X4 hx Bd.returns rfl (by simp [Value.isRef, FieldType.isReference]) (hb hby dm_56) hr
    · show Qm Z u w h0 n0 _ T4.heap _
      rw [e4]
      exact ⟨N4, t3, kb3, rfl, gn_t3, Nat.le_trans Kp2.1 sb3, Kp3, Or.inr Vb3⟩
  · obtain ⟨_, _, ⟨T5, L5, k5, n5⟩, -, X5, ⟨Lc5, hQ5, l5, y5, z5⟩, st5⟩ := Jvm.LawKit.callS X2 hx (y := (⟨"java/lang/StringUTF16", "toBytes", "([CII)[B"⟩ : MethodName)) hown (mvT hZ (hw _ (List.mem_of_getElem? (i := 122) rfl))) (mvT hZ (hw _ (List.mem_of_getElem? (i := 123) rfl))) (mvT hZ (hw _ (List.mem_of_getElem? (i := 36) rfl))) (mvT hZ (hw _ (List.mem_of_getElem? (i := 124) rfl))) (by decide) (backOf (W := 0) (rmi l Z a0 hw [] csx vF a1 kc u w T2.heap n0 Zs2 St O2 V1_Kc2) hZ (hw _ (List.mem_of_getElem? (i := 124) rfl)) (hw _ (List.mem_of_getElem? (i := 36) rfl)) (by decide) (by decide)) (g := (mkF m 23 #[.val (.ref a1), .val (.int (0 : Int32)), .val (.int (2 : Int32)), .val (.ref b1), .val (.int (1 : Int32)), .unset] [(.int (2 : Int32)), (.int (0 : Int32)), (.ref a1)])) rfl (by rw [hml]; rfl) (argsL := [(.ref a1), (.int (0 : Int32)), (.int (2 : Int32))]) (rest := []) (lenOf pdm_1 rfl) rfl (by show 2 * 0 + _ ≤ _; exact Nat.le_of_eq rfl) (hb hby dm_23) (fun _ _ => ⟨rfl, rfl, (by decide : 1 + 1 ≤ _), (by decide : 2 + 4 ≤ _)⟩)
    dsimp only [Pt.U, Pt.locs, Pt.cells, Pt.slots] at X5 l5 y5 z5 st5 hQ5
    subst l5 y5 z5
    obtain ⟨Nq5, t5, kb5, rfl, gn_t5, sb5, Kc5, Vb5⟩ := hQ5
    have N5 := Fr.app N2 Nq5
    have Zs5 : n0 ≤ T5.heap.size := Nat.le_trans Zs2 Kc5.1
    have V1_Kc5 := V1_Kc2.keep Kc5 nin0
    have O5 := O2.keep Kc5 all0
    have Kp5 := Kp2.trans Kc5 all0
    obtain ⟨cl6, Ar6, qk6, Sz6, Nn6, Hs6, Gs6⟩ := id Vb5
    obtain ⟨_, _, ⟨T6, L6, k6, n6⟩, -, X6, ⟨Lc6, hQ6, l6, y6, z6⟩, st6⟩ := Jvm.LawKit.callS X5 hx (y := (⟨"java/lang/StringUTF16", "getChar", "([BI)C"⟩ : MethodName)) hown (mvT hZ (hw _ (List.mem_of_getElem? (i := 132) rfl))) (mvT hZ (hw _ (List.mem_of_getElem? (i := 133) rfl))) (mvT hZ (hw _ (List.mem_of_getElem? (i := 36) rfl))) (mvT hZ (hw _ (List.mem_of_getElem? (i := 134) rfl))) (by decide) (backOf (W := 0) (rmj l Z a0 hw [] csx vF t5 1 w cl6 T5.heap n0 Zs5 St O5 (by decide) Ar6 (by rw [Sz6]; decide) (Hs6 2 (by rw [Sz6]; decide)) (Hs6 3 (by rw [Sz6]; decide))) hZ (hw _ (List.mem_of_getElem? (i := 134) rfl)) (hw _ (List.mem_of_getElem? (i := 36) rfl)) (by decide) (by decide)) (g := (mkF m 32 #[.val (.ref a1), .val (.int (0 : Int32)), .val (.int (2 : Int32)), .val (.ref b1), .val (.int (1 : Int32)), .val (.ref t5)] [(.int (1 : Int32)), (.ref t5)])) rfl (by rw [hml]; rfl) (argsL := [(.ref t5), (.int (1 : Int32))]) (rest := []) (lenOf pdm_2 rfl) rfl (by show 2 * 0 + _ ≤ _; exact Nat.le_of_eq rfl) (hb hby dm_32) (fun _ _ => ⟨rfl, rfl, (by decide : 2 + 0 ≤ _), (by decide : 6 + 0 ≤ _)⟩)
    dsimp only [Pt.U, Pt.locs, Pt.cells, Pt.slots] at X6 l6 y6 z6 st6 hQ6
    subst l6 y6 z6
    obtain ⟨rfl, Nq6, e6⟩ := hQ6
    have N6 := Fr.app N5 Nq6
    obtain ⟨fs, hr, hrun, hended, hW, hsame⟩ := X6.leave (v := some (.ref t5)) (fun h => by rw [Bd.returns] at h; cases h)
    refine ⟨_, _, pre0 _ ?_, hrun, hended, _, _, rfl, ?_, ⟨_, rfl⟩, hW, hsame.mono (by decide) (by decide)⟩
    · show Steps p.tables e below (s₁.setTop (mkF m 0 #[.val (.ref a1), .val (.int (0 : Int32)), .val (.int (2 : Int32)), .unset, .unset, .unset] [])) _
      refine XS.iloadN X0.here hx rfl (hb hby dm_0) rfl ?_
      show Steps p.tables e below (s₁.setTop (mkF m 1 #[.val (.ref a1), .val (.int (0 : Int32)), .val (.int (2 : Int32)), .unset, .unset, .unset] [(.int (2 : Int32))])) _
      refine st1 _ ?_
      show Steps p.tables e below (T1.setTop (mkF m 3 #[.val (.ref a1), .val (.int (0 : Int32)), .val (.int (2 : Int32)), .unset, .unset, .unset] [(.ref b1)])) _
      refine XS.astoreN X1.here hx rfl (hb hby dm_3) rfl rfl (l' := #[.val (.ref a1), .val (.int (0 : Int32)), .val (.int (2 : Int32)), .val (.ref b1), .unset, .unset]) rfl ?_
      show Steps p.tables e below (T1.setTop (mkF m 4 #[.val (.ref a1), .val (.int (0 : Int32)), .val (.int (2 : Int32)), .val (.ref b1), .unset, .unset] [])) _
      refine XS.aloadN X1.here hx rfl (hb hby dm_4) rfl rfl ?_
      show Steps p.tables e below (T1.setTop (mkF m 5 #[.val (.ref a1), .val (.int (0 : Int32)), .val (.int (2 : Int32)), .val (.ref b1), .unset, .unset] [(.ref a1)])) _
      refine XS.iloadN X1.here hx rfl (hb hby dm_5) rfl ?_
      show Steps p.tables e below (T1.setTop (mkF m 6 #[.val (.ref a1), .val (.int (0 : Int32)), .val (.int (2 : Int32)), .val (.ref b1), .unset, .unset] [(.int (0 : Int32)), (.ref a1)])) _
      refine XS.aloadN X1.here hx rfl (hb hby dm_6) rfl rfl ?_
      show Steps p.tables e below (T1.setTop (mkF m 7 #[.val (.ref a1), .val (.int (0 : Int32)), .val (.int (2 : Int32)), .val (.ref b1), .unset, .unset] [(.ref b1), (.int (0 : Int32)), (.ref a1)])) _
      refine XS.iconst X1.here hx rfl (hb hby dm_7) ?_
      show Steps p.tables e below (T1.setTop (mkF m 8 #[.val (.ref a1), .val (.int (0 : Int32)), .val (.int (2 : Int32)), .val (.ref b1), .unset, .unset] [(.int (0 : Int32)), (.ref b1), (.int (0 : Int32)), (.ref a1)])) _
      refine XS.iloadN X1.here hx rfl (hb hby dm_8) rfl ?_
      show Steps p.tables e below (T1.setTop (mkF m 9 #[.val (.ref a1), .val (.int (0 : Int32)), .val (.int (2 : Int32)), .val (.ref b1), .unset, .unset] [(.int (2 : Int32)), (.int (0 : Int32)), (.ref b1), (.int (0 : Int32)), (.ref a1)])) _
      refine st2 _ ?_
      show Steps p.tables e below (T2.setTop (mkF m 12 #[.val (.ref a1), .val (.int (0 : Int32)), .val (.int (2 : Int32)), .val (.ref b1), .unset, .unset] [(.int (1 : Int32))])) _
      refine XS.istore X2.here hx rfl (hb hby dm_12) rfl (l' := #[.val (.ref a1), .val (.int (0 : Int32)), .val (.int (2 : Int32)), .val (.ref b1), .val (.int (1 : Int32)), .unset]) rfl ?_
      show Steps p.tables e below (T2.setTop (mkF m 14 #[.val (.ref a1), .val (.int (0 : Int32)), .val (.int (2 : Int32)), .val (.ref b1), .val (.int (1 : Int32)), .unset] [])) _
      refine XS.iload X2.here hx rfl (hb hby dm_14) rfl ?_
      show Steps p.tables e below (T2.setTop (mkF m 16 #[.val (.ref a1), .val (.int (0 : Int32)), .val (.int (2 : Int32)), .val (.ref b1), .val (.int (1 : Int32)), .unset] [(.int (1 : Int32))])) _
      refine XS.iloadN X2.here hx rfl (hb hby dm_16) rfl ?_
      show Steps p.tables e below (T2.setTop (mkF m 17 #[.val (.ref a1), .val (.int (0 : Int32)), .val (.int (2 : Int32)), .val (.ref b1), .val (.int (1 : Int32)), .unset] [(.int (2 : Int32)), (.int (1 : Int32))])) _
      refine XS.icmpNo X2.here hx rfl (hb hby dm_17) rfl (feq ((by decide) : ¬ ((1 : Int32) = (2 : Int32)))).1 ?_
      show Steps p.tables e below (T2.setTop (mkF m 20 #[.val (.ref a1), .val (.int (0 : Int32)), .val (.int (2 : Int32)), .val (.ref b1), .val (.int (1 : Int32)), .unset] [])) _
      refine XS.aloadN X2.here hx rfl (hb hby dm_20) rfl rfl ?_
      show Steps p.tables e below (T2.setTop (mkF m 21 #[.val (.ref a1), .val (.int (0 : Int32)), .val (.int (2 : Int32)), .val (.ref b1), .val (.int (1 : Int32)), .unset] [(.ref a1)])) _
      refine XS.iloadN X2.here hx rfl (hb hby dm_21) rfl ?_
      show Steps p.tables e below (T2.setTop (mkF m 22 #[.val (.ref a1), .val (.int (0 : Int32)), .val (.int (2 : Int32)), .val (.ref b1), .val (.int (1 : Int32)), .unset] [(.int (0 : Int32)), (.ref a1)])) _
      refine XS.iloadN X2.here hx rfl (hb hby dm_22) rfl ?_
      show Steps p.tables e below (T2.setTop (mkF m 23 #[.val (.ref a1), .val (.int (0 : Int32)), .val (.int (2 : Int32)), .val (.ref b1), .val (.int (1 : Int32)), .unset] [(.int (2 : Int32)), (.int (0 : Int32)), (.ref a1)])) _
      refine st5 _ ?_
      show Steps p.tables e below (T5.setTop (mkF m 26 #[.val (.ref a1), .val (.int (0 : Int32)), .val (.int (2 : Int32)), .val (.ref b1), .val (.int (1 : Int32)), .unset] [(.ref t5)])) _
      refine XS.astore X5.here hx rfl (hb hby dm_26) rfl rfl (l' := #[.val (.ref a1), .val (.int (0 : Int32)), .val (.int (2 : Int32)), .val (.ref b1), .val (.int (1 : Int32)), .val (.ref t5)]) rfl ?_
      show Steps p.tables e below (T5.setTop (mkF m 28 #[.val (.ref a1), .val (.int (0 : Int32)), .val (.int (2 : Int32)), .val (.ref b1), .val (.int (1 : Int32)), .val (.ref t5)] [])) _
      refine XS.aload X5.here hx rfl (hb hby dm_28) rfl rfl ?_
      show Steps p.tables e below (T5.setTop (mkF m 30 #[.val (.ref a1), .val (.int (0 : Int32)), .val (.int (2 : Int32)), .val (.ref b1), .val (.int (1 : Int32)), .val (.ref t5)] [(.ref t5)])) _
      refine XS.iload X5.here hx rfl (hb hby dm_30) rfl ?_
      show Steps p.tables e below (T5.setTop (mkF m 32 #[.val (.ref a1), .val (.int (0 : Int32)), .val (.int (2 : Int32)), .val (.ref b1), .val (.int (1 : Int32)), .val (.ref t5)] [(.int (1 : Int32)), (.ref t5)])) _
      refine st6 _ ?_
      show Steps p.tables e below (T6.setTop (mkF m 35 #[.val (.ref a1), .val (.int (0 : Int32)), .val (.int (2 : Int32)), .val (.ref b1), .val (.int (1 : Int32)), .val (.ref t5)] [(.int (own_ch w))])) _
      refine XS.sipush X6.here hx rfl (hb hby dm_35) ?_
      show Steps p.tables e below (T6.setTop (mkF m 38 #[.val (.ref a1), .val (.int (0 : Int32)), .val (.int (2 : Int32)), .val (.ref b1), .val (.int (1 : Int32)), .val (.ref t5)] [(.int (255 : Int32)), (.int (own_ch w))])) _
      refine XS.icmpYes X6.here hx rfl (pc0 := 38) (pc' := 54) rfl (hb hby dm_38) rfl (tlt (hv : (255 : Int32) < (own_ch w))).2.2.1 (by decide) (by decide) ?_
      show Steps p.tables e below (T6.setTop (mkF m 54 #[.val (.ref a1), .val (.int (0 : Int32)), .val (.int (2 : Int32)), .val (.ref b1), .val (.int (1 : Int32)), .val (.ref t5)] [])) _
      refine XS.aload X6.here hx rfl (hb hby dm_54) rfl rfl ?_
      show Steps p.tables e below (T6.setTop (mkF m 56 #[.val (.ref a1), .val (.int (0 : Int32)), .val (.int (2 : Int32)), .val (.ref b1), .val (.int (1 : Int32)), .val (.ref t5)] [(.ref t5)])) _
      exact retOut X6 hx Bd.returns rfl (by simp [Value.isRef, FieldType.isReference]) (hb hby dm_56) hr
    · show Qm Z u w h0 n0 _ T6.heap _
      rw [e6]
      exact ⟨N6, t5, kb5, rfl, gn_t5, Nat.le_trans Kp2.1 sb5, Kp5, Or.inr Vb5⟩
  · obtain ⟨fs, hr, hrun, hended, hW, hsame⟩ := X2.leave (v := some (.ref b1)) (fun h => by rw [Bd.returns] at h; cases h)
    refine ⟨_, _, pre0 _ ?_, hrun, hended, _, _, rfl, ?_, ⟨_, rfl⟩, hW, hsame.mono (by decide) (by decide)⟩
    · show Steps p.tables e below (s₁.setTop (mkF m 0 #[.val (.ref a1), .val (.int (0 : Int32)), .val (.int (2 : Int32)), .unset, .unset, .unset] [])) _
      refine XS.iloadN X0.here hx rfl (hb hby dm_0) rfl ?_
      show Steps p.tables e below (s₁.setTop (mkF m 1 #[.val (.ref a1), .val (.int (0 : Int32)), .val (.int (2 : Int32)), .unset, .unset, .unset] [(.int (2 : Int32))])) _
      refine st1 _ ?_
      show Steps p.tables e below (T1.setTop (mkF m 3 #[.val (.ref a1), .val (.int (0 : Int32)), .val (.int (2 : Int32)), .unset, .unset, .unset] [(.ref b1)])) _
      refine XS.astoreN X1.here hx rfl (hb hby dm_3) rfl rfl (l' := #[.val (.ref a1), .val (.int (0 : Int32)), .val (.int (2 : Int32)), .val (.ref b1), .unset, .unset]) rfl ?_
      show Steps p.tables e below (T1.setTop (mkF m 4 #[.val (.ref a1), .val (.int (0 : Int32)), .val (.int (2 : Int32)), .val (.ref b1), .unset, .unset] [])) _
      refine XS.aloadN X1.here hx rfl (hb hby dm_4) rfl rfl ?_
      show Steps p.tables e below (T1.setTop (mkF m 5 #[.val (.ref a1), .val (.int (0 : Int32)), .val (.int (2 : Int32)), .val (.ref b1), .unset, .unset] [(.ref a1)])) _
      refine XS.iloadN X1.here hx rfl (hb hby dm_5) rfl ?_
      show Steps p.tables e below (T1.setTop (mkF m 6 #[.val (.ref a1), .val (.int (0 : Int32)), .val (.int (2 : Int32)), .val (.ref b1), .unset, .unset] [(.int (0 : Int32)), (.ref a1)])) _
      refine XS.aloadN X1.here hx rfl (hb hby dm_6) rfl rfl ?_
      show Steps p.tables e below (T1.setTop (mkF m 7 #[.val (.ref a1), .val (.int (0 : Int32)), .val (.int (2 : Int32)), .val (.ref b1), .unset, .unset] [(.ref b1), (.int (0 : Int32)), (.ref a1)])) _
      refine XS.iconst X1.here hx rfl (hb hby dm_7) ?_
      show Steps p.tables e below (T1.setTop (mkF m 8 #[.val (.ref a1), .val (.int (0 : Int32)), .val (.int (2 : Int32)), .val (.ref b1), .unset, .unset] [(.int (0 : Int32)), (.ref b1), (.int (0 : Int32)), (.ref a1)])) _
      refine XS.iloadN X1.here hx rfl (hb hby dm_8) rfl ?_
      show Steps p.tables e below (T1.setTop (mkF m 9 #[.val (.ref a1), .val (.int (0 : Int32)), .val (.int (2 : Int32)), .val (.ref b1), .unset, .unset] [(.int (2 : Int32)), (.int (0 : Int32)), (.ref b1), (.int (0 : Int32)), (.ref a1)])) _
      refine st2 _ ?_
      show Steps p.tables e below (T2.setTop (mkF m 12 #[.val (.ref a1), .val (.int (0 : Int32)), .val (.int (2 : Int32)), .val (.ref b1), .unset, .unset] [(.int (2 : Int32))])) _
      refine XS.istore X2.here hx rfl (hb hby dm_12) rfl (l' := #[.val (.ref a1), .val (.int (0 : Int32)), .val (.int (2 : Int32)), .val (.ref b1), .val (.int (2 : Int32)), .unset]) rfl ?_
      show Steps p.tables e below (T2.setTop (mkF m 14 #[.val (.ref a1), .val (.int (0 : Int32)), .val (.int (2 : Int32)), .val (.ref b1), .val (.int (2 : Int32)), .unset] [])) _
      refine XS.iload X2.here hx rfl (hb hby dm_14) rfl ?_
      show Steps p.tables e below (T2.setTop (mkF m 16 #[.val (.ref a1), .val (.int (0 : Int32)), .val (.int (2 : Int32)), .val (.ref b1), .val (.int (2 : Int32)), .unset] [(.int (2 : Int32))])) _
      refine XS.iloadN X2.here hx rfl (hb hby dm_16) rfl ?_
      show Steps p.tables e below (T2.setTop (mkF m 17 #[.val (.ref a1), .val (.int (0 : Int32)), .val (.int (2 : Int32)), .val (.ref b1), .val (.int (2 : Int32)), .unset] [(.int (2 : Int32)), (.int (2 : Int32))])) _
      refine XS.icmpYes X2.here hx rfl (pc0 := 17) (pc' := 57) rfl (hb hby dm_17) rfl (teq (rfl : (2 : Int32) = (2 : Int32))).1 (by decide) (by decide) ?_
      show Steps p.tables e below (T2.setTop (mkF m 57 #[.val (.ref a1), .val (.int (0 : Int32)), .val (.int (2 : Int32)), .val (.ref b1), .val (.int (2 : Int32)), .unset] [])) _
      refine XS.aloadN X2.here hx rfl (hb hby dm_57) rfl rfl ?_
      show Steps p.tables e below (T2.setTop (mkF m 58 #[.val (.ref a1), .val (.int (0 : Int32)), .val (.int (2 : Int32)), .val (.ref b1), .val (.int (2 : Int32)), .unset] [(.ref b1)])) _
      exact retOut X2 hx Bd.returns rfl (by simp [Value.isRef, FieldType.isReference]) (hb hby dm_58) hr
    · show Qm Z u w h0 n0 _ T2.heap _
      exact ⟨N2, b1, k1, rfl, gn_b1, Nat.le_of_eq g1.symm, Kp2, Or.inl ⟨hu, hv, V3'⟩⟩
theorem dn_0 : decode jdk_52_method_15_code 0 = .ok (.iload_n 1, 1) := by decide +kernel
theorem dn_1 : decode jdk_52_method_15_code 1 = .ok (.aload_n 0, 1) := by decide +kernel
theorem dn_2 : decode jdk_52_method_15_code 2 = .ok (.arraylength, 1) := by decide +kernel
theorem dn_3 : decode jdk_52_method_15_code 3 = .ok (.isub, 1) := by decide +kernel
theorem dn_4 : decode jdk_52_method_15_code 4 = .ok (.bipush 31, 2) := by decide +kernel
theorem dn_6 : decode jdk_52_method_15_code 6 = .ok (.iushr, 1) := by decide +kernel
theorem dn_7 : decode jdk_52_method_15_code 7 = .ok (.i2b, 1) := by decide +kernel
theorem dn_8 : decode jdk_52_method_15_code 8 = .ok (.ireturn, 1) := by decide +kernel
def Qn (z : Int32) (h0 : Heap) (n0 : Nat) (v : Option Value) (h : Heap) (L : List Loc) : Prop := v = some (.int (own_co z)) ∧ Fr n0 L ∧ h = h0
theorem pnn : plainName "java/lang/StringUTF16" = true := by first | (simp [plainName, overriddenIn]; done) | decide +kernel
theorem efn (m : MethodId) (x0 : Addr) (x1 : Int32) : entryFrame m #[(.ref x0), (.int x1)] 2 = mkF m 0 #[.val (.ref x0), .val (.int x1)] [] := by first | (simp [entryFrame, mkF, argsToLocals, Value.category]; done) | rfl
set_option maxRecDepth 65536 in
set_option maxHeartbeats 40000000 in
theorem rmn (l : Launch) (Z : State) (a0 : Array Value) (hw : ∀ d ∈ tables_1, d.before a0 Z = true) (ws : List Jvm.Cond) (a1 : Addr) (z : Int32) (cl : Cell) (h0 : Heap) (n0 : Nat) (Z0 : n0 ≤ h0.size) (Ar : Arr Z h0 a1 cl .byte) (Sz : cl.slots.size = z.toNatClampNeg) (Nn : ¬ z < 0) :
    MetFree l (⟨"java/lang/StringUTF16", "coderFromArrayLen", "([BI)B"⟩ : MethodName) (head1 (Jvm.Cond.code (⟨"java/lang/StringUTF16", "coderFromArrayLen", "([BI)B"⟩ : MethodName) jdk_52_method_15_code 2 (some .byte) :: ws) ({ frames := 0, cells := 0, slots := 0, locals := 0 } : Room)) (fun a U => a = #[(.ref a1), (.int (2 : Int32))] ∧ Z.Warmed39 U.vm ∧ U.heap = h0) (fun _ _ _ _ _ => True) (fun _ U o U' => ∃ v L, o = .returned v ∧ Qn z h0 n0 v U'.heap L ∧ FrameEnd U o U' L ({ frames := 0, cells := 0, slots := 0, locals := 0 } : Room).cells ({ frames := 0, cells := 0, slots := 0, locals := 0 } : Room).slots) := by
  refine MetFree.of_bodySF (plainFor_of_name pnn) hisR ?_
  intro p e s m args below meth c s₁ Bd hml0 hP hK
  obtain ⟨rfl, hZ, hh⟩ := hP
  have hx := Bd.exec
  have hby := Bd.bytes
  have hml : c.maxLocals = 2 := hml0
  have hown : s.vm.findClass "java/lang/StringUTF16" = some m.cls := findClass_of_methodNamed Bd.named
  have hnm := (name_of_methodNamed Bd.named Bd.method).1
  have X0 : Stand p l e ({ frames := 0, cells := 0, slots := 0, locals := 0 } : Room) s m #[(.ref a1), (.int (2 : Int32))] below meth c s₁ [] 0 0 := Stand.of_body Bd
  have e0 : s₁.heap = h0 := by rw [← hh, Bd.state]; rfl
  have N0 := Fr.nil n0
  have pre0 : ∀ t, Steps p.tables e below (s₁.setTop (mkF m 0 #[.val (.ref a1), .val (.int (2 : Int32))] [])) t → Steps p.tables e below (s₁.setTop (entryFrame m #[(.ref a1), (.int (2 : Int32))] 2)) t := fun t k => castTop (efn m a1 (2 : Int32)) k
  obtain ⟨fs, hr, hrun, hended, hW, hsame⟩ := X0.leave (v := some (.int (nar .byte (((((2 : Int32) - z).toUInt32 >>> ((31 : Int32) &&& 31).toUInt32).toInt32).toInt8.toInt32)))) (fun h => by rw [Bd.returns] at h; cases h)
  refine ⟨_, _, pre0 _ ?_, hrun, hended, _, _, rfl, ?_, ⟨_, rfl⟩, hW, hsame.mono (by decide) (by decide)⟩
  · show Steps p.tables e below (s₁.setTop (mkF m 0 #[.val (.ref a1), .val (.int (2 : Int32))] [])) _
    refine XS.iloadN X0.here hx rfl (hb hby dn_0) rfl ?_
    show Steps p.tables e below (s₁.setTop (mkF m 1 #[.val (.ref a1), .val (.int (2 : Int32))] [(.int (2 : Int32))])) _
    refine XS.aloadN X0.here hx rfl (hb hby dn_1) rfl rfl ?_
    show Steps p.tables e below (s₁.setTop (mkF m 2 #[.val (.ref a1), .val (.int (2 : Int32))] [(.ref a1), (.int (2 : Int32))])) _
    refine X0.arraylength hx (by rw [e0]; exact Ar.1) (State.isArrayOf_alike hZ.alike Ar.2.1) (g := (mkF m 2 #[.val (.ref a1), .val (.int (2 : Int32))] [(.ref a1), (.int (2 : Int32))])) rfl rfl (hb hby dn_2) _ ?_
    rw [len_of Sz Nn]
    show Steps p.tables e below (s₁.setTop (mkF m 3 #[.val (.ref a1), .val (.int (2 : Int32))] [(.int z), (.int (2 : Int32))])) _
    refine XS.isub X0.here hx rfl (hb hby dn_3) rfl ?_
    show Steps p.tables e below (s₁.setTop (mkF m 4 #[.val (.ref a1), .val (.int (2 : Int32))] [(.int ((2 : Int32) - z))])) _
    refine XS.bipush X0.here hx rfl (hb hby dn_4) ?_
    show Steps p.tables e below (s₁.setTop (mkF m 6 #[.val (.ref a1), .val (.int (2 : Int32))] [(.int (31 : Int32)), (.int ((2 : Int32) - z))])) _
    refine XS.iushr X0.here hx rfl (hb hby dn_6) rfl ?_
    show Steps p.tables e below (s₁.setTop (mkF m 7 #[.val (.ref a1), .val (.int (2 : Int32))] [(.int ((((2 : Int32) - z).toUInt32 >>> ((31 : Int32) &&& 31).toUInt32).toInt32))])) _
    refine XS.i2b X0.here hx rfl (hb hby dn_7) rfl ?_
    show Steps p.tables e below (s₁.setTop (mkF m 8 #[.val (.ref a1), .val (.int (2 : Int32))] [(.int (((((2 : Int32) - z).toUInt32 >>> ((31 : Int32) &&& 31).toUInt32).toInt32).toInt8.toInt32))])) _
    exact retN X0 hx (t := .byte) Bd.returns (by simp) (hb hby dn_8) hr
  · show Qn z h0 n0 _ s₁.heap _
    rw [e0]
    exact ⟨rfl, N0, rfl⟩
theorem do_0 : decode jdk_42_method_149_code 0 = .ok (.aload_n 0, 1) := by decide +kernel
theorem do_1 : decode jdk_42_method_149_code 1 = .ok (.invokespecial 1, 3) := by decide +kernel
theorem do_4 : decode jdk_42_method_149_code 4 = .ok (.iload_n 3, 1) := by decide +kernel
theorem do_5 : decode jdk_42_method_149_code 5 = .ok (.ifCond .ne 22, 3) := by decide +kernel
theorem do_27 : decode jdk_42_method_149_code 27 = .ok (.getstatic 38, 3) := by decide +kernel
theorem do_30 : decode jdk_42_method_149_code 30 = .ok (.ifCond .eq 28, 3) := by decide +kernel
theorem do_33 : decode jdk_42_method_149_code 33 = .ok (.aload_n 1, 1) := by decide +kernel
theorem do_34 : decode jdk_42_method_149_code 34 = .ok (.iload_n 2, 1) := by decide +kernel
theorem do_35 : decode jdk_42_method_149_code 35 = .ok (.iload_n 3, 1) := by decide +kernel
theorem do_36 : decode jdk_42_method_149_code 36 = .ok (.invokestatic 177, 3) := by decide +kernel
theorem do_39 : decode jdk_42_method_149_code 39 = .ok (.astore 5, 2) := by decide +kernel
theorem do_41 : decode jdk_42_method_149_code 41 = .ok (.aload_n 0, 1) := by decide +kernel
theorem do_42 : decode jdk_42_method_149_code 42 = .ok (.aload 5, 2) := by decide +kernel
theorem do_44 : decode jdk_42_method_149_code 44 = .ok (.iload_n 3, 1) := by decide +kernel
theorem do_45 : decode jdk_42_method_149_code 45 = .ok (.invokestatic 47, 3) := by decide +kernel
theorem do_48 : decode jdk_42_method_149_code 48 = .ok (.putfield 15, 3) := by decide +kernel
theorem do_51 : decode jdk_42_method_149_code 51 = .ok (.aload_n 0, 1) := by decide +kernel
theorem do_52 : decode jdk_42_method_149_code 52 = .ok (.aload 5, 2) := by decide +kernel
theorem do_54 : decode jdk_42_method_149_code 54 = .ok (.putfield 9, 3) := by decide +kernel
theorem do_57 : decode jdk_42_method_149_code 57 = .ok (.return_, 1) := by decide +kernel
theorem pdo_0 : parseMethodDescriptor "([CII)[B" = some ⟨[(.array .char), .int, .int], some (.array .byte)⟩ := by decide +kernel
theorem pdo_1 : parseMethodDescriptor "([BI)B" = some ⟨[(.array .byte), .int], some .byte⟩ := by decide +kernel
def Qo (Z : State) (a1 : Addr) (u w : UInt16) (h0 : Heap) (n0 : Nat) (v : Option Value) (h : Heap) (L : List Loc) : Prop := v = none ∧ Fr n0 L ∧ Keep h0 h [a1] ∧ own_Str Z h n0 h.size a1 [u, w]
theorem pno : plainName "java/lang/String" = true := by first | (simp [plainName, overriddenIn]; done) | decide +kernel
theorem efo (m : MethodId) (x0 : Addr) (x1 : Addr) (x2 : Int32) (x3 : Int32) : entryFrame m #[(.ref x0), (.ref x1), (.int x2), (.int x3), .null] 6 = mkF m 0 #[.val (.ref x0), .val (.ref x1), .val (.int x2), .val (.int x3), .val .null, .unset] [] := by first | (simp [entryFrame, mkF, argsToLocals, Value.category]; done) | rfl
set_option maxRecDepth 65536 in
set_option maxHeartbeats 40000000 in
theorem rmo (l : Launch) (Z : State) (a0 : Array Value) (hw : ∀ d ∈ tables_1, d.before a0 Z = true) (ws : List Jvm.Cond) (csx : Int32) (vF : Value) (a1 : Addr) (a2 : Addr) (kc : ClassId) (u w : UInt16) (h0 : Heap) (n0 : Nat) (Z0 : n0 ≤ h0.size) (St : own_St Z csx vF) (O0 : Old Z n0 h0) (Ex_a1 : Exa Z h0 a1 "java/lang/String") (Fv_a1 : Fld Z h0 a1 "java/lang/String" "value" "[B" .null) (Fc_a1 : Fld Z h0 a1 "java/lang/String" "coder" "B" (.int (0 : Int32))) (gn_a1 : n0 ≤ a1) (V1 : Arv Z h0 a2 kc .char (2 : Int32) [.int (own_ch u), .int (own_ch w)] (.int (0 : Int32))) (ne12 : a1 ≠ a2) :
    MetFree l (⟨"java/lang/String", "<init>", "([CIILjava/lang/Void;)V"⟩ : MethodName) (head1 (Jvm.Cond.code (⟨"java/lang/String", "<init>", "([CIILjava/lang/Void;)V"⟩ : MethodName) jdk_42_method_149_code 6 none :: ws) ({ frames := 4, cells := 2, slots := 6, locals := 57 } : Room)) (fun a U => a = #[(.ref a1), (.ref a2), (.int (0 : Int32)), (.int (2 : Int32)), .null] ∧ Z.Warmed39 U.vm ∧ U.heap = h0) (fun _ _ _ _ _ => True) (fun _ U o U' => ∃ v L, o = .returned v ∧ Qo Z a1 u w h0 n0 v U'.heap L ∧ FrameEnd U o U' L ({ frames := 4, cells := 2, slots := 6, locals := 57 } : Room).cells ({ frames := 4, cells := 2, slots := 6, locals := 57 } : Room).slots) := by
  refine MetFree.of_bodySF (plainFor_of_name pno) hisR ?_
  intro p e s m args below meth c s₁ Bd hml0 hP hK
  obtain ⟨rfl, hZ, hh⟩ := hP
  have hx := Bd.exec
  have hby := Bd.bytes
  have hml : c.maxLocals = 6 := hml0
  have hown : s.vm.findClass "java/lang/String" = some m.cls := findClass_of_methodNamed Bd.named
  have hnm := (name_of_methodNamed Bd.named Bd.method).1
  have X0 : Stand p l e ({ frames := 4, cells := 2, slots := 6, locals := 57 } : Room) s m #[(.ref a1), (.ref a2), (.int (0 : Int32)), (.int (2 : Int32)), .null] below meth c s₁ [] 0 0 := Stand.of_body Bd
  have e0 : s₁.heap = h0 := by rw [← hh, Bd.state]; rfl
  have N0 := Fr.nil n0
  have pre0 : ∀ t, Steps p.tables e below (s₁.setTop (mkF m 0 #[.val (.ref a1), .val (.ref a2), .val (.int (0 : Int32)), .val (.int (2 : Int32)), .val .null, .unset] [])) t → Steps p.tables e below (s₁.setTop (entryFrame m #[(.ref a1), (.ref a2), (.int (0 : Int32)), (.int (2 : Int32)), .null] 6)) t := fun t k => castTop (efo m a1 a2 (0 : Int32) (2 : Int32)) k
  obtain ⟨T1, X1, e1, st1⟩ := initO X0 hx hZ hown (hw _ (List.mem_of_getElem? (i := 19) rfl)) (hw _ (List.mem_of_getElem? (i := 20) rfl)) (hw _ (List.mem_of_getElem? (i := 21) rfl)) e0 (g := (mkF m 1 #[.val (.ref a1), .val (.ref a2), .val (.int (0 : Int32)), .val (.int (2 : Int32)), .val .null, .unset] [(.ref a1)])) rfl (by rw [hml]; rfl) rfl (hb hby do_1) (by decide) (W := 0) (by show 2 * 0 + _ ≤ _; exact Nat.le_of_eq rfl) (by decide)
  obtain ⟨T2, X2, e2, st2⟩ := getS X1 hx hZ (host := "") hown (hw _ (List.mem_of_getElem? (i := 4) rfl)) Via.refl e1 (Sta.ext O0.2 St.1) (g := (mkF m 27 #[.val (.ref a1), .val (.ref a2), .val (.int (0 : Int32)), .val (.int (2 : Int32)), .val .null, .unset] [])) rfl (hb hby do_27)
  obtain ⟨_, _, ⟨T3, L3, k3, n3⟩, -, X3, ⟨Lc3, hQ3, l3, y3, z3⟩, st3⟩ := Jvm.LawKit.callS X2 hx (y := (⟨"java/lang/StringUTF16", "compress", "([CII)[B"⟩ : MethodName)) hown (mvT hZ (hw _ (List.mem_of_getElem? (i := 34) rfl))) (mvT hZ (hw _ (List.mem_of_getElem? (i := 35) rfl))) (mvT hZ (hw _ (List.mem_of_getElem? (i := 36) rfl))) (mvT hZ (hw _ (List.mem_of_getElem? (i := 37) rfl))) (by decide) (backOf (W := 0) (rmm l Z a0 hw [] csx vF a2 kc u w h0 n0 Z0 St O0 V1) hZ (hw _ (List.mem_of_getElem? (i := 37) rfl)) (hw _ (List.mem_of_getElem? (i := 36) rfl)) (by decide) (by decide)) (g := (mkF m 36 #[.val (.ref a1), .val (.ref a2), .val (.int (0 : Int32)), .val (.int (2 : Int32)), .val .null, .unset] [(.int (2 : Int32)), (.int (0 : Int32)), (.ref a2)])) rfl (by rw [hml]; rfl) (argsL := [(.ref a2), (.int (0 : Int32)), (.int (2 : Int32))]) (rest := []) (lenOf pdo_0 rfl) rfl (by show 2 * 0 + _ ≤ _; exact Nat.le_of_eq rfl) (hb hby do_36) (fun _ _ => ⟨rfl, e2, (by decide : 0 + 2 ≤ _), (by decide : 0 + 6 ≤ _)⟩)
  dsimp only [Pt.U, Pt.locs, Pt.cells, Pt.slots] at X3 l3 y3 z3 st3 hQ3
  subst l3 y3 z3
  obtain ⟨Nq3, t3, kb3, rfl, gn_t3, sb3, Kc3, hcase⟩ := hQ3
  have N3 := Fr.app N0 Nq3
  have Zs3 : n0 ≤ T3.heap.size := Nat.le_trans Z0 Kc3.1
  have Ex_a1_Kc3 := Ex_a1.keep Kc3
  have Fv_a1_Kc3 := Fv_a1.keep Kc3 nin0
  have Fc_a1_Kc3 := Fc_a1.keep Kc3 nin0
  have V1_Kc3 := V1.keep Kc3 nin0
  have O3 := O0.keep Kc3 all0
  have Kp3 := (Keep.refl h0 [a1]).trans Kc3 all0
  have ne_t3 : a1 ≠ t3 := Nat.ne_of_lt (Nat.lt_of_lt_of_le Fv_a1.lt sb3)
  rcases hcase with ⟨hu, hv, Vt⟩ | Vt
  · obtain ⟨cl4, Ar4, qk4, Sz4, Nn4, Hs4, Gs4⟩ := id Vt
    obtain ⟨_, _, ⟨T4, L4, k4, n4⟩, -, X4, ⟨Lc4, hQ4, l4, y4, z4⟩, st4⟩ := Jvm.LawKit.callS X3 hx (y := (⟨"java/lang/StringUTF16", "coderFromArrayLen", "([BI)B"⟩ : MethodName)) hown (mvT hZ (hw _ (List.mem_of_getElem? (i := 41) rfl))) (mvT hZ (hw _ (List.mem_of_getElem? (i := 42) rfl))) (mvT hZ (hw _ (List.mem_of_getElem? (i := 36) rfl))) (mvT hZ (hw _ (List.mem_of_getElem? (i := 43) rfl))) (by decide) (backOf (W := 1) (rmn l Z a0 hw [] t3 (2 : Int32) cl4 T3.heap n0 Zs3 Ar4 Sz4 Nn4) hZ (hw _ (List.mem_of_getElem? (i := 43) rfl)) (hw _ (List.mem_of_getElem? (i := 36) rfl)) (by decide) (by decide)) (g := (mkF m 45 #[.val (.ref a1), .val (.ref a2), .val (.int (0 : Int32)), .val (.int (2 : Int32)), .val .null, .val (.ref t3)] [(.int (2 : Int32)), (.ref t3), (.ref a1)])) rfl (by rw [hml]; rfl) (argsL := [(.ref t3), (.int (2 : Int32))]) (rest := [(.ref a1)]) (lenOf pdo_1 rfl) rfl (by show 2 * 0 + _ ≤ _; exact Nat.le_of_eq rfl) (hb hby do_45) (fun _ _ => ⟨rfl, rfl, (by decide : 2 + 0 ≤ _), (by decide : 6 + 0 ≤ _)⟩)
    dsimp only [Pt.U, Pt.locs, Pt.cells, Pt.slots] at X4 l4 y4 z4 st4 hQ4
    subst l4 y4 z4
    obtain ⟨rfl, Nq4, e4⟩ := hQ4
    have N4 := Fr.app N3 Nq4
    rw [show own_co (2 : Int32) = 0 from by decide] at st4
    obtain ⟨T5, h5, X5, e5, W5, st5⟩ := putFN X4 hx hZ hown (hw _ (List.mem_of_getElem? (i := 24) rfl)) Via.refl e4 Fc_a1_Kc3 Ex_a1_Kc3 (Or.inr ⟨(hw _ (List.mem_of_getElem? (i := 25) rfl)), rfl, hnm⟩) (hw _ (List.mem_of_getElem? (i := 10) rfl)) (ty := .byte) (v' := (.int (0 : Int32))) (by decide) (by decide) (by decide) (g := (mkF m 48 #[.val (.ref a1), .val (.ref a2), .val (.int (0 : Int32)), .val (.int (2 : Int32)), .val .null, .val (.ref t3)] [(.int (0 : Int32)), (.ref a1)])) rfl rfl (hb hby do_48)
    have Fc_a1_W5 := Fc_a1_Kc3.same W5
    have Ex_a1_W5 := Ex_a1_Kc3.wr W5
    have Fv_a1_W5 := Fv_a1_Kc3.other W5 (Or.inr (slot_ne (Or.inr (hw _ (List.mem_of_getElem? (i := 23) rfl))) (Or.inr (hw _ (List.mem_of_getElem? (i := 25) rfl))) (by decide) (t := (.array .byte)) (t' := .byte) (by decide) (by decide)))
    have Vt_W5 := Vt.other W5 (Ne.symm ne_t3)
    have O5 := O3.wr W5 gn_a1
    have N5 := Fr.snoc X5 N4 gn_a1
    have Zs5 : n0 ≤ h5.size := Nat.le_trans Zs3 (Keep.of_wr W5).1
    have Kp5 := Kp3.wr W5 (Or.inl (List.mem_of_getElem? (i := 0) rfl))
    obtain ⟨T6, h6, X6, e6, W6, st6⟩ := putF X5 hx hZ hown (host := "") (Or.inl (hw _ (List.mem_of_getElem? (i := 22) rfl))) Via.refl e5 Fv_a1_W5 Ex_a1_W5 (Or.inr ⟨(hw _ (List.mem_of_getElem? (i := 23) rfl)), rfl, hnm⟩) (hw _ (List.mem_of_getElem? (i := 10) rfl)) (ty := (.array .byte)) (by decide) rfl rfl (g := (mkF m 54 #[.val (.ref a1), .val (.ref a2), .val (.int (0 : Int32)), .val (.int (2 : Int32)), .val .null, .val (.ref t3)] [(.ref t3), (.ref a1)])) rfl rfl (hb hby do_54)
    have Fv_a1_W6 := Fv_a1_W5.same W6
    have Ex_a1_W6 := Ex_a1_W5.wr W6
    have Fc_a1_W6 := Fc_a1_W5.other W6 (Or.inr (slot_ne (Or.inr (hw _ (List.mem_of_getElem? (i := 25) rfl))) (Or.inr (hw _ (List.mem_of_getElem? (i := 23) rfl))) (by decide) (t := .byte) (t' := (.array .byte)) (by decide) (by decide)))
    have Vt_W6 := Vt_W5.other W6 (Ne.symm ne_t3)
    have O6 := O5.wr W6 gn_a1
    have N6 := Fr.snoc X6 N5 gn_a1
    have Zs6 : n0 ≤ h6.size := Nat.le_trans Zs5 (Keep.of_wr W6).1
    have Kp6 := Kp5.wr W6 (Or.inl (List.mem_of_getElem? (i := 0) rfl))
    have hS : own_Str Z h6 n0 h6.size a1 [u, w] := ⟨t3, kb3, _, Ex_a1_W6, Fc_a1_W6, Fv_a1_W6, ⟨gn_a1, gn_t3, Fv_a1_W6.lt, Vt_W6.lt⟩, Or.inl ⟨rfl, fun x hx => (List.mem_cons.mp hx).elim (fun q => q ▸ hu) (fun q => List.mem_singleton.mp q ▸ hv), Vt_W6⟩⟩
    obtain ⟨fs, hr, hrun, hended, hW, hsame⟩ := X6.leave (v := none) (fun _ => rfl)
    refine ⟨_, _, pre0 _ ?_, hrun, hended, _, _, rfl, ?_, ⟨_, rfl⟩, hW, hsame.mono (by decide) (by decide)⟩
    · show Steps p.tables e below (s₁.setTop (mkF m 0 #[.val (.ref a1), .val (.ref a2), .val (.int (0 : Int32)), .val (.int (2 : Int32)), .val .null, .unset] [])) _
      refine XS.aloadN X0.here hx rfl (hb hby do_0) rfl rfl ?_
      show Steps p.tables e below (s₁.setTop (mkF m 1 #[.val (.ref a1), .val (.ref a2), .val (.int (0 : Int32)), .val (.int (2 : Int32)), .val .null, .unset] [(.ref a1)])) _
      refine st1 _ ?_
      show Steps p.tables e below (T1.setTop (mkF m 4 #[.val (.ref a1), .val (.ref a2), .val (.int (0 : Int32)), .val (.int (2 : Int32)), .val .null, .unset] [])) _
      refine XS.iloadN X1.here hx rfl (hb hby do_4) rfl ?_
      show Steps p.tables e below (T1.setTop (mkF m 5 #[.val (.ref a1), .val (.ref a2), .val (.int (0 : Int32)), .val (.int (2 : Int32)), .val .null, .unset] [(.int (2 : Int32))])) _
      refine XS.ifYes X1.here hx rfl (pc0 := 5) (pc' := 27) rfl (hb hby do_5) rfl ((if0 _ _).trans (feq ((by decide) : ¬ ((2 : Int32) = (0 : Int32)))).2) (by decide) (by decide) ?_
      show Steps p.tables e below (T1.setTop (mkF m 27 #[.val (.ref a1), .val (.ref a2), .val (.int (0 : Int32)), .val (.int (2 : Int32)), .val .null, .unset] [])) _
      refine st2 _ ?_
      show Steps p.tables e below (T2.setTop (mkF m 30 #[.val (.ref a1), .val (.ref a2), .val (.int (0 : Int32)), .val (.int (2 : Int32)), .val .null, .unset] [(.int csx)])) _
      refine XS.ifNo X2.here hx rfl (hb hby do_30) rfl ((if0 _ _).trans (feq (St.2.1 : ¬ (csx = (0 : Int32)))).1) ?_
      show Steps p.tables e below (T2.setTop (mkF m 33 #[.val (.ref a1), .val (.ref a2), .val (.int (0 : Int32)), .val (.int (2 : Int32)), .val .null, .unset] [])) _
      refine XS.aloadN X2.here hx rfl (hb hby do_33) rfl rfl ?_
      show Steps p.tables e below (T2.setTop (mkF m 34 #[.val (.ref a1), .val (.ref a2), .val (.int (0 : Int32)), .val (.int (2 : Int32)), .val .null, .unset] [(.ref a2)])) _
      refine XS.iloadN X2.here hx rfl (hb hby do_34) rfl ?_
      show Steps p.tables e below (T2.setTop (mkF m 35 #[.val (.ref a1), .val (.ref a2), .val (.int (0 : Int32)), .val (.int (2 : Int32)), .val .null, .unset] [(.int (0 : Int32)), (.ref a2)])) _
      refine XS.iloadN X2.here hx rfl (hb hby do_35) rfl ?_
      show Steps p.tables e below (T2.setTop (mkF m 36 #[.val (.ref a1), .val (.ref a2), .val (.int (0 : Int32)), .val (.int (2 : Int32)), .val .null, .unset] [(.int (2 : Int32)), (.int (0 : Int32)), (.ref a2)])) _
      refine st3 _ ?_
      show Steps p.tables e below (T3.setTop (mkF m 39 #[.val (.ref a1), .val (.ref a2), .val (.int (0 : Int32)), .val (.int (2 : Int32)), .val .null, .unset] [(.ref t3)])) _
      refine XS.astore X3.here hx rfl (hb hby do_39) rfl rfl (l' := #[.val (.ref a1), .val (.ref a2), .val (.int (0 : Int32)), .val (.int (2 : Int32)), .val .null, .val (.ref t3)]) rfl ?_
      show Steps p.tables e below (T3.setTop (mkF m 41 #[.val (.ref a1), .val (.ref a2), .val (.int (0 : Int32)), .val (.int (2 : Int32)), .val .null, .val (.ref t3)] [])) _
      refine XS.aloadN X3.here hx rfl (hb hby do_41) rfl rfl ?_
      show Steps p.tables e below (T3.setTop (mkF m 42 #[.val (.ref a1), .val (.ref a2), .val (.int (0 : Int32)), .val (.int (2 : Int32)), .val .null, .val (.ref t3)] [(.ref a1)])) _
      refine XS.aload X3.here hx rfl (hb hby do_42) rfl rfl ?_
      show Steps p.tables e below (T3.setTop (mkF m 44 #[.val (.ref a1), .val (.ref a2), .val (.int (0 : Int32)), .val (.int (2 : Int32)), .val .null, .val (.ref t3)] [(.ref t3), (.ref a1)])) _
      refine XS.iloadN X3.here hx rfl (hb hby do_44) rfl ?_
      show Steps p.tables e below (T3.setTop (mkF m 45 #[.val (.ref a1), .val (.ref a2), .val (.int (0 : Int32)), .val (.int (2 : Int32)), .val .null, .val (.ref t3)] [(.int (2 : Int32)), (.ref t3), (.ref a1)])) _
      refine st4 _ ?_
      show Steps p.tables e below (T4.setTop (mkF m 48 #[.val (.ref a1), .val (.ref a2), .val (.int (0 : Int32)), .val (.int (2 : Int32)), .val .null, .val (.ref t3)] [(.int (0 : Int32)), (.ref a1)])) _
      refine st5 _ ?_
      show Steps p.tables e below (T5.setTop (mkF m 51 #[.val (.ref a1), .val (.ref a2), .val (.int (0 : Int32)), .val (.int (2 : Int32)), .val .null, .val (.ref t3)] [])) _
      refine XS.aloadN X5.here hx rfl (hb hby do_51) rfl rfl ?_
      show Steps p.tables e below (T5.setTop (mkF m 52 #[.val (.ref a1), .val (.ref a2), .val (.int (0 : Int32)), .val (.int (2 : Int32)), .val .null, .val (.ref t3)] [(.ref a1)])) _
      refine XS.aload X5.here hx rfl (hb hby do_52) rfl rfl ?_
      show Steps p.tables e below (T5.setTop (mkF m 54 #[.val (.ref a1), .val (.ref a2), .val (.int (0 : Int32)), .val (.int (2 : Int32)), .val .null, .val (.ref t3)] [(.ref t3), (.ref a1)])) _
      refine st6 _ ?_
      show Steps p.tables e below (T6.setTop (mkF m 57 #[.val (.ref a1), .val (.ref a2), .val (.int (0 : Int32)), .val (.int (2 : Int32)), .val .null, .val (.ref t3)] [])) _
      exact X6.returnOut hx Bd.returns (hb hby do_57) hr
    · show Qo Z a1 u w h0 n0 _ T6.heap _
      rw [e6]
      exact ⟨rfl, N6, Kp6, hS⟩
  · obtain ⟨cl7, Ar7, qk7, Sz7, Nn7, Hs7, Gs7⟩ := id Vt
    obtain ⟨_, _, ⟨T7, L7, k7, n7⟩, -, X7, ⟨Lc7, hQ7, l7, y7, z7⟩, st7⟩ := Jvm.LawKit.callS X3 hx (y := (⟨"java/lang/StringUTF16", "coderFromArrayLen", "([BI)B"⟩ : MethodName)) hown (mvT hZ (hw _ (List.mem_of_getElem? (i := 41) rfl))) (mvT hZ (hw _ (List.mem_of_getElem? (i := 42) rfl))) (mvT hZ (hw _ (List.mem_of_getElem? (i := 36) rfl))) (mvT hZ (hw _ (List.mem_of_getElem? (i := 43) rfl))) (by decide) (backOf (W := 1) (rmn l Z a0 hw [] t3 (4 : Int32) cl7 T3.heap n0 Zs3 Ar7 Sz7 Nn7) hZ (hw _ (List.mem_of_getElem? (i := 43) rfl)) (hw _ (List.mem_of_getElem? (i := 36) rfl)) (by decide) (by decide)) (g := (mkF m 45 #[.val (.ref a1), .val (.ref a2), .val (.int (0 : Int32)), .val (.int (2 : Int32)), .val .null, .val (.ref t3)] [(.int (2 : Int32)), (.ref t3), (.ref a1)])) rfl (by rw [hml]; rfl) (argsL := [(.ref t3), (.int (2 : Int32))]) (rest := [(.ref a1)]) (lenOf pdo_1 rfl) rfl (by show 2 * 0 + _ ≤ _; exact Nat.le_of_eq rfl) (hb hby do_45) (fun _ _ => ⟨rfl, rfl, (by decide : 2 + 0 ≤ _), (by decide : 6 + 0 ≤ _)⟩)
    dsimp only [Pt.U, Pt.locs, Pt.cells, Pt.slots] at X7 l7 y7 z7 st7 hQ7
    subst l7 y7 z7
    obtain ⟨rfl, Nq7, e7⟩ := hQ7
    have N7 := Fr.app N3 Nq7
    rw [show own_co (4 : Int32) = 1 from by decide] at st7
    obtain ⟨T8, h8, X8, e8, W8, st8⟩ := putFN X7 hx hZ hown (hw _ (List.mem_of_getElem? (i := 24) rfl)) Via.refl e7 Fc_a1_Kc3 Ex_a1_Kc3 (Or.inr ⟨(hw _ (List.mem_of_getElem? (i := 25) rfl)), rfl, hnm⟩) (hw _ (List.mem_of_getElem? (i := 10) rfl)) (ty := .byte) (v' := (.int (1 : Int32))) (by decide) (by decide) (by decide) (g := (mkF m 48 #[.val (.ref a1), .val (.ref a2), .val (.int (0 : Int32)), .val (.int (2 : Int32)), .val .null, .val (.ref t3)] [(.int (1 : Int32)), (.ref a1)])) rfl rfl (hb hby do_48)
    have Fc_a1_W8 := Fc_a1_Kc3.same W8
    have Ex_a1_W8 := Ex_a1_Kc3.wr W8
    have Fv_a1_W8 := Fv_a1_Kc3.other W8 (Or.inr (slot_ne (Or.inr (hw _ (List.mem_of_getElem? (i := 23) rfl))) (Or.inr (hw _ (List.mem_of_getElem? (i := 25) rfl))) (by decide) (t := (.array .byte)) (t' := .byte) (by decide) (by decide)))
    have Vt_W8 := Vt.other W8 (Ne.symm ne_t3)
    have O8 := O3.wr W8 gn_a1
    have N8 := Fr.snoc X8 N7 gn_a1
    have Zs8 : n0 ≤ h8.size := Nat.le_trans Zs3 (Keep.of_wr W8).1
    have Kp8 := Kp3.wr W8 (Or.inl (List.mem_of_getElem? (i := 0) rfl))
    obtain ⟨T9, h9, X9, e9, W9, st9⟩ := putF X8 hx hZ hown (host := "") (Or.inl (hw _ (List.mem_of_getElem? (i := 22) rfl))) Via.refl e8 Fv_a1_W8 Ex_a1_W8 (Or.inr ⟨(hw _ (List.mem_of_getElem? (i := 23) rfl)), rfl, hnm⟩) (hw _ (List.mem_of_getElem? (i := 10) rfl)) (ty := (.array .byte)) (by decide) rfl rfl (g := (mkF m 54 #[.val (.ref a1), .val (.ref a2), .val (.int (0 : Int32)), .val (.int (2 : Int32)), .val .null, .val (.ref t3)] [(.ref t3), (.ref a1)])) rfl rfl (hb hby do_54)
    have Fv_a1_W9 := Fv_a1_W8.same W9
    have Ex_a1_W9 := Ex_a1_W8.wr W9
    have Fc_a1_W9 := Fc_a1_W8.other W9 (Or.inr (slot_ne (Or.inr (hw _ (List.mem_of_getElem? (i := 25) rfl))) (Or.inr (hw _ (List.mem_of_getElem? (i := 23) rfl))) (by decide) (t := .byte) (t' := (.array .byte)) (by decide) (by decide)))
    have Vt_W9 := Vt_W8.other W9 (Ne.symm ne_t3)
    have O9 := O8.wr W9 gn_a1
    have N9 := Fr.snoc X9 N8 gn_a1
    have Zs9 : n0 ≤ h9.size := Nat.le_trans Zs8 (Keep.of_wr W9).1
    have Kp9 := Kp8.wr W9 (Or.inl (List.mem_of_getElem? (i := 0) rfl))
    have hS : own_Str Z h9 n0 h9.size a1 [u, w] := ⟨t3, kb3, _, Ex_a1_W9, Fc_a1_W9, Fv_a1_W9, ⟨gn_a1, gn_t3, Fv_a1_W9.lt, Vt_W9.lt⟩, Or.inr ⟨rfl, Vt_W9⟩⟩
    obtain ⟨fs, hr, hrun, hended, hW, hsame⟩ := X9.leave (v := none) (fun _ => rfl)
    refine ⟨_, _, pre0 _ ?_, hrun, hended, _, _, rfl, ?_, ⟨_, rfl⟩, hW, hsame.mono (by decide) (by decide)⟩
    · show Steps p.tables e below (s₁.setTop (mkF m 0 #[.val (.ref a1), .val (.ref a2), .val (.int (0 : Int32)), .val (.int (2 : Int32)), .val .null, .unset] [])) _
      refine XS.aloadN X0.here hx rfl (hb hby do_0) rfl rfl ?_
      show Steps p.tables e below (s₁.setTop (mkF m 1 #[.val (.ref a1), .val (.ref a2), .val (.int (0 : Int32)), .val (.int (2 : Int32)), .val .null, .unset] [(.ref a1)])) _
      refine st1 _ ?_
      show Steps p.tables e below (T1.setTop (mkF m 4 #[.val (.ref a1), .val (.ref a2), .val (.int (0 : Int32)), .val (.int (2 : Int32)), .val .null, .unset] [])) _
      refine XS.iloadN X1.here hx rfl (hb hby do_4) rfl ?_
      show Steps p.tables e below (T1.setTop (mkF m 5 #[.val (.ref a1), .val (.ref a2), .val (.int (0 : Int32)), .val (.int (2 : Int32)), .val .null, .unset] [(.int (2 : Int32))])) _
      refine XS.ifYes X1.here hx rfl (pc0 := 5) (pc' := 27) rfl (hb hby do_5) rfl ((if0 _ _).trans (feq ((by decide) : ¬ ((2 : Int32) = (0 : Int32)))).2) (by decide) (by decide) ?_
      show Steps p.tables e below (T1.setTop (mkF m 27 #[.val (.ref a1), .val (.ref a2), .val (.int (0 : Int32)), .val (.int (2 : Int32)), .val .null, .unset] [])) _
      refine st2 _ ?_
      show Steps p.tables e below (T2.setTop (mkF m 30 #[.val (.ref a1), .val (.ref a2), .val (.int (0 : Int32)), .val (.int (2 : Int32)), .val .null, .unset] [(.int csx)])) _
      refine XS.ifNo X2.here hx rfl (hb hby do_30) rfl ((if0 _ _).trans (feq (St.2.1 : ¬ (csx = (0 : Int32)))).1) ?_
      show Steps p.tables e below (T2.setTop (mkF m 33 #[.val (.ref a1), .val (.ref a2), .val (.int (0 : Int32)), .val (.int (2 : Int32)), .val .null, .unset] [])) _
      refine XS.aloadN X2.here hx rfl (hb hby do_33) rfl rfl ?_
      show Steps p.tables e below (T2.setTop (mkF m 34 #[.val (.ref a1), .val (.ref a2), .val (.int (0 : Int32)), .val (.int (2 : Int32)), .val .null, .unset] [(.ref a2)])) _
      refine XS.iloadN X2.here hx rfl (hb hby do_34) rfl ?_
      show Steps p.tables e below (T2.setTop (mkF m 35 #[.val (.ref a1), .val (.ref a2), .val (.int (0 : Int32)), .val (.int (2 : Int32)), .val .null, .unset] [(.int (0 : Int32)), (.ref a2)])) _
      refine XS.iloadN X2.here hx rfl (hb hby do_35) rfl ?_
      show Steps p.tables e below (T2.setTop (mkF m 36 #[.val (.ref a1), .val (.ref a2), .val (.int (0 : Int32)), .val (.int (2 : Int32)), .val .null, .unset] [(.int (2 : Int32)), (.int (0 : Int32)), (.ref a2)])) _
      refine st3 _ ?_
      show Steps p.tables e below (T3.setTop (mkF m 39 #[.val (.ref a1), .val (.ref a2), .val (.int (0 : Int32)), .val (.int (2 : Int32)), .val .null, .unset] [(.ref t3)])) _
      refine XS.astore X3.here hx rfl (hb hby do_39) rfl rfl (l' := #[.val (.ref a1), .val (.ref a2), .val (.int (0 : Int32)), .val (.int (2 : Int32)), .val .null, .val (.ref t3)]) rfl ?_
      show Steps p.tables e below (T3.setTop (mkF m 41 #[.val (.ref a1), .val (.ref a2), .val (.int (0 : Int32)), .val (.int (2 : Int32)), .val .null, .val (.ref t3)] [])) _
      refine XS.aloadN X3.here hx rfl (hb hby do_41) rfl rfl ?_
      show Steps p.tables e below (T3.setTop (mkF m 42 #[.val (.ref a1), .val (.ref a2), .val (.int (0 : Int32)), .val (.int (2 : Int32)), .val .null, .val (.ref t3)] [(.ref a1)])) _
      refine XS.aload X3.here hx rfl (hb hby do_42) rfl rfl ?_
      show Steps p.tables e below (T3.setTop (mkF m 44 #[.val (.ref a1), .val (.ref a2), .val (.int (0 : Int32)), .val (.int (2 : Int32)), .val .null, .val (.ref t3)] [(.ref t3), (.ref a1)])) _
      refine XS.iloadN X3.here hx rfl (hb hby do_44) rfl ?_
      show Steps p.tables e below (T3.setTop (mkF m 45 #[.val (.ref a1), .val (.ref a2), .val (.int (0 : Int32)), .val (.int (2 : Int32)), .val .null, .val (.ref t3)] [(.int (2 : Int32)), (.ref t3), (.ref a1)])) _
      refine st7 _ ?_
      show Steps p.tables e below (T7.setTop (mkF m 48 #[.val (.ref a1), .val (.ref a2), .val (.int (0 : Int32)), .val (.int (2 : Int32)), .val .null, .val (.ref t3)] [(.int (1 : Int32)), (.ref a1)])) _
      refine st8 _ ?_
      show Steps p.tables e below (T8.setTop (mkF m 51 #[.val (.ref a1), .val (.ref a2), .val (.int (0 : Int32)), .val (.int (2 : Int32)), .val .null, .val (.ref t3)] [])) _
      refine XS.aloadN X8.here hx rfl (hb hby do_51) rfl rfl ?_
      show Steps p.tables e below (T8.setTop (mkF m 52 #[.val (.ref a1), .val (.ref a2), .val (.int (0 : Int32)), .val (.int (2 : Int32)), .val .null, .val (.ref t3)] [(.ref a1)])) _
      refine XS.aload X8.here hx rfl (hb hby do_52) rfl rfl ?_
      show Steps p.tables e below (T8.setTop (mkF m 54 #[.val (.ref a1), .val (.ref a2), .val (.int (0 : Int32)), .val (.int (2 : Int32)), .val .null, .val (.ref t3)] [(.ref t3), (.ref a1)])) _
      refine st9 _ ?_
      show Steps p.tables e below (T9.setTop (mkF m 57 #[.val (.ref a1), .val (.ref a2), .val (.int (0 : Int32)), .val (.int (2 : Int32)), .val .null, .val (.ref t3)] [])) _
      exact X9.returnOut hx Bd.returns (hb hby do_57) hr
    · show Qo Z a1 u w h0 n0 _ T9.heap _
      rw [e9]
      exact ⟨rfl, N9, Kp9, hS⟩
theorem dp_0 : decode jdk_42_method_3_code 0 = .ok (.aload_n 0, 1) := by decide +kernel
theorem dp_1 : decode jdk_42_method_3_code 1 = .ok (.aload_n 1, 1) := by decide +kernel
theorem dp_2 : decode jdk_42_method_3_code 2 = .ok (.iconst 0, 1) := by decide +kernel
theorem dp_3 : decode jdk_42_method_3_code 3 = .ok (.aload_n 1, 1) := by decide +kernel
theorem dp_4 : decode jdk_42_method_3_code 4 = .ok (.arraylength, 1) := by decide +kernel
theorem dp_5 : decode jdk_42_method_3_code 5 = .ok (.aconst_null, 1) := by decide +kernel
theorem dp_6 : decode jdk_42_method_3_code 6 = .ok (.invokespecial 27, 3) := by decide +kernel
theorem dp_9 : decode jdk_42_method_3_code 9 = .ok (.return_, 1) := by decide +kernel
theorem pdp_0 : parseMethodDescriptor "([CIILjava/lang/Void;)V" = some ⟨[(.array .char), .int, .int, (.object "java/lang/Void")], none⟩ := by decide +kernel
def Qp (Z : State) (a1 : Addr) (u w : UInt16) (h0 : Heap) (n0 : Nat) (v : Option Value) (h : Heap) (L : List Loc) : Prop := v = none ∧ Fr n0 L ∧ Keep h0 h [a1] ∧ own_Str Z h n0 h.size a1 [u, w]
theorem pnp : plainName "java/lang/String" = true := by first | (simp [plainName, overriddenIn]; done) | decide +kernel
theorem efp (m : MethodId) (x0 : Addr) (x1 : Addr) : entryFrame m #[(.ref x0), (.ref x1)] 2 = mkF m 0 #[.val (.ref x0), .val (.ref x1)] [] := by first | (simp [entryFrame, mkF, argsToLocals, Value.category]; done) | rfl
set_option maxRecDepth 65536 in
set_option maxHeartbeats 40000000 in
theorem rmp (l : Launch) (Z : State) (a0 : Array Value) (hw : ∀ d ∈ tables_1, d.before a0 Z = true) (ws : List Jvm.Cond) (csx : Int32) (vF : Value) (a1 : Addr) (a2 : Addr) (kc : ClassId) (u w : UInt16) (h0 : Heap) (n0 : Nat) (Z0 : n0 ≤ h0.size) (St : own_St Z csx vF) (O0 : Old Z n0 h0) (Ex_a1 : Exa Z h0 a1 "java/lang/String") (Fv_a1 : Fld Z h0 a1 "java/lang/String" "value" "[B" .null) (Fc_a1 : Fld Z h0 a1 "java/lang/String" "coder" "B" (.int (0 : Int32))) (gn_a1 : n0 ≤ a1) (V1 : Arv Z h0 a2 kc .char (2 : Int32) [.int (own_ch u), .int (own_ch w)] (.int (0 : Int32))) (ne12 : a1 ≠ a2) :
    MetFree l (⟨"java/lang/String", "<init>", "([C)V"⟩ : MethodName) (head1 (Jvm.Cond.code (⟨"java/lang/String", "<init>", "([C)V"⟩ : MethodName) jdk_42_method_3_code 2 none :: ws) ({ frames := 5, cells := 2, slots := 6, locals := 74 } : Room)) (fun a U => a = #[(.ref a1), (.ref a2)] ∧ Z.Warmed39 U.vm ∧ U.heap = h0) (fun _ _ _ _ _ => True) (fun _ U o U' => ∃ v L, o = .returned v ∧ Qp Z a1 u w h0 n0 v U'.heap L ∧ FrameEnd U o U' L ({ frames := 5, cells := 2, slots := 6, locals := 74 } : Room).cells ({ frames := 5, cells := 2, slots := 6, locals := 74 } : Room).slots) := by
  refine MetFree.of_bodySF (plainFor_of_name pnp) hisR ?_
  intro p e s m args below meth c s₁ Bd hml0 hP hK
  obtain ⟨rfl, hZ, hh⟩ := hP
  have hx := Bd.exec
  have hby := Bd.bytes
  have hml : c.maxLocals = 2 := hml0
  have hown : s.vm.findClass "java/lang/String" = some m.cls := findClass_of_methodNamed Bd.named
  have hnm := (name_of_methodNamed Bd.named Bd.method).1
  have X0 : Stand p l e ({ frames := 5, cells := 2, slots := 6, locals := 74 } : Room) s m #[(.ref a1), (.ref a2)] below meth c s₁ [] 0 0 := Stand.of_body Bd
  have e0 : s₁.heap = h0 := by rw [← hh, Bd.state]; rfl
  have N0 := Fr.nil n0
  have pre0 : ∀ t, Steps p.tables e below (s₁.setTop (mkF m 0 #[.val (.ref a1), .val (.ref a2)] [])) t → Steps p.tables e below (s₁.setTop (entryFrame m #[(.ref a1), (.ref a2)] 2)) t := fun t k => castTop (efp m a1 a2) k
  obtain ⟨cl, Ar, qk, Sz, Nn, Hs, Gs⟩ := id V1
  obtain ⟨_, _, ⟨T1, L1, k1, n1⟩, -, X1, ⟨Lc1, hQ1, l1, y1, z1⟩, st1⟩ := X0.specialBack hx (y := (⟨"java/lang/String", "<init>", "([CIILjava/lang/Void;)V"⟩ : MethodName)) rfl hown (mvT hZ (hw _ (List.mem_of_getElem? (i := 31) rfl))) (mvT hZ (hw _ (List.mem_of_getElem? (i := 32) rfl))) (mvT hZ (hw _ (List.mem_of_getElem? (i := 33) rfl))) (by decide) (backOf (W := 0) (rmo l Z a0 hw [] csx vF a1 a2 kc u w h0 n0 Z0 St O0 Ex_a1 Fv_a1 Fc_a1 gn_a1 V1 ne12) hZ (hw _ (List.mem_of_getElem? (i := 33) rfl)) (hw _ (List.mem_of_getElem? (i := 2) rfl)) (by decide) (by decide)) (g := (mkF m 6 #[.val (.ref a1), .val (.ref a2)] [.null, (.int (2 : Int32)), (.int (0 : Int32)), (.ref a2), (.ref a1)])) rfl (by rw [hml]; rfl) (Steps.refl _) (a := a1) (argsL := [(.ref a2), (.int (0 : Int32)), (.int (2 : Int32)), .null]) (rest := []) (lenOf pdp_0 rfl) rfl (by show 2 * 0 + _ ≤ _; exact Nat.le_of_eq rfl) (hb hby dp_6) (fun _ _ => ⟨rfl, e0, (by decide : 0 + 2 ≤ _), (by decide : 0 + 6 ≤ _)⟩)
  dsimp only [Pt.U, Pt.locs, Pt.cells, Pt.slots] at X1 l1 y1 z1 st1 hQ1
  subst l1 y1 z1
  obtain ⟨rfl, Nq1, Kc1, hS1⟩ := hQ1
  have N1 := Fr.app N0 Nq1
  have Zs1 : n0 ≤ T1.heap.size := Nat.le_trans Z0 Kc1.1
  have O1 := O0.keep Kc1 (allS gn_a1 all0)
  have Kp1 := (Keep.refl h0 [a1]).trans Kc1 (allS (Or.inl (List.mem_of_getElem? (i := 0) rfl)) all0)
  obtain ⟨fs, hr, hrun, hended, hW, hsame⟩ := X1.leave (v := none) (fun _ => rfl)
  refine ⟨_, _, pre0 _ ?_, hrun, hended, _, _, rfl, ?_, ⟨_, rfl⟩, hW, hsame.mono (by decide) (by decide)⟩
  · show Steps p.tables e below (s₁.setTop (mkF m 0 #[.val (.ref a1), .val (.ref a2)] [])) _
    refine XS.aloadN X0.here hx rfl (hb hby dp_0) rfl rfl ?_
    show Steps p.tables e below (s₁.setTop (mkF m 1 #[.val (.ref a1), .val (.ref a2)] [(.ref a1)])) _
    refine XS.aloadN X0.here hx rfl (hb hby dp_1) rfl rfl ?_
    show Steps p.tables e below (s₁.setTop (mkF m 2 #[.val (.ref a1), .val (.ref a2)] [(.ref a2), (.ref a1)])) _
    refine XS.iconst X0.here hx rfl (hb hby dp_2) ?_
    show Steps p.tables e below (s₁.setTop (mkF m 3 #[.val (.ref a1), .val (.ref a2)] [(.int (0 : Int32)), (.ref a2), (.ref a1)])) _
    refine XS.aloadN X0.here hx rfl (hb hby dp_3) rfl rfl ?_
    show Steps p.tables e below (s₁.setTop (mkF m 4 #[.val (.ref a1), .val (.ref a2)] [(.ref a2), (.int (0 : Int32)), (.ref a2), (.ref a1)])) _
    refine X0.arraylength hx (by rw [e0]; exact Ar.1) (State.isArrayOf_alike hZ.alike Ar.2.1) (g := (mkF m 4 #[.val (.ref a1), .val (.ref a2)] [(.ref a2), (.int (0 : Int32)), (.ref a2), (.ref a1)])) rfl rfl (hb hby dp_4) _ ?_
    rw [len_of Sz Nn]
    show Steps p.tables e below (s₁.setTop (mkF m 5 #[.val (.ref a1), .val (.ref a2)] [(.int (2 : Int32)), (.int (0 : Int32)), (.ref a2), (.ref a1)])) _
    refine XS.aconstNull X0.here hx rfl (hb hby dp_5) ?_
    show Steps p.tables e below (s₁.setTop (mkF m 6 #[.val (.ref a1), .val (.ref a2)] [.null, (.int (2 : Int32)), (.int (0 : Int32)), (.ref a2), (.ref a1)])) _
    refine st1.trans ?_
    show Steps p.tables e below (T1.setTop (mkF m 9 #[.val (.ref a1), .val (.ref a2)] [])) _
    exact X1.returnOut hx Bd.returns (hb hby dp_9) hr
  · show Qp Z a1 u w h0 n0 _ T1.heap _
    exact ⟨rfl, N1, Kp1, hS1⟩
theorem dq_0 : decode jdk_42_method_152_code 0 = .ok (.getstatic 38, 3) := by decide +kernel
theorem dq_3 : decode jdk_42_method_152_code 3 = .ok (.ifCond .eq 10, 3) := by decide +kernel
theorem dq_6 : decode jdk_42_method_152_code 6 = .ok (.aload_n 0, 1) := by decide +kernel
theorem dq_7 : decode jdk_42_method_152_code 7 = .ok (.getfield 15, 3) := by decide +kernel
theorem dq_10 : decode jdk_42_method_152_code 10 = .ok (.goto 4, 3) := by decide +kernel
theorem dq_14 : decode jdk_42_method_152_code 14 = .ok (.ireturn, 1) := by decide +kernel
def Qq (cd : Int32) (h0 : Heap) (n0 : Nat) (v : Option Value) (h : Heap) (L : List Loc) : Prop := v = some (.int cd) ∧ Fr n0 L ∧ h = h0
theorem pnq : plainName "java/lang/String" = true := by first | (simp [plainName, overriddenIn]; done) | decide +kernel
theorem efq (m : MethodId) (x0 : Addr) : entryFrame m #[(.ref x0)] 1 = mkF m 0 #[.val (.ref x0)] [] := by first | (simp [entryFrame, mkF, argsToLocals, Value.category]; done) | rfl
set_option maxRecDepth 65536 in
set_option maxHeartbeats 40000000 in
theorem rmq (l : Launch) (Z : State) (a0 : Array Value) (hw : ∀ d ∈ tables_1, d.before a0 Z = true) (ws : List Jvm.Cond) (csx : Int32) (vF : Value) (a1 : Addr) (cd : Int32) (h0 : Heap) (n0 : Nat) (Z0 : n0 ≤ h0.size) (St : own_St Z csx vF) (O0 : Old Z n0 h0) (Fc : Fld Z h0 a1 "java/lang/String" "coder" "B" (.int cd)) (hp : nar .byte cd = cd) :
    MetFree l (⟨"java/lang/String", "coder", "()B"⟩ : MethodName) (head1 (Jvm.Cond.code (⟨"java/lang/String", "coder", "()B"⟩ : MethodName) jdk_42_method_152_code 1 (some .byte) :: ws) ({ frames := 0, cells := 0, slots := 0, locals := 0 } : Room)) (fun a U => a = #[(.ref a1)] ∧ Z.Warmed39 U.vm ∧ U.heap = h0) (fun _ _ _ _ _ => True) (fun _ U o U' => ∃ v L, o = .returned v ∧ Qq cd h0 n0 v U'.heap L ∧ FrameEnd U o U' L ({ frames := 0, cells := 0, slots := 0, locals := 0 } : Room).cells ({ frames := 0, cells := 0, slots := 0, locals := 0 } : Room).slots) := by
  refine MetFree.of_bodySF (plainFor_of_name pnq) hisR ?_
  intro p e s m args below meth c s₁ Bd hml0 hP hK
  obtain ⟨rfl, hZ, hh⟩ := hP
  have hx := Bd.exec
  have hby := Bd.bytes
  have hml : c.maxLocals = 1 := hml0
  have hown : s.vm.findClass "java/lang/String" = some m.cls := findClass_of_methodNamed Bd.named
  have hnm := (name_of_methodNamed Bd.named Bd.method).1
  have X0 : Stand p l e ({ frames := 0, cells := 0, slots := 0, locals := 0 } : Room) s m #[(.ref a1)] below meth c s₁ [] 0 0 := Stand.of_body Bd
  have e0 : s₁.heap = h0 := by rw [← hh, Bd.state]; rfl
  have N0 := Fr.nil n0
  have pre0 : ∀ t, Steps p.tables e below (s₁.setTop (mkF m 0 #[.val (.ref a1)] [])) t → Steps p.tables e below (s₁.setTop (entryFrame m #[(.ref a1)] 1)) t := fun t k => castTop (efq m a1) k
  obtain ⟨T1, X1, e1, st1⟩ := getS X0 hx hZ (host := "") hown (hw _ (List.mem_of_getElem? (i := 4) rfl)) Via.refl e0 (Sta.ext O0.2 St.1) (g := (mkF m 0 #[.val (.ref a1)] [])) rfl (hb hby dq_0)
  obtain ⟨T2, X2, e2, st2⟩ := getF X1 hx hZ hown (host := "") (Or.inl (hw _ (List.mem_of_getElem? (i := 24) rfl))) Via.refl e1 Fc (g := (mkF m 7 #[.val (.ref a1)] [(.ref a1)])) rfl rfl (hb hby dq_7)
  obtain ⟨fs, hr, hrun, hended, hW, hsame⟩ := X2.leave (v := some (.int (nar .byte cd))) (fun h => by rw [Bd.returns] at h; cases h)
  refine ⟨_, _, pre0 _ ?_, hrun, hended, _, _, rfl, ?_, ⟨_, rfl⟩, hW, hsame.mono (by decide) (by decide)⟩
  · show Steps p.tables e below (s₁.setTop (mkF m 0 #[.val (.ref a1)] [])) _
    refine st1 _ ?_
    show Steps p.tables e below (T1.setTop (mkF m 3 #[.val (.ref a1)] [(.int csx)])) _
    refine XS.ifNo X1.here hx rfl (hb hby dq_3) rfl ((if0 _ _).trans (feq (St.2.1 : ¬ (csx = (0 : Int32)))).1) ?_
    show Steps p.tables e below (T1.setTop (mkF m 6 #[.val (.ref a1)] [])) _
    refine XS.aloadN X1.here hx rfl (hb hby dq_6) rfl rfl ?_
    show Steps p.tables e below (T1.setTop (mkF m 7 #[.val (.ref a1)] [(.ref a1)])) _
    refine st2 _ ?_
    show Steps p.tables e below (T2.setTop (mkF m 10 #[.val (.ref a1)] [(.int cd)])) _
    refine XS.goto X2.here hx rfl (pc0 := 10) (pc' := 14) rfl (hb hby dq_10) (by decide) (by decide) ?_
    show Steps p.tables e below (T2.setTop (mkF m 14 #[.val (.ref a1)] [(.int cd)])) _
    exact retN X2 hx (t := .byte) Bd.returns (by simp) (hb hby dq_14) hr
  · show Qq cd h0 n0 _ T2.heap _
    rw [e2]
    exact ⟨by rw [hp], N0, rfl⟩
theorem dr_0 : decode jdk_42_method_154_code 0 = .ok (.getstatic 38, 3) := by decide +kernel
theorem dr_3 : decode jdk_42_method_154_code 3 = .ok (.ifCond .eq 14, 3) := by decide +kernel
theorem dr_6 : decode jdk_42_method_154_code 6 = .ok (.aload_n 0, 1) := by decide +kernel
theorem dr_7 : decode jdk_42_method_154_code 7 = .ok (.getfield 15, 3) := by decide +kernel
theorem dr_10 : decode jdk_42_method_154_code 10 = .ok (.ifCond .ne 7, 3) := by decide +kernel
theorem dr_13 : decode jdk_42_method_154_code 13 = .ok (.iconst 1, 1) := by decide +kernel
theorem dr_14 : decode jdk_42_method_154_code 14 = .ok (.goto 4, 3) := by decide +kernel
theorem dr_17 : decode jdk_42_method_154_code 17 = .ok (.iconst 0, 1) := by decide +kernel
theorem dr_18 : decode jdk_42_method_154_code 18 = .ok (.ireturn, 1) := by decide +kernel
def Qr (cd : Int32) (h0 : Heap) (n0 : Nat) (v : Option Value) (h : Heap) (L : List Loc) : Prop := v = some (.int (if cd = 0 then (1 : Int32) else 0)) ∧ Fr n0 L ∧ h = h0
theorem pnr : plainName "java/lang/String" = true := by first | (simp [plainName, overriddenIn]; done) | decide +kernel
theorem efr (m : MethodId) (x0 : Addr) : entryFrame m #[(.ref x0)] 1 = mkF m 0 #[.val (.ref x0)] [] := by first | (simp [entryFrame, mkF, argsToLocals, Value.category]; done) | rfl
set_option maxRecDepth 65536 in
set_option maxHeartbeats 40000000 in
theorem rmr (l : Launch) (Z : State) (a0 : Array Value) (hw : ∀ d ∈ tables_1, d.before a0 Z = true) (ws : List Jvm.Cond) (csx : Int32) (vF : Value) (a1 : Addr) (cd : Int32) (h0 : Heap) (n0 : Nat) (Z0 : n0 ≤ h0.size) (St : own_St Z csx vF) (O0 : Old Z n0 h0) (Fc : Fld Z h0 a1 "java/lang/String" "coder" "B" (.int cd)) :
    MetFree l (⟨"java/lang/String", "isLatin1", "()Z"⟩ : MethodName) (head1 (Jvm.Cond.code (⟨"java/lang/String", "isLatin1", "()Z"⟩ : MethodName) jdk_42_method_154_code 1 (some .boolean) :: ws) ({ frames := 0, cells := 0, slots := 0, locals := 0 } : Room)) (fun a U => a = #[(.ref a1)] ∧ Z.Warmed39 U.vm ∧ U.heap = h0) (fun _ _ _ _ _ => True) (fun _ U o U' => ∃ v L, o = .returned v ∧ Qr cd h0 n0 v U'.heap L ∧ FrameEnd U o U' L ({ frames := 0, cells := 0, slots := 0, locals := 0 } : Room).cells ({ frames := 0, cells := 0, slots := 0, locals := 0 } : Room).slots) := by
  refine MetFree.of_bodySF (plainFor_of_name pnr) hisR ?_
  intro p e s m args below meth c s₁ Bd hml0 hP hK
  obtain ⟨rfl, hZ, hh⟩ := hP
  have hx := Bd.exec
  have hby := Bd.bytes
  have hml : c.maxLocals = 1 := hml0
  have hown : s.vm.findClass "java/lang/String" = some m.cls := findClass_of_methodNamed Bd.named
  have hnm := (name_of_methodNamed Bd.named Bd.method).1
  have X0 : Stand p l e ({ frames := 0, cells := 0, slots := 0, locals := 0 } : Room) s m #[(.ref a1)] below meth c s₁ [] 0 0 := Stand.of_body Bd
  have e0 : s₁.heap = h0 := by rw [← hh, Bd.state]; rfl
  have N0 := Fr.nil n0
  have pre0 : ∀ t, Steps p.tables e below (s₁.setTop (mkF m 0 #[.val (.ref a1)] [])) t → Steps p.tables e below (s₁.setTop (entryFrame m #[(.ref a1)] 1)) t := fun t k => castTop (efr m a1) k
  obtain ⟨T1, X1, e1, st1⟩ := getS X0 hx hZ (host := "") hown (hw _ (List.mem_of_getElem? (i := 4) rfl)) Via.refl e0 (Sta.ext O0.2 St.1) (g := (mkF m 0 #[.val (.ref a1)] [])) rfl (hb hby dr_0)
  obtain ⟨T2, X2, e2, st2⟩ := getF X1 hx hZ hown (host := "") (Or.inl (hw _ (List.mem_of_getElem? (i := 24) rfl))) Via.refl e1 Fc (g := (mkF m 7 #[.val (.ref a1)] [(.ref a1)])) rfl rfl (hb hby dr_7)
  by_cases hc : cd = (0 : Int32)
  · obtain ⟨fs, hr, hrun, hended, hW, hsame⟩ := X2.leave (v := some (.int (1 : Int32))) (fun h => by rw [Bd.returns] at h; cases h)
    refine ⟨_, _, pre0 _ ?_, hrun, hended, _, _, rfl, ?_, ⟨_, rfl⟩, hW, hsame.mono (by decide) (by decide)⟩
    · show Steps p.tables e below (s₁.setTop (mkF m 0 #[.val (.ref a1)] [])) _
      refine st1 _ ?_
      show Steps p.tables e below (T1.setTop (mkF m 3 #[.val (.ref a1)] [(.int csx)])) _
      refine XS.ifNo X1.here hx rfl (hb hby dr_3) rfl ((if0 _ _).trans (feq (St.2.1 : ¬ (csx = (0 : Int32)))).1) ?_
      show Steps p.tables e below (T1.setTop (mkF m 6 #[.val (.ref a1)] [])) _
      refine XS.aloadN X1.here hx rfl (hb hby dr_6) rfl rfl ?_
      show Steps p.tables e below (T1.setTop (mkF m 7 #[.val (.ref a1)] [(.ref a1)])) _
      refine st2 _ ?_
      show Steps p.tables e below (T2.setTop (mkF m 10 #[.val (.ref a1)] [(.int cd)])) _
      refine XS.ifNo X2.here hx rfl (hb hby dr_10) rfl ((if0 _ _).trans (teq (hc : cd = (0 : Int32))).2) ?_
      show Steps p.tables e below (T2.setTop (mkF m 13 #[.val (.ref a1)] [])) _
      refine XS.iconst X2.here hx rfl (hb hby dr_13) ?_
      show Steps p.tables e below (T2.setTop (mkF m 14 #[.val (.ref a1)] [(.int (1 : Int32))])) _
      refine XS.goto X2.here hx rfl (pc0 := 14) (pc' := 18) rfl (hb hby dr_14) (by decide) (by decide) ?_
      show Steps p.tables e below (T2.setTop (mkF m 18 #[.val (.ref a1)] [(.int (1 : Int32))])) _
      exact retN X2 hx (t := .boolean) Bd.returns (by simp) (hb hby dr_18) hr
    · show Qr cd h0 n0 _ T2.heap _
      rw [e2]
      exact ⟨by rw [if_pos hc], N0, rfl⟩
  · obtain ⟨fs, hr, hrun, hended, hW, hsame⟩ := X2.leave (v := some (.int (0 : Int32))) (fun h => by rw [Bd.returns] at h; cases h)
    refine ⟨_, _, pre0 _ ?_, hrun, hended, _, _, rfl, ?_, ⟨_, rfl⟩, hW, hsame.mono (by decide) (by decide)⟩
    · show Steps p.tables e below (s₁.setTop (mkF m 0 #[.val (.ref a1)] [])) _
      refine st1 _ ?_
      show Steps p.tables e below (T1.setTop (mkF m 3 #[.val (.ref a1)] [(.int csx)])) _
      refine XS.ifNo X1.here hx rfl (hb hby dr_3) rfl ((if0 _ _).trans (feq (St.2.1 : ¬ (csx = (0 : Int32)))).1) ?_
      show Steps p.tables e below (T1.setTop (mkF m 6 #[.val (.ref a1)] [])) _
      refine XS.aloadN X1.here hx rfl (hb hby dr_6) rfl rfl ?_
      show Steps p.tables e below (T1.setTop (mkF m 7 #[.val (.ref a1)] [(.ref a1)])) _
      refine st2 _ ?_
      show Steps p.tables e below (T2.setTop (mkF m 10 #[.val (.ref a1)] [(.int cd)])) _
      refine XS.ifYes X2.here hx rfl (pc0 := 10) (pc' := 17) rfl (hb hby dr_10) rfl ((if0 _ _).trans (feq (hc : ¬ (cd = (0 : Int32)))).2) (by decide) (by decide) ?_
      show Steps p.tables e below (T2.setTop (mkF m 17 #[.val (.ref a1)] [])) _
      refine XS.iconst X2.here hx rfl (hb hby dr_17) ?_
      show Steps p.tables e below (T2.setTop (mkF m 18 #[.val (.ref a1)] [(.int (0 : Int32))])) _
      exact retN X2 hx (t := .boolean) Bd.returns (by simp) (hb hby dr_18) hr
    · show Qr cd h0 n0 _ T2.heap _
      rw [e2]
      exact ⟨by rw [if_neg hc], N0, rfl⟩
theorem ds_0 : decode jdk_42_method_54_code 0 = .ok (.aload_n 0, 1) := by decide +kernel
theorem ds_1 : decode jdk_42_method_54_code 1 = .ok (.getfield 9, 3) := by decide +kernel
theorem ds_4 : decode jdk_42_method_54_code 4 = .ok (.arraylength, 1) := by decide +kernel
theorem ds_5 : decode jdk_42_method_54_code 5 = .ok (.aload_n 0, 1) := by decide +kernel
theorem ds_6 : decode jdk_42_method_54_code 6 = .ok (.invokevirtual 335, 3) := by decide +kernel
theorem ds_9 : decode jdk_42_method_54_code 9 = .ok (.ishr, 1) := by decide +kernel
theorem ds_10 : decode jdk_42_method_54_code 10 = .ok (.ireturn, 1) := by decide +kernel
theorem pds_0 : parseMethodDescriptor "()B" = some ⟨[], some .byte⟩ := by decide +kernel
def Qs (us : List UInt16) (h0 : Heap) (n0 : Nat) (v : Option Value) (h : Heap) (L : List Loc) : Prop := v = some (.int (Int32.ofNat us.length)) ∧ Fr n0 L ∧ h = h0
theorem pns : plainName "java/lang/String" = true := by first | (simp [plainName, overriddenIn]; done) | decide +kernel
theorem efs (m : MethodId) (x0 : Addr) : entryFrame m #[(.ref x0)] 1 = mkF m 0 #[.val (.ref x0)] [] := by first | (simp [entryFrame, mkF, argsToLocals, Value.category]; done) | rfl
set_option maxRecDepth 65536 in
set_option maxHeartbeats 40000000 in
theorem rms (l : Launch) (Z : State) (a0 : Array Value) (hw : ∀ d ∈ tables_1, d.before a0 Z = true) (ws : List Jvm.Cond) (csx : Int32) (vF : Value) (a1 : Addr) (B : Nat) (us : List UInt16) (h0 : Heap) (n0 : Nat) (Z0 : n0 ≤ h0.size) (St : own_St Z csx vF) (O0 : Old Z n0 h0) (hu : us.length < 4) (hS : own_Str Z h0 n0 B a1 us) :
    MetFree l (⟨"java/lang/String", "length", "()I"⟩ : MethodName) (head1 (Jvm.Cond.code (⟨"java/lang/String", "length", "()I"⟩ : MethodName) jdk_42_method_54_code 1 (some .int) :: ws) ({ frames := 1, cells := 0, slots := 0, locals := 13 } : Room)) (fun a U => a = #[(.ref a1)] ∧ Z.Warmed39 U.vm ∧ U.heap = h0) (fun _ _ _ _ _ => True) (fun _ U o U' => ∃ v L, o = .returned v ∧ Qs us h0 n0 v U'.heap L ∧ FrameEnd U o U' L ({ frames := 1, cells := 0, slots := 0, locals := 13 } : Room).cells ({ frames := 1, cells := 0, slots := 0, locals := 13 } : Room).slots) := by
  refine MetFree.of_bodySF (plainFor_of_name pns) hisR ?_
  intro p e s m args below meth c s₁ Bd hml0 hP hK
  obtain ⟨rfl, hZ, hh⟩ := hP
  have hx := Bd.exec
  have hby := Bd.bytes
  have hml : c.maxLocals = 1 := hml0
  have hown : s.vm.findClass "java/lang/String" = some m.cls := findClass_of_methodNamed Bd.named
  have hnm := (name_of_methodNamed Bd.named Bd.method).1
  have X0 : Stand p l e ({ frames := 1, cells := 0, slots := 0, locals := 13 } : Room) s m #[(.ref a1)] below meth c s₁ [] 0 0 := Stand.of_body Bd
  have e0 : s₁.heap = h0 := by rw [← hh, Bd.state]; rfl
  have N0 := Fr.nil n0
  have pre0 : ∀ t, Steps p.tables e below (s₁.setTop (mkF m 0 #[.val (.ref a1)] [])) t → Steps p.tables e below (s₁.setTop (entryFrame m #[(.ref a1)] 1)) t := fun t k => castTop (efs m a1) k
  obtain ⟨t, k, cd, Ex, Fc, Fv, gs, hcase⟩ := hS
  rcases hcase with ⟨rfl, hlat, Vt⟩ | ⟨rfl, Vt⟩
  · obtain ⟨cl, Ar, qk, Sz, Nn, Hs, Gs⟩ := Vt
    obtain ⟨T1, X1, e1, st1⟩ := getF X0 hx hZ hown (host := "") (Or.inl (hw _ (List.mem_of_getElem? (i := 22) rfl))) Via.refl e0 Fv (g := (mkF m 1 #[.val (.ref a1)] [(.ref a1)])) rfl rfl (hb hby ds_1)
    obtain ⟨cq2, kq2, q2a, q2b, q2c⟩ := isOf hZ e1 Ex
    obtain ⟨_, _, ⟨T2, L2, k2, n2⟩, -, X2, ⟨Lc2, hQ2, l2, y2, z2⟩, st2⟩ := X1.virtualBack hx (y := (⟨"java/lang/String", "coder", "()B"⟩ : MethodName)) (z := (⟨"java/lang/String", "coder", "()B"⟩ : MethodName)) hown (mvT hZ (hw _ (List.mem_of_getElem? (i := 63) rfl))) (mvT hZ (hw _ (List.mem_of_getElem? (i := 64) rfl))) (notFace_of_selects (args := #[]) (mvT hZ (hw _ (List.mem_of_getElem? (i := 66) rfl)))) (mvT hZ (hw _ (List.mem_of_getElem? (i := 66) rfl))) (mvT hZ (hw _ (List.mem_of_getElem? (i := 65) rfl))) (by decide) (backOf (W := 1) (rmq l Z a0 hw [] csx vF a1 (0 : Int32) h0 n0 Z0 St O0 Fc (by decide)) hZ (hw _ (List.mem_of_getElem? (i := 67) rfl)) (hw _ (List.mem_of_getElem? (i := 2) rfl)) (by decide) (by decide)) q2a q2c (g := (mkF m 6 #[.val (.ref a1)] [(.ref a1), (.int (Int32.ofNat us.length))])) rfl (by rw [hml]; rfl) (Steps.refl _) (argsL := []) (rest := [(.int (Int32.ofNat us.length))]) (lenOf pds_0 rfl) rfl (by show 2 * 0 + _ ≤ _; exact Nat.le_of_eq rfl) (hb hby ds_6) (fun _ _ => ⟨rfl, e1, (by decide : 0 + 0 ≤ _), (by decide : 0 + 0 ≤ _)⟩)
    dsimp only [Pt.U, Pt.locs, Pt.cells, Pt.slots] at X2 l2 y2 z2 st2 hQ2
    subst l2 y2 z2
    obtain ⟨rfl, Nq2, e2⟩ := hQ2
    have N2 := Fr.app N0 Nq2
    obtain ⟨fs, hr, hrun, hended, hW, hsame⟩ := X2.leave (v := some (.int ((Int32.ofNat us.length) >>> ((0 : Int32) &&& 31)))) (fun h => by rw [Bd.returns] at h; cases h)
    refine ⟨_, _, pre0 _ ?_, hrun, hended, _, _, rfl, ?_, ⟨_, rfl⟩, hW, hsame.mono (by decide) (by decide)⟩
    · show Steps p.tables e below (s₁.setTop (mkF m 0 #[.val (.ref a1)] [])) _
      refine XS.aloadN X0.here hx rfl (hb hby ds_0) rfl rfl ?_
      show Steps p.tables e below (s₁.setTop (mkF m 1 #[.val (.ref a1)] [(.ref a1)])) _
      refine st1 _ ?_
      show Steps p.tables e below (T1.setTop (mkF m 4 #[.val (.ref a1)] [(.ref t)])) _
      refine X1.arraylength hx (by rw [e1]; exact Ar.1) (State.isArrayOf_alike hZ.alike Ar.2.1) (g := (mkF m 4 #[.val (.ref a1)] [(.ref t)])) rfl rfl (hb hby ds_4) _ ?_
      rw [len_of Sz Nn]
      show Steps p.tables e below (T1.setTop (mkF m 5 #[.val (.ref a1)] [(.int (Int32.ofNat us.length))])) _
      refine XS.aloadN X1.here hx rfl (hb hby ds_5) rfl rfl ?_
      show Steps p.tables e below (T1.setTop (mkF m 6 #[.val (.ref a1)] [(.ref a1), (.int (Int32.ofNat us.length))])) _
      refine st2.trans ?_
      show Steps p.tables e below (T2.setTop (mkF m 9 #[.val (.ref a1)] [(.int (0 : Int32)), (.int (Int32.ofNat us.length))])) _
      refine XS.ishr X2.here hx rfl (hb hby ds_9) rfl ?_
      show Steps p.tables e below (T2.setTop (mkF m 10 #[.val (.ref a1)] [(.int ((Int32.ofNat us.length) >>> ((0 : Int32) &&& 31)))])) _
      exact retI X2 hx Bd.returns (hb hby ds_10) hr
    · show Qs us h0 n0 _ T2.heap _
      rw [e2]
      exact ⟨by rw [own_full], N2, rfl⟩
  · obtain ⟨cl, Ar, qk, Sz, Nn, Hs, Gs⟩ := Vt
    obtain ⟨T3, X3, e3, st3⟩ := getF X0 hx hZ hown (host := "") (Or.inl (hw _ (List.mem_of_getElem? (i := 22) rfl))) Via.refl e0 Fv (g := (mkF m 1 #[.val (.ref a1)] [(.ref a1)])) rfl rfl (hb hby ds_1)
    obtain ⟨cq4, kq4, q4a, q4b, q4c⟩ := isOf hZ e3 Ex
    obtain ⟨_, _, ⟨T4, L4, k4, n4⟩, -, X4, ⟨Lc4, hQ4, l4, y4, z4⟩, st4⟩ := X3.virtualBack hx (y := (⟨"java/lang/String", "coder", "()B"⟩ : MethodName)) (z := (⟨"java/lang/String", "coder", "()B"⟩ : MethodName)) hown (mvT hZ (hw _ (List.mem_of_getElem? (i := 63) rfl))) (mvT hZ (hw _ (List.mem_of_getElem? (i := 64) rfl))) (notFace_of_selects (args := #[]) (mvT hZ (hw _ (List.mem_of_getElem? (i := 66) rfl)))) (mvT hZ (hw _ (List.mem_of_getElem? (i := 66) rfl))) (mvT hZ (hw _ (List.mem_of_getElem? (i := 65) rfl))) (by decide) (backOf (W := 1) (rmq l Z a0 hw [] csx vF a1 (1 : Int32) h0 n0 Z0 St O0 Fc (by decide)) hZ (hw _ (List.mem_of_getElem? (i := 67) rfl)) (hw _ (List.mem_of_getElem? (i := 2) rfl)) (by decide) (by decide)) q4a q4c (g := (mkF m 6 #[.val (.ref a1)] [(.ref a1), (.int (Int32.ofNat (2 * us.length)))])) rfl (by rw [hml]; rfl) (Steps.refl _) (argsL := []) (rest := [(.int (Int32.ofNat (2 * us.length)))]) (lenOf pds_0 rfl) rfl (by show 2 * 0 + _ ≤ _; exact Nat.le_of_eq rfl) (hb hby ds_6) (fun _ _ => ⟨rfl, e3, (by decide : 0 + 0 ≤ _), (by decide : 0 + 0 ≤ _)⟩)
    dsimp only [Pt.U, Pt.locs, Pt.cells, Pt.slots] at X4 l4 y4 z4 st4 hQ4
    subst l4 y4 z4
    obtain ⟨rfl, Nq4, e4⟩ := hQ4
    have N4 := Fr.app N0 Nq4
    obtain ⟨fs, hr, hrun, hended, hW, hsame⟩ := X4.leave (v := some (.int ((Int32.ofNat (2 * us.length)) >>> ((1 : Int32) &&& 31)))) (fun h => by rw [Bd.returns] at h; cases h)
    refine ⟨_, _, pre0 _ ?_, hrun, hended, _, _, rfl, ?_, ⟨_, rfl⟩, hW, hsame.mono (by decide) (by decide)⟩
    · show Steps p.tables e below (s₁.setTop (mkF m 0 #[.val (.ref a1)] [])) _
      refine XS.aloadN X0.here hx rfl (hb hby ds_0) rfl rfl ?_
      show Steps p.tables e below (s₁.setTop (mkF m 1 #[.val (.ref a1)] [(.ref a1)])) _
      refine st3 _ ?_
      show Steps p.tables e below (T3.setTop (mkF m 4 #[.val (.ref a1)] [(.ref t)])) _
      refine X3.arraylength hx (by rw [e3]; exact Ar.1) (State.isArrayOf_alike hZ.alike Ar.2.1) (g := (mkF m 4 #[.val (.ref a1)] [(.ref t)])) rfl rfl (hb hby ds_4) _ ?_
      rw [len_of Sz Nn]
      show Steps p.tables e below (T3.setTop (mkF m 5 #[.val (.ref a1)] [(.int (Int32.ofNat (2 * us.length)))])) _
      refine XS.aloadN X3.here hx rfl (hb hby ds_5) rfl rfl ?_
      show Steps p.tables e below (T3.setTop (mkF m 6 #[.val (.ref a1)] [(.ref a1), (.int (Int32.ofNat (2 * us.length)))])) _
      refine st4.trans ?_
      show Steps p.tables e below (T4.setTop (mkF m 9 #[.val (.ref a1)] [(.int (1 : Int32)), (.int (Int32.ofNat (2 * us.length)))])) _
      refine XS.ishr X4.here hx rfl (hb hby ds_9) rfl ?_
      show Steps p.tables e below (T4.setTop (mkF m 10 #[.val (.ref a1)] [(.int ((Int32.ofNat (2 * us.length)) >>> ((1 : Int32) &&& 31)))])) _
      exact retI X4 hx Bd.returns (hb hby ds_10) hr
    · show Qs us h0 n0 _ T4.heap _
      rw [e4]
      exact ⟨by rw [own_half _ hu], N4, rfl⟩
theorem dt_0 : decode jdk_41_method_11_code 0 = .ok (.iload_n 0, 1) := by decide +kernel
theorem dt_1 : decode jdk_41_method_11_code 1 = .ok (.ifCond .lt 8, 3) := by decide +kernel
theorem dt_4 : decode jdk_41_method_11_code 4 = .ok (.iload_n 0, 1) := by decide +kernel
theorem dt_5 : decode jdk_41_method_11_code 5 = .ok (.iload_n 1, 1) := by decide +kernel
theorem dt_6 : decode jdk_41_method_11_code 6 = .ok (.if_icmp .lt 10, 3) := by decide +kernel
theorem dt_16 : decode jdk_41_method_11_code 16 = .ok (.iload_n 0, 1) := by decide +kernel
theorem dt_17 : decode jdk_41_method_11_code 17 = .ok (.ireturn, 1) := by decide +kernel
def Qt (p1 : Int32) (h0 : Heap) (n0 : Nat) (v : Option Value) (h : Heap) (L : List Loc) : Prop := v = some (.int p1) ∧ Fr n0 L ∧ h = h0
theorem pnt : plainName "jdk/internal/util/Preconditions" = true := by first | (simp [plainName, overriddenIn]; done) | decide +kernel
theorem eft (m : MethodId) (x0 : Int32) (x1 : Int32) (x2 : Value) (hF : x2.isRef = true) : entryFrame m #[(.int x0), (.int x1), x2] 3 = mkF m 0 #[.val (.int x0), .val (.int x1), .val x2] [] := by
  rcases ref_cases hF with rfl | ⟨z, rfl⟩ <;> first | (simp [entryFrame, mkF, argsToLocals, Value.category]; done) | rfl
set_option maxRecDepth 65536 in
set_option maxHeartbeats 40000000 in
theorem rmt (l : Launch) (Z : State) (a0 : Array Value) (hw : ∀ d ∈ tables_1, d.before a0 Z = true) (ws : List Jvm.Cond) (p1 p2 : Int32) (vF : Value) (h0 : Heap) (n0 : Nat) (Z0 : n0 ≤ h0.size) (hF : vF.isRef = true) (h1 : ¬ p1 < (0 : Int32)) (h2 : p1 < p2) :
    MetFree l (⟨"jdk/internal/util/Preconditions", "checkIndex", "(IILjava/util/function/BiFunction;)I"⟩ : MethodName) (head1 (Jvm.Cond.code (⟨"jdk/internal/util/Preconditions", "checkIndex", "(IILjava/util/function/BiFunction;)I"⟩ : MethodName) jdk_41_method_11_code 3 (some .int) :: ws) ({ frames := 0, cells := 0, slots := 0, locals := 0 } : Room)) (fun a U => a = #[(.int p1), (.int p2), vF] ∧ Z.Warmed39 U.vm ∧ U.heap = h0) (fun _ _ _ _ _ => True) (fun _ U o U' => ∃ v L, o = .returned v ∧ Qt p1 h0 n0 v U'.heap L ∧ FrameEnd U o U' L ({ frames := 0, cells := 0, slots := 0, locals := 0 } : Room).cells ({ frames := 0, cells := 0, slots := 0, locals := 0 } : Room).slots) := by
  refine MetFree.of_bodySF (plainFor_of_name pnt) hisR ?_
  intro p e s m args below meth c s₁ Bd hml0 hP hK
  obtain ⟨rfl, hZ, hh⟩ := hP
  have hx := Bd.exec
  have hby := Bd.bytes
  have hml : c.maxLocals = 3 := hml0
  have hown : s.vm.findClass "jdk/internal/util/Preconditions" = some m.cls := findClass_of_methodNamed Bd.named
  have hnm := (name_of_methodNamed Bd.named Bd.method).1
  have X0 : Stand p l e ({ frames := 0, cells := 0, slots := 0, locals := 0 } : Room) s m #[(.int p1), (.int p2), vF] below meth c s₁ [] 0 0 := Stand.of_body Bd
  have e0 : s₁.heap = h0 := by rw [← hh, Bd.state]; rfl
  have N0 := Fr.nil n0
  have pre0 : ∀ t, Steps p.tables e below (s₁.setTop (mkF m 0 #[.val (.int p1), .val (.int p2), .val vF] [])) t → Steps p.tables e below (s₁.setTop (entryFrame m #[(.int p1), (.int p2), vF] 3)) t := fun t k => castTop (eft m p1 p2 vF hF) k
  obtain ⟨fs, hr, hrun, hended, hW, hsame⟩ := X0.leave (v := some (.int p1)) (fun h => by rw [Bd.returns] at h; cases h)
  refine ⟨_, _, pre0 _ ?_, hrun, hended, _, _, rfl, ?_, ⟨_, rfl⟩, hW, hsame.mono (by decide) (by decide)⟩
  · show Steps p.tables e below (s₁.setTop (mkF m 0 #[.val (.int p1), .val (.int p2), .val vF] [])) _
    refine XS.iloadN X0.here hx rfl (hb hby dt_0) rfl ?_
    show Steps p.tables e below (s₁.setTop (mkF m 1 #[.val (.int p1), .val (.int p2), .val vF] [(.int p1)])) _
    refine XS.ifNo X0.here hx rfl (hb hby dt_1) rfl ((if0 _ _).trans (flt (h1 : ¬ (p1 < (0 : Int32)))).1) ?_
    show Steps p.tables e below (s₁.setTop (mkF m 4 #[.val (.int p1), .val (.int p2), .val vF] [])) _
    refine XS.iloadN X0.here hx rfl (hb hby dt_4) rfl ?_
    show Steps p.tables e below (s₁.setTop (mkF m 5 #[.val (.int p1), .val (.int p2), .val vF] [(.int p1)])) _
    refine XS.iloadN X0.here hx rfl (hb hby dt_5) rfl ?_
    show Steps p.tables e below (s₁.setTop (mkF m 6 #[.val (.int p1), .val (.int p2), .val vF] [(.int p2), (.int p1)])) _
    refine XS.icmpYes X0.here hx rfl (pc0 := 6) (pc' := 16) rfl (hb hby dt_6) rfl (tlt (h2 : p1 < p2)).1 (by decide) (by decide) ?_
    show Steps p.tables e below (s₁.setTop (mkF m 16 #[.val (.int p1), .val (.int p2), .val vF] [])) _
    refine XS.iloadN X0.here hx rfl (hb hby dt_16) rfl ?_
    show Steps p.tables e below (s₁.setTop (mkF m 17 #[.val (.int p1), .val (.int p2), .val vF] [(.int p1)])) _
    exact retI X0 hx Bd.returns (hb hby dt_17) hr
  · show Qt p1 h0 n0 _ s₁.heap _
    rw [e0]
    exact ⟨rfl, N0, rfl⟩
theorem du_0 : decode jdk_42_method_155_code 0 = .ok (.iload_n 0, 1) := by decide +kernel
theorem du_1 : decode jdk_42_method_155_code 1 = .ok (.iload_n 1, 1) := by decide +kernel
theorem du_2 : decode jdk_42_method_155_code 2 = .ok (.getstatic 1053, 3) := by decide +kernel
theorem du_5 : decode jdk_42_method_155_code 5 = .ok (.invokestatic 1059, 3) := by decide +kernel
theorem du_8 : decode jdk_42_method_155_code 8 = .ok (.pop, 1) := by decide +kernel
theorem du_9 : decode jdk_42_method_155_code 9 = .ok (.return_, 1) := by decide +kernel
theorem pdu_0 : parseMethodDescriptor "(IILjava/util/function/BiFunction;)I" = some ⟨[.int, .int, (.object "java/util/function/BiFunction")], some .int⟩ := by decide +kernel
def Qu (h0 : Heap) (n0 : Nat) (v : Option Value) (h : Heap) (L : List Loc) : Prop := v = none ∧ Fr n0 L ∧ h = h0
theorem pnu : plainName "java/lang/String" = true := by first | (simp [plainName, overriddenIn]; done) | decide +kernel
theorem efu (m : MethodId) (x0 : Int32) (x1 : Int32) : entryFrame m #[(.int x0), (.int x1)] 2 = mkF m 0 #[.val (.int x0), .val (.int x1)] [] := by first | (simp [entryFrame, mkF, argsToLocals, Value.category]; done) | rfl
set_option maxRecDepth 65536 in
set_option maxHeartbeats 40000000 in
theorem rmu (l : Launch) (Z : State) (a0 : Array Value) (hw : ∀ d ∈ tables_1, d.before a0 Z = true) (ws : List Jvm.Cond) (csx : Int32) (vF : Value) (p1 p2 : Int32) (h0 : Heap) (n0 : Nat) (Z0 : n0 ≤ h0.size) (St : own_St Z csx vF) (O0 : Old Z n0 h0) (h1 : ¬ p1 < (0 : Int32)) (h2 : p1 < p2) :
    MetFree l (⟨"java/lang/String", "checkIndex", "(II)V"⟩ : MethodName) (head1 (Jvm.Cond.code (⟨"java/lang/String", "checkIndex", "(II)V"⟩ : MethodName) jdk_42_method_155_code 2 none :: ws) ({ frames := 1, cells := 0, slots := 0, locals := 14 } : Room)) (fun a U => a = #[(.int p1), (.int p2)] ∧ Z.Warmed39 U.vm ∧ U.heap = h0) (fun _ _ _ _ _ => True) (fun _ U o U' => ∃ v L, o = .returned v ∧ Qu h0 n0 v U'.heap L ∧ FrameEnd U o U' L ({ frames := 1, cells := 0, slots := 0, locals := 14 } : Room).cells ({ frames := 1, cells := 0, slots := 0, locals := 14 } : Room).slots) := by
  refine MetFree.of_bodySF (plainFor_of_name pnu) hisR ?_
  intro p e s m args below meth c s₁ Bd hml0 hP hK
  obtain ⟨rfl, hZ, hh⟩ := hP
  have hx := Bd.exec
  have hby := Bd.bytes
  have hml : c.maxLocals = 2 := hml0
  have hown : s.vm.findClass "java/lang/String" = some m.cls := findClass_of_methodNamed Bd.named
  have hnm := (name_of_methodNamed Bd.named Bd.method).1
  have X0 : Stand p l e ({ frames := 1, cells := 0, slots := 0, locals := 14 } : Room) s m #[(.int p1), (.int p2)] below meth c s₁ [] 0 0 := Stand.of_body Bd
  have e0 : s₁.heap = h0 := by rw [← hh, Bd.state]; rfl
  have N0 := Fr.nil n0
  have pre0 : ∀ t, Steps p.tables e below (s₁.setTop (mkF m 0 #[.val (.int p1), .val (.int p2)] [])) t → Steps p.tables e below (s₁.setTop (entryFrame m #[(.int p1), (.int p2)] 2)) t := fun t k => castTop (efu m p1 p2) k
  obtain ⟨T1, X1, e1, st1⟩ := getS X0 hx hZ (host := "") hown (hw _ (List.mem_of_getElem? (i := 84) rfl)) Via.refl e0 (Sta.ext O0.2 St.2.2.1) (g := (mkF m 2 #[.val (.int p1), .val (.int p2)] [(.int p2), (.int p1)])) rfl (hb hby du_2)
  obtain ⟨_, _, ⟨T2, L2, k2, n2⟩, -, X2, ⟨Lc2, hQ2, l2, y2, z2⟩, st2⟩ := Jvm.LawKit.callS X1 hx (y := (⟨"jdk/internal/util/Preconditions", "checkIndex", "(IILjava/util/function/BiFunction;)I"⟩ : MethodName)) hown (mvT hZ (hw _ (List.mem_of_getElem? (i := 86) rfl))) (mvT hZ (hw _ (List.mem_of_getElem? (i := 87) rfl))) (mvT hZ (hw _ (List.mem_of_getElem? (i := 85) rfl))) (mvT hZ (hw _ (List.mem_of_getElem? (i := 88) rfl))) (by decide) (backOf (W := 0) (rmt l Z a0 hw [] p1 p2 vF h0 n0 Z0 St.2.2.2.1 h1 h2) hZ (hw _ (List.mem_of_getElem? (i := 88) rfl)) (hw _ (List.mem_of_getElem? (i := 85) rfl)) (by decide) (by decide)) (g := (mkF m 5 #[.val (.int p1), .val (.int p2)] [vF, (.int p2), (.int p1)])) rfl (by rw [hml]; rfl) (argsL := [(.int p1), (.int p2), vF]) (rest := []) (lenOf pdu_0 rfl) rfl (by show 2 * 0 + _ ≤ _; exact Nat.le_of_eq rfl) (hb hby du_5) (fun _ _ => ⟨rfl, e1, (by decide : 0 + 0 ≤ _), (by decide : 0 + 0 ≤ _)⟩)
  dsimp only [Pt.U, Pt.locs, Pt.cells, Pt.slots] at X2 l2 y2 z2 st2 hQ2
  subst l2 y2 z2
  obtain ⟨rfl, Nq2, e2⟩ := hQ2
  have N2 := Fr.app N0 Nq2
  obtain ⟨fs, hr, hrun, hended, hW, hsame⟩ := X2.leave (v := none) (fun _ => rfl)
  refine ⟨_, _, pre0 _ ?_, hrun, hended, _, _, rfl, ?_, ⟨_, rfl⟩, hW, hsame.mono (by decide) (by decide)⟩
  · show Steps p.tables e below (s₁.setTop (mkF m 0 #[.val (.int p1), .val (.int p2)] [])) _
    refine XS.iloadN X0.here hx rfl (hb hby du_0) rfl ?_
    show Steps p.tables e below (s₁.setTop (mkF m 1 #[.val (.int p1), .val (.int p2)] [(.int p1)])) _
    refine XS.iloadN X0.here hx rfl (hb hby du_1) rfl ?_
    show Steps p.tables e below (s₁.setTop (mkF m 2 #[.val (.int p1), .val (.int p2)] [(.int p2), (.int p1)])) _
    refine st1 _ ?_
    show Steps p.tables e below (T1.setTop (mkF m 5 #[.val (.int p1), .val (.int p2)] [vF, (.int p2), (.int p1)])) _
    refine st2 _ ?_
    show Steps p.tables e below (T2.setTop (mkF m 8 #[.val (.int p1), .val (.int p2)] [(.int p1)])) _
    refine XS.pop X2.here hx rfl (hb hby du_8) rfl rfl ?_
    show Steps p.tables e below (T2.setTop (mkF m 9 #[.val (.int p1), .val (.int p2)] [])) _
    exact X2.returnOut hx Bd.returns (hb hby du_9) hr
  · show Qu h0 n0 _ T2.heap _
    rw [e2]
    exact ⟨rfl, N2, rfl⟩
theorem dv_0 : decode jdk_43_method_2_code 0 = .ok (.iload_n 1, 1) := by decide +kernel
theorem dv_1 : decode jdk_43_method_2_code 1 = .ok (.aload_n 0, 1) := by decide +kernel
theorem dv_2 : decode jdk_43_method_2_code 2 = .ok (.arraylength, 1) := by decide +kernel
theorem dv_3 : decode jdk_43_method_2_code 3 = .ok (.invokestatic 9, 3) := by decide +kernel
theorem dv_6 : decode jdk_43_method_2_code 6 = .ok (.aload_n 0, 1) := by decide +kernel
theorem dv_7 : decode jdk_43_method_2_code 7 = .ok (.iload_n 1, 1) := by decide +kernel
theorem dv_8 : decode jdk_43_method_2_code 8 = .ok (.baload, 1) := by decide +kernel
theorem dv_9 : decode jdk_43_method_2_code 9 = .ok (.sipush 255, 3) := by decide +kernel
theorem dv_12 : decode jdk_43_method_2_code 12 = .ok (.iand, 1) := by decide +kernel
theorem dv_13 : decode jdk_43_method_2_code 13 = .ok (.i2c, 1) := by decide +kernel
theorem dv_14 : decode jdk_43_method_2_code 14 = .ok (.ireturn, 1) := by decide +kernel
theorem pdv_0 : parseMethodDescriptor "(II)V" = some ⟨[.int, .int], none⟩ := by decide +kernel
def Qv (u : UInt16) (h0 : Heap) (n0 : Nat) (v : Option Value) (h : Heap) (L : List Loc) : Prop := v = some (.int (own_ch u)) ∧ Fr n0 L ∧ h = h0
theorem pnv : plainName "java/lang/StringLatin1" = true := by first | (simp [plainName, overriddenIn]; done) | decide +kernel
theorem efv (m : MethodId) (x0 : Addr) (x1 : Int32) : entryFrame m #[(.ref x0), (.int x1)] 2 = mkF m 0 #[.val (.ref x0), .val (.int x1)] [] := by first | (simp [entryFrame, mkF, argsToLocals, Value.category]; done) | rfl
set_option maxRecDepth 65536 in
set_option maxHeartbeats 40000000 in
theorem rmv (l : Launch) (Z : State) (a0 : Array Value) (hw : ∀ d ∈ tables_1, d.before a0 Z = true) (ws : List Jvm.Cond) (csx : Int32) (vF : Value) (a1 : Addr) (i n : Nat) (u : UInt16) (cl : Cell) (h0 : Heap) (n0 : Nat) (Z0 : n0 ≤ h0.size) (St : own_St Z csx vF) (O0 : Old Z n0 h0) (hn : n < 9) (hi : i < n) (Ar : Arr Z h0 a1 cl .byte) (Sz : cl.slots.size = (Int32.ofNat n).toNatClampNeg) (hat : cl.slots[i]? = some (.int (own_l u))) (hl : ¬ (255 : Int32) < own_ch u) :
    MetFree l (⟨"java/lang/StringLatin1", "charAt", "([BI)C"⟩ : MethodName) (head1 (Jvm.Cond.code (⟨"java/lang/StringLatin1", "charAt", "([BI)C"⟩ : MethodName) jdk_43_method_2_code 2 (some .char) :: ws) ({ frames := 2, cells := 0, slots := 0, locals := 27 } : Room)) (fun a U => a = #[(.ref a1), (.int (Int32.ofNat i))] ∧ Z.Warmed39 U.vm ∧ U.heap = h0) (fun _ _ _ _ _ => True) (fun _ U o U' => ∃ v L, o = .returned v ∧ Qv u h0 n0 v U'.heap L ∧ FrameEnd U o U' L ({ frames := 2, cells := 0, slots := 0, locals := 27 } : Room).cells ({ frames := 2, cells := 0, slots := 0, locals := 27 } : Room).slots) := by
  refine MetFree.of_bodySF (plainFor_of_name pnv) hisR ?_
  intro p e s m args below meth c s₁ Bd hml0 hP hK
  obtain ⟨rfl, hZ, hh⟩ := hP
  have hx := Bd.exec
  have hby := Bd.bytes
  have hml : c.maxLocals = 2 := hml0
  have hown : s.vm.findClass "java/lang/StringLatin1" = some m.cls := findClass_of_methodNamed Bd.named
  have hnm := (name_of_methodNamed Bd.named Bd.method).1
  have X0 : Stand p l e ({ frames := 2, cells := 0, slots := 0, locals := 27 } : Room) s m #[(.ref a1), (.int (Int32.ofNat i))] below meth c s₁ [] 0 0 := Stand.of_body Bd
  have e0 : s₁.heap = h0 := by rw [← hh, Bd.state]; rfl
  have N0 := Fr.nil n0
  have pre0 : ∀ t, Steps p.tables e below (s₁.setTop (mkF m 0 #[.val (.ref a1), .val (.int (Int32.ofNat i))] [])) t → Steps p.tables e below (s₁.setTop (entryFrame m #[(.ref a1), (.int (Int32.ofNat i))] 2)) t := fun t k => castTop (efv m a1 (Int32.ofNat i)) k
  obtain ⟨_, _, ⟨T1, L1, k1, n1⟩, -, X1, ⟨Lc1, hQ1, l1, y1, z1⟩, st1⟩ := Jvm.LawKit.callS X0 hx (y := (⟨"java/lang/String", "checkIndex", "(II)V"⟩ : MethodName)) hown (mvT hZ (hw _ (List.mem_of_getElem? (i := 81) rfl))) (mvT hZ (hw _ (List.mem_of_getElem? (i := 82) rfl))) (mvT hZ (hw _ (List.mem_of_getElem? (i := 2) rfl))) (mvT hZ (hw _ (List.mem_of_getElem? (i := 83) rfl))) (by decide) (backOf (W := 0) (rmu l Z a0 hw [] csx vF (Int32.ofNat i) (Int32.ofNat n) h0 n0 Z0 St O0 (own_nn i (by omega)) (own_lti n hn i hi)) hZ (hw _ (List.mem_of_getElem? (i := 83) rfl)) (hw _ (List.mem_of_getElem? (i := 2) rfl)) (by decide) (by decide)) (g := (mkF m 3 #[.val (.ref a1), .val (.int (Int32.ofNat i))] [(.int (Int32.ofNat n)), (.int (Int32.ofNat i))])) rfl (by rw [hml]; rfl) (argsL := [(.int (Int32.ofNat i)), (.int (Int32.ofNat n))]) (rest := []) (lenOf pdv_0 rfl) rfl (by show 2 * 0 + _ ≤ _; exact Nat.le_of_eq rfl) (hb hby dv_3) (fun _ _ => ⟨rfl, e0, (by decide : 0 + 0 ≤ _), (by decide : 0 + 0 ≤ _)⟩)
  dsimp only [Pt.U, Pt.locs, Pt.cells, Pt.slots] at X1 l1 y1 z1 st1 hQ1
  subst l1 y1 z1
  obtain ⟨rfl, Nq1, e1⟩ := hQ1
  have N1 := Fr.app N0 Nq1
  obtain ⟨fs, hr, hrun, hended, hW, hsame⟩ := X1.leave (v := some (.int (nar .char (((own_l u) &&& (255 : Int32)).toUInt32.toUInt16.toUInt32.toInt32)))) (fun h => by rw [Bd.returns] at h; cases h)
  refine ⟨_, _, pre0 _ ?_, hrun, hended, _, _, rfl, ?_, ⟨_, rfl⟩, hW, hsame.mono (by decide) (by decide)⟩
  · show Steps p.tables e below (s₁.setTop (mkF m 0 #[.val (.ref a1), .val (.int (Int32.ofNat i))] [])) _
    refine XS.iloadN X0.here hx rfl (hb hby dv_0) rfl ?_
    show Steps p.tables e below (s₁.setTop (mkF m 1 #[.val (.ref a1), .val (.int (Int32.ofNat i))] [(.int (Int32.ofNat i))])) _
    refine XS.aloadN X0.here hx rfl (hb hby dv_1) rfl rfl ?_
    show Steps p.tables e below (s₁.setTop (mkF m 2 #[.val (.ref a1), .val (.int (Int32.ofNat i))] [(.ref a1), (.int (Int32.ofNat i))])) _
    refine X0.arraylength hx (by rw [e0]; exact Ar.1) (State.isArrayOf_alike hZ.alike Ar.2.1) (g := (mkF m 2 #[.val (.ref a1), .val (.int (Int32.ofNat i))] [(.ref a1), (.int (Int32.ofNat i))])) rfl rfl (hb hby dv_2) _ ?_
    rw [len_of Sz (own_nn n hn)]
    show Steps p.tables e below (s₁.setTop (mkF m 3 #[.val (.ref a1), .val (.int (Int32.ofNat i))] [(.int (Int32.ofNat n)), (.int (Int32.ofNat i))])) _
    refine st1 _ ?_
    show Steps p.tables e below (T1.setTop (mkF m 6 #[.val (.ref a1), .val (.int (Int32.ofNat i))] [])) _
    refine XS.aloadN X1.here hx rfl (hb hby dv_6) rfl rfl ?_
    show Steps p.tables e below (T1.setTop (mkF m 7 #[.val (.ref a1), .val (.int (Int32.ofNat i))] [(.ref a1)])) _
    refine XS.iloadN X1.here hx rfl (hb hby dv_7) rfl ?_
    show Steps p.tables e below (T1.setTop (mkF m 8 #[.val (.ref a1), .val (.int (Int32.ofNat i))] [(.int (Int32.ofNat i)), (.ref a1)])) _
    refine X1.baloadBytes hx (j := (Int32.ofNat i)) (v := (.int (own_l u))) (by rw [e1]; exact Ar.1) (State.isArrayOf_alike hZ.alike Ar.2.1) Ar.2.2 (by rw [Sz, own_n32 n hn, own_n32 i (by omega)]; exact fun q => q.elim (own_nn i (by omega)) (fun q => by omega)) (by rw [own_n32 i (by omega)]; exact hat) (g := (mkF m 8 #[.val (.ref a1), .val (.int (Int32.ofNat i))] [(.int (Int32.ofNat i)), (.ref a1)])) rfl rfl (hb hby dv_8) _ ?_
    show Steps p.tables e below (T1.setTop (mkF m 9 #[.val (.ref a1), .val (.int (Int32.ofNat i))] [(.int (own_l u))])) _
    refine XS.sipush X1.here hx rfl (hb hby dv_9) ?_
    show Steps p.tables e below (T1.setTop (mkF m 12 #[.val (.ref a1), .val (.int (Int32.ofNat i))] [(.int (255 : Int32)), (.int (own_l u))])) _
    refine XS.iand X1.here hx rfl (hb hby dv_12) rfl ?_
    show Steps p.tables e below (T1.setTop (mkF m 13 #[.val (.ref a1), .val (.int (Int32.ofNat i))] [(.int ((own_l u) &&& (255 : Int32)))])) _
    refine XS.i2c X1.here hx rfl (hb hby dv_13) rfl ?_
    show Steps p.tables e below (T1.setTop (mkF m 14 #[.val (.ref a1), .val (.int (Int32.ofNat i))] [(.int (((own_l u) &&& (255 : Int32)).toUInt32.toUInt16.toUInt32.toInt32))])) _
    exact retN X1 hx (t := .char) Bd.returns (by simp) (hb hby dv_14) hr
  · show Qv u h0 n0 _ T1.heap _
    rw [e1]
    exact ⟨by rw [own_getl u hl], N1, rfl⟩
theorem dw_0 : decode jdk_52_method_6_code 0 = .ok (.aload_n 0, 1) := by decide +kernel
theorem dw_1 : decode jdk_52_method_6_code 1 = .ok (.arraylength, 1) := by decide +kernel
theorem dw_2 : decode jdk_52_method_6_code 2 = .ok (.iconst 1, 1) := by decide +kernel
theorem dw_3 : decode jdk_52_method_6_code 3 = .ok (.ishr, 1) := by decide +kernel
theorem dw_4 : decode jdk_52_method_6_code 4 = .ok (.ireturn, 1) := by decide +kernel
def Qw (n : Nat) (h0 : Heap) (n0 : Nat) (v : Option Value) (h : Heap) (L : List Loc) : Prop := v = some (.int (Int32.ofNat n)) ∧ Fr n0 L ∧ h = h0
theorem pnw : plainName "java/lang/StringUTF16" = true := by first | (simp [plainName, overriddenIn]; done) | decide +kernel
theorem efw (m : MethodId) (x0 : Addr) : entryFrame m #[(.ref x0)] 1 = mkF m 0 #[.val (.ref x0)] [] := by first | (simp [entryFrame, mkF, argsToLocals, Value.category]; done) | rfl
set_option maxRecDepth 65536 in
set_option maxHeartbeats 40000000 in
theorem rmw (l : Launch) (Z : State) (a0 : Array Value) (hw : ∀ d ∈ tables_1, d.before a0 Z = true) (ws : List Jvm.Cond) (a1 : Addr) (n : Nat) (cl : Cell) (h0 : Heap) (n0 : Nat) (Z0 : n0 ≤ h0.size) (hn : n < 4) (Ar : Arr Z h0 a1 cl .byte) (Sz : cl.slots.size = (Int32.ofNat (2 * n)).toNatClampNeg) :
    MetFree l (⟨"java/lang/StringUTF16", "length", "([B)I"⟩ : MethodName) (head1 (Jvm.Cond.code (⟨"java/lang/StringUTF16", "length", "([B)I"⟩ : MethodName) jdk_52_method_6_code 1 (some .int) :: ws) ({ frames := 0, cells := 0, slots := 0, locals := 0 } : Room)) (fun a U => a = #[(.ref a1)] ∧ Z.Warmed39 U.vm ∧ U.heap = h0) (fun _ _ _ _ _ => True) (fun _ U o U' => ∃ v L, o = .returned v ∧ Qw n h0 n0 v U'.heap L ∧ FrameEnd U o U' L ({ frames := 0, cells := 0, slots := 0, locals := 0 } : Room).cells ({ frames := 0, cells := 0, slots := 0, locals := 0 } : Room).slots) := by
  refine MetFree.of_bodySF (plainFor_of_name pnw) hisR ?_
  intro p e s m args below meth c s₁ Bd hml0 hP hK
  obtain ⟨rfl, hZ, hh⟩ := hP
  have hx := Bd.exec
  have hby := Bd.bytes
  have hml : c.maxLocals = 1 := hml0
  have hown : s.vm.findClass "java/lang/StringUTF16" = some m.cls := findClass_of_methodNamed Bd.named
  have hnm := (name_of_methodNamed Bd.named Bd.method).1
  have X0 : Stand p l e ({ frames := 0, cells := 0, slots := 0, locals := 0 } : Room) s m #[(.ref a1)] below meth c s₁ [] 0 0 := Stand.of_body Bd
  have e0 : s₁.heap = h0 := by rw [← hh, Bd.state]; rfl
  have N0 := Fr.nil n0
  have pre0 : ∀ t, Steps p.tables e below (s₁.setTop (mkF m 0 #[.val (.ref a1)] [])) t → Steps p.tables e below (s₁.setTop (entryFrame m #[(.ref a1)] 1)) t := fun t k => castTop (efw m a1) k
  obtain ⟨fs, hr, hrun, hended, hW, hsame⟩ := X0.leave (v := some (.int ((Int32.ofNat (2 * n)) >>> ((1 : Int32) &&& 31)))) (fun h => by rw [Bd.returns] at h; cases h)
  refine ⟨_, _, pre0 _ ?_, hrun, hended, _, _, rfl, ?_, ⟨_, rfl⟩, hW, hsame.mono (by decide) (by decide)⟩
  · show Steps p.tables e below (s₁.setTop (mkF m 0 #[.val (.ref a1)] [])) _
    refine XS.aloadN X0.here hx rfl (hb hby dw_0) rfl rfl ?_
    show Steps p.tables e below (s₁.setTop (mkF m 1 #[.val (.ref a1)] [(.ref a1)])) _
    refine X0.arraylength hx (by rw [e0]; exact Ar.1) (State.isArrayOf_alike hZ.alike Ar.2.1) (g := (mkF m 1 #[.val (.ref a1)] [(.ref a1)])) rfl rfl (hb hby dw_1) _ ?_
    rw [len_of Sz (own_nn (2 * n) (by omega))]
    show Steps p.tables e below (s₁.setTop (mkF m 2 #[.val (.ref a1)] [(.int (Int32.ofNat (2 * n)))])) _
    refine XS.iconst X0.here hx rfl (hb hby dw_2) ?_
    show Steps p.tables e below (s₁.setTop (mkF m 3 #[.val (.ref a1)] [(.int (1 : Int32)), (.int (Int32.ofNat (2 * n)))])) _
    refine XS.ishr X0.here hx rfl (hb hby dw_3) rfl ?_
    show Steps p.tables e below (s₁.setTop (mkF m 4 #[.val (.ref a1)] [(.int ((Int32.ofNat (2 * n)) >>> ((1 : Int32) &&& 31)))])) _
    exact retI X0 hx Bd.returns (hb hby dw_4) hr
  · show Qw n h0 n0 _ s₁.heap _
    rw [e0]
    exact ⟨by rw [own_half n hn], N0, rfl⟩
theorem dx_0 : decode jdk_52_method_91_code 0 = .ok (.iload_n 0, 1) := by decide +kernel
theorem dx_1 : decode jdk_52_method_91_code 1 = .ok (.aload_n 1, 1) := by decide +kernel
theorem dx_2 : decode jdk_52_method_91_code 2 = .ok (.invokestatic 48, 3) := by decide +kernel
theorem dx_5 : decode jdk_52_method_91_code 5 = .ok (.invokestatic 414, 3) := by decide +kernel
theorem dx_8 : decode jdk_52_method_91_code 8 = .ok (.return_, 1) := by decide +kernel
theorem pdx_0 : parseMethodDescriptor "([B)I" = some ⟨[(.array .byte)], some .int⟩ := by decide +kernel
theorem pdx_1 : parseMethodDescriptor "(II)V" = some ⟨[.int, .int], none⟩ := by decide +kernel
def Qx (h0 : Heap) (n0 : Nat) (v : Option Value) (h : Heap) (L : List Loc) : Prop := v = none ∧ Fr n0 L ∧ h = h0
theorem pnx : plainName "java/lang/StringUTF16" = true := by first | (simp [plainName, overriddenIn]; done) | decide +kernel
theorem efx (m : MethodId) (x0 : Int32) (x1 : Addr) : entryFrame m #[(.int x0), (.ref x1)] 2 = mkF m 0 #[.val (.int x0), .val (.ref x1)] [] := by first | (simp [entryFrame, mkF, argsToLocals, Value.category]; done) | rfl
set_option maxRecDepth 65536 in
set_option maxHeartbeats 40000000 in
theorem rmx (l : Launch) (Z : State) (a0 : Array Value) (hw : ∀ d ∈ tables_1, d.before a0 Z = true) (ws : List Jvm.Cond) (csx : Int32) (vF : Value) (a1 : Addr) (i n : Nat) (cl : Cell) (h0 : Heap) (n0 : Nat) (Z0 : n0 ≤ h0.size) (St : own_St Z csx vF) (O0 : Old Z n0 h0) (hi : i < n) (hn : n < 4) (Ar : Arr Z h0 a1 cl .byte) (Sz : cl.slots.size = (Int32.ofNat (2 * n)).toNatClampNeg) :
    MetFree l (⟨"java/lang/StringUTF16", "checkIndex", "(I[B)V"⟩ : MethodName) (head1 (Jvm.Cond.code (⟨"java/lang/StringUTF16", "checkIndex", "(I[B)V"⟩ : MethodName) jdk_52_method_91_code 2 none :: ws) ({ frames := 2, cells := 0, slots := 0, locals := 27 } : Room)) (fun a U => a = #[(.int (Int32.ofNat i)), (.ref a1)] ∧ Z.Warmed39 U.vm ∧ U.heap = h0) (fun _ _ _ _ _ => True) (fun _ U o U' => ∃ v L, o = .returned v ∧ Qx h0 n0 v U'.heap L ∧ FrameEnd U o U' L ({ frames := 2, cells := 0, slots := 0, locals := 27 } : Room).cells ({ frames := 2, cells := 0, slots := 0, locals := 27 } : Room).slots) := by
  refine MetFree.of_bodySF (plainFor_of_name pnx) hisR ?_
  intro p e s m args below meth c s₁ Bd hml0 hP hK
  obtain ⟨rfl, hZ, hh⟩ := hP
  have hx := Bd.exec
  have hby := Bd.bytes
  have hml : c.maxLocals = 2 := hml0
  have hown : s.vm.findClass "java/lang/StringUTF16" = some m.cls := findClass_of_methodNamed Bd.named
  have hnm := (name_of_methodNamed Bd.named Bd.method).1
  have X0 : Stand p l e ({ frames := 2, cells := 0, slots := 0, locals := 27 } : Room) s m #[(.int (Int32.ofNat i)), (.ref a1)] below meth c s₁ [] 0 0 := Stand.of_body Bd
  have e0 : s₁.heap = h0 := by rw [← hh, Bd.state]; rfl
  have N0 := Fr.nil n0
  have pre0 : ∀ t, Steps p.tables e below (s₁.setTop (mkF m 0 #[.val (.int (Int32.ofNat i)), .val (.ref a1)] [])) t → Steps p.tables e below (s₁.setTop (entryFrame m #[(.int (Int32.ofNat i)), (.ref a1)] 2)) t := fun t k => castTop (efx m (Int32.ofNat i) a1) k
  obtain ⟨_, _, ⟨T1, L1, k1, n1⟩, -, X1, ⟨Lc1, hQ1, l1, y1, z1⟩, st1⟩ := Jvm.LawKit.callS X0 hx (y := (⟨"java/lang/StringUTF16", "length", "([B)I"⟩ : MethodName)) hown (mvT hZ (hw _ (List.mem_of_getElem? (i := 141) rfl))) (mvT hZ (hw _ (List.mem_of_getElem? (i := 142) rfl))) (mvT hZ (hw _ (List.mem_of_getElem? (i := 36) rfl))) (mvT hZ (hw _ (List.mem_of_getElem? (i := 143) rfl))) (by decide) (backOf (W := 1) (rmw l Z a0 hw [] a1 n cl h0 n0 Z0 hn Ar Sz) hZ (hw _ (List.mem_of_getElem? (i := 143) rfl)) (hw _ (List.mem_of_getElem? (i := 36) rfl)) (by decide) (by decide)) (g := (mkF m 2 #[.val (.int (Int32.ofNat i)), .val (.ref a1)] [(.ref a1), (.int (Int32.ofNat i))])) rfl (by rw [hml]; rfl) (argsL := [(.ref a1)]) (rest := [(.int (Int32.ofNat i))]) (lenOf pdx_0 rfl) rfl (by show 2 * 0 + _ ≤ _; exact Nat.le_of_eq rfl) (hb hby dx_2) (fun _ _ => ⟨rfl, e0, (by decide : 0 + 0 ≤ _), (by decide : 0 + 0 ≤ _)⟩)
  dsimp only [Pt.U, Pt.locs, Pt.cells, Pt.slots] at X1 l1 y1 z1 st1 hQ1
  subst l1 y1 z1
  obtain ⟨rfl, Nq1, e1⟩ := hQ1
  have N1 := Fr.app N0 Nq1
  obtain ⟨_, _, ⟨T2, L2, k2, n2⟩, -, X2, ⟨Lc2, hQ2, l2, y2, z2⟩, st2⟩ := Jvm.LawKit.callS X1 hx (y := (⟨"java/lang/String", "checkIndex", "(II)V"⟩ : MethodName)) hown (mvT hZ (hw _ (List.mem_of_getElem? (i := 144) rfl))) (mvT hZ (hw _ (List.mem_of_getElem? (i := 82) rfl))) (mvT hZ (hw _ (List.mem_of_getElem? (i := 2) rfl))) (mvT hZ (hw _ (List.mem_of_getElem? (i := 83) rfl))) (by decide) (backOf (W := 0) (rmu l Z a0 hw [] csx vF (Int32.ofNat i) (Int32.ofNat n) h0 n0 Z0 St O0 (own_nn i (by omega)) (own_lti n (by omega) i hi)) hZ (hw _ (List.mem_of_getElem? (i := 83) rfl)) (hw _ (List.mem_of_getElem? (i := 2) rfl)) (by decide) (by decide)) (g := (mkF m 5 #[.val (.int (Int32.ofNat i)), .val (.ref a1)] [(.int (Int32.ofNat n)), (.int (Int32.ofNat i))])) rfl (by rw [hml]; rfl) (argsL := [(.int (Int32.ofNat i)), (.int (Int32.ofNat n))]) (rest := []) (lenOf pdx_1 rfl) rfl (by show 2 * 0 + _ ≤ _; exact Nat.le_of_eq rfl) (hb hby dx_5) (fun _ _ => ⟨rfl, e1, (by decide : 0 + 0 ≤ _), (by decide : 0 + 0 ≤ _)⟩)
  dsimp only [Pt.U, Pt.locs, Pt.cells, Pt.slots] at X2 l2 y2 z2 st2 hQ2
  subst l2 y2 z2
  obtain ⟨rfl, Nq2, e2⟩ := hQ2
  have N2 := Fr.app N1 Nq2
  obtain ⟨fs, hr, hrun, hended, hW, hsame⟩ := X2.leave (v := none) (fun _ => rfl)
  refine ⟨_, _, pre0 _ ?_, hrun, hended, _, _, rfl, ?_, ⟨_, rfl⟩, hW, hsame.mono (by decide) (by decide)⟩
  · show Steps p.tables e below (s₁.setTop (mkF m 0 #[.val (.int (Int32.ofNat i)), .val (.ref a1)] [])) _
    refine XS.iloadN X0.here hx rfl (hb hby dx_0) rfl ?_
    show Steps p.tables e below (s₁.setTop (mkF m 1 #[.val (.int (Int32.ofNat i)), .val (.ref a1)] [(.int (Int32.ofNat i))])) _
    refine XS.aloadN X0.here hx rfl (hb hby dx_1) rfl rfl ?_
    show Steps p.tables e below (s₁.setTop (mkF m 2 #[.val (.int (Int32.ofNat i)), .val (.ref a1)] [(.ref a1), (.int (Int32.ofNat i))])) _
    refine st1 _ ?_
    show Steps p.tables e below (T1.setTop (mkF m 5 #[.val (.int (Int32.ofNat i)), .val (.ref a1)] [(.int (Int32.ofNat n)), (.int (Int32.ofNat i))])) _
    refine st2 _ ?_
    show Steps p.tables e below (T2.setTop (mkF m 8 #[.val (.int (Int32.ofNat i)), .val (.ref a1)] [])) _
    exact X2.returnOut hx Bd.returns (hb hby dx_8) hr
  · show Qx h0 n0 _ T2.heap _
    rw [e2]
    exact ⟨rfl, N2, rfl⟩
theorem dy_0 : decode jdk_52_method_83_code 0 = .ok (.iload_n 1, 1) := by decide +kernel
theorem dy_1 : decode jdk_52_method_83_code 1 = .ok (.aload_n 0, 1) := by decide +kernel
theorem dy_2 : decode jdk_52_method_83_code 2 = .ok (.invokestatic 67, 3) := by decide +kernel
theorem dy_5 : decode jdk_52_method_83_code 5 = .ok (.aload_n 0, 1) := by decide +kernel
theorem dy_6 : decode jdk_52_method_83_code 6 = .ok (.iload_n 1, 1) := by decide +kernel
theorem dy_7 : decode jdk_52_method_83_code 7 = .ok (.invokestatic 71, 3) := by decide +kernel
theorem dy_10 : decode jdk_52_method_83_code 10 = .ok (.ireturn, 1) := by decide +kernel
theorem pdy_0 : parseMethodDescriptor "(I[B)V" = some ⟨[.int, (.array .byte)], none⟩ := by decide +kernel
theorem pdy_1 : parseMethodDescriptor "([BI)C" = some ⟨[(.array .byte), .int], some .char⟩ := by decide +kernel
def Qy (u : UInt16) (h0 : Heap) (n0 : Nat) (v : Option Value) (h : Heap) (L : List Loc) : Prop := v = some (.int (own_ch u)) ∧ Fr n0 L ∧ h = h0
theorem pny : plainName "java/lang/StringUTF16" = true := by first | (simp [plainName, overriddenIn]; done) | decide +kernel
theorem efy (m : MethodId) (x0 : Addr) (x1 : Int32) : entryFrame m #[(.ref x0), (.int x1)] 2 = mkF m 0 #[.val (.ref x0), .val (.int x1)] [] := by first | (simp [entryFrame, mkF, argsToLocals, Value.category]; done) | rfl
set_option maxRecDepth 65536 in
set_option maxHeartbeats 40000000 in
theorem rmy (l : Launch) (Z : State) (a0 : Array Value) (hw : ∀ d ∈ tables_1, d.before a0 Z = true) (ws : List Jvm.Cond) (csx : Int32) (vF : Value) (a1 : Addr) (i n : Nat) (u : UInt16) (cl : Cell) (h0 : Heap) (n0 : Nat) (Z0 : n0 ≤ h0.size) (St : own_St Z csx vF) (O0 : Old Z n0 h0) (h2 : i < 2) (hi : i < n) (hn : n < 4) (Ar : Arr Z h0 a1 cl .byte) (Sz : cl.slots.size = (Int32.ofNat (2 * n)).toNatClampNeg) (ha : cl.slots[2 * i]? = some (.int (own_b0 u))) (hb' : cl.slots[2 * i + 1]? = some (.int (own_b1 u))) :
    MetFree l (⟨"java/lang/StringUTF16", "charAt", "([BI)C"⟩ : MethodName) (head1 (Jvm.Cond.code (⟨"java/lang/StringUTF16", "charAt", "([BI)C"⟩ : MethodName) jdk_52_method_83_code 2 (some .char) :: ws) ({ frames := 3, cells := 0, slots := 0, locals := 40 } : Room)) (fun a U => a = #[(.ref a1), (.int (Int32.ofNat i))] ∧ Z.Warmed39 U.vm ∧ U.heap = h0) (fun _ _ _ _ _ => True) (fun _ U o U' => ∃ v L, o = .returned v ∧ Qy u h0 n0 v U'.heap L ∧ FrameEnd U o U' L ({ frames := 3, cells := 0, slots := 0, locals := 40 } : Room).cells ({ frames := 3, cells := 0, slots := 0, locals := 40 } : Room).slots) := by
  refine MetFree.of_bodySF (plainFor_of_name pny) hisR ?_
  intro p e s m args below meth c s₁ Bd hml0 hP hK
  obtain ⟨rfl, hZ, hh⟩ := hP
  have hx := Bd.exec
  have hby := Bd.bytes
  have hml : c.maxLocals = 2 := hml0
  have hown : s.vm.findClass "java/lang/StringUTF16" = some m.cls := findClass_of_methodNamed Bd.named
  have hnm := (name_of_methodNamed Bd.named Bd.method).1
  have X0 : Stand p l e ({ frames := 3, cells := 0, slots := 0, locals := 40 } : Room) s m #[(.ref a1), (.int (Int32.ofNat i))] below meth c s₁ [] 0 0 := Stand.of_body Bd
  have e0 : s₁.heap = h0 := by rw [← hh, Bd.state]; rfl
  have N0 := Fr.nil n0
  have pre0 : ∀ t, Steps p.tables e below (s₁.setTop (mkF m 0 #[.val (.ref a1), .val (.int (Int32.ofNat i))] [])) t → Steps p.tables e below (s₁.setTop (entryFrame m #[(.ref a1), (.int (Int32.ofNat i))] 2)) t := fun t k => castTop (efy m a1 (Int32.ofNat i)) k
  obtain ⟨_, _, ⟨T1, L1, k1, n1⟩, -, X1, ⟨Lc1, hQ1, l1, y1, z1⟩, st1⟩ := Jvm.LawKit.callS X0 hx (y := (⟨"java/lang/StringUTF16", "checkIndex", "(I[B)V"⟩ : MethodName)) hown (mvT hZ (hw _ (List.mem_of_getElem? (i := 138) rfl))) (mvT hZ (hw _ (List.mem_of_getElem? (i := 139) rfl))) (mvT hZ (hw _ (List.mem_of_getElem? (i := 36) rfl))) (mvT hZ (hw _ (List.mem_of_getElem? (i := 140) rfl))) (by decide) (backOf (W := 0) (rmx l Z a0 hw [] csx vF a1 i n cl h0 n0 Z0 St O0 hi hn Ar Sz) hZ (hw _ (List.mem_of_getElem? (i := 140) rfl)) (hw _ (List.mem_of_getElem? (i := 36) rfl)) (by decide) (by decide)) (g := (mkF m 2 #[.val (.ref a1), .val (.int (Int32.ofNat i))] [(.ref a1), (.int (Int32.ofNat i))])) rfl (by rw [hml]; rfl) (argsL := [(.int (Int32.ofNat i)), (.ref a1)]) (rest := []) (lenOf pdy_0 rfl) rfl (by show 2 * 0 + _ ≤ _; exact Nat.le_of_eq rfl) (hb hby dy_2) (fun _ _ => ⟨rfl, e0, (by decide : 0 + 0 ≤ _), (by decide : 0 + 0 ≤ _)⟩)
  dsimp only [Pt.U, Pt.locs, Pt.cells, Pt.slots] at X1 l1 y1 z1 st1 hQ1
  subst l1 y1 z1
  obtain ⟨rfl, Nq1, e1⟩ := hQ1
  have N1 := Fr.app N0 Nq1
  obtain ⟨_, _, ⟨T2, L2, k2, n2⟩, -, X2, ⟨Lc2, hQ2, l2, y2, z2⟩, st2⟩ := Jvm.LawKit.callS X1 hx (y := (⟨"java/lang/StringUTF16", "getChar", "([BI)C"⟩ : MethodName)) hown (mvT hZ (hw _ (List.mem_of_getElem? (i := 132) rfl))) (mvT hZ (hw _ (List.mem_of_getElem? (i := 133) rfl))) (mvT hZ (hw _ (List.mem_of_getElem? (i := 36) rfl))) (mvT hZ (hw _ (List.mem_of_getElem? (i := 134) rfl))) (by decide) (backOf (W := 0) (rmj l Z a0 hw [] csx vF a1 i u cl h0 n0 Z0 St O0 h2 Ar (by rw [Sz, own_n32 (2 * n) (by omega)]; omega) ha hb') hZ (hw _ (List.mem_of_getElem? (i := 134) rfl)) (hw _ (List.mem_of_getElem? (i := 36) rfl)) (by decide) (by decide)) (g := (mkF m 7 #[.val (.ref a1), .val (.int (Int32.ofNat i))] [(.int (Int32.ofNat i)), (.ref a1)])) rfl (by rw [hml]; rfl) (argsL := [(.ref a1), (.int (Int32.ofNat i))]) (rest := []) (lenOf pdy_1 rfl) rfl (by show 2 * 0 + _ ≤ _; exact Nat.le_of_eq rfl) (hb hby dy_7) (fun _ _ => ⟨rfl, e1, (by decide : 0 + 0 ≤ _), (by decide : 0 + 0 ≤ _)⟩)
  dsimp only [Pt.U, Pt.locs, Pt.cells, Pt.slots] at X2 l2 y2 z2 st2 hQ2
  subst l2 y2 z2
  obtain ⟨rfl, Nq2, e2⟩ := hQ2
  have N2 := Fr.app N1 Nq2
  obtain ⟨fs, hr, hrun, hended, hW, hsame⟩ := X2.leave (v := some (.int (nar .char (own_ch u)))) (fun h => by rw [Bd.returns] at h; cases h)
  refine ⟨_, _, pre0 _ ?_, hrun, hended, _, _, rfl, ?_, ⟨_, rfl⟩, hW, hsame.mono (by decide) (by decide)⟩
  · show Steps p.tables e below (s₁.setTop (mkF m 0 #[.val (.ref a1), .val (.int (Int32.ofNat i))] [])) _
    refine XS.iloadN X0.here hx rfl (hb hby dy_0) rfl ?_
    show Steps p.tables e below (s₁.setTop (mkF m 1 #[.val (.ref a1), .val (.int (Int32.ofNat i))] [(.int (Int32.ofNat i))])) _
    refine XS.aloadN X0.here hx rfl (hb hby dy_1) rfl rfl ?_
    show Steps p.tables e below (s₁.setTop (mkF m 2 #[.val (.ref a1), .val (.int (Int32.ofNat i))] [(.ref a1), (.int (Int32.ofNat i))])) _
    refine st1 _ ?_
    show Steps p.tables e below (T1.setTop (mkF m 5 #[.val (.ref a1), .val (.int (Int32.ofNat i))] [])) _
    refine XS.aloadN X1.here hx rfl (hb hby dy_5) rfl rfl ?_
    show Steps p.tables e below (T1.setTop (mkF m 6 #[.val (.ref a1), .val (.int (Int32.ofNat i))] [(.ref a1)])) _
    refine XS.iloadN X1.here hx rfl (hb hby dy_6) rfl ?_
    show Steps p.tables e below (T1.setTop (mkF m 7 #[.val (.ref a1), .val (.int (Int32.ofNat i))] [(.int (Int32.ofNat i)), (.ref a1)])) _
    refine st2 _ ?_
    show Steps p.tables e below (T2.setTop (mkF m 10 #[.val (.ref a1), .val (.int (Int32.ofNat i))] [(.int (own_ch u))])) _
    exact retN X2 hx (t := .char) Bd.returns (by simp) (hb hby dy_10) hr
  · show Qy u h0 n0 _ T2.heap _
    rw [e2]
    exact ⟨by rw [own_nar_ch], N2, rfl⟩
theorem dz_0 : decode jdk_42_method_56_code 0 = .ok (.aload_n 0, 1) := by decide +kernel
theorem dz_1 : decode jdk_42_method_56_code 1 = .ok (.invokevirtual 492, 3) := by decide +kernel
theorem dz_4 : decode jdk_42_method_56_code 4 = .ok (.ifCond .eq 12, 3) := by decide +kernel
theorem dz_7 : decode jdk_42_method_56_code 7 = .ok (.aload_n 0, 1) := by decide +kernel
theorem dz_8 : decode jdk_42_method_56_code 8 = .ok (.getfield 9, 3) := by decide +kernel
theorem dz_11 : decode jdk_42_method_56_code 11 = .ok (.iload_n 1, 1) := by decide +kernel
theorem dz_12 : decode jdk_42_method_56_code 12 = .ok (.invokestatic 495, 3) := by decide +kernel
theorem dz_15 : decode jdk_42_method_56_code 15 = .ok (.ireturn, 1) := by decide +kernel
theorem dz_16 : decode jdk_42_method_56_code 16 = .ok (.aload_n 0, 1) := by decide +kernel
theorem dz_17 : decode jdk_42_method_56_code 17 = .ok (.getfield 9, 3) := by decide +kernel
theorem dz_20 : decode jdk_42_method_56_code 20 = .ok (.iload_n 1, 1) := by decide +kernel
theorem dz_21 : decode jdk_42_method_56_code 21 = .ok (.invokestatic 498, 3) := by decide +kernel
theorem dz_24 : decode jdk_42_method_56_code 24 = .ok (.ireturn, 1) := by decide +kernel
theorem pdz_0 : parseMethodDescriptor "()Z" = some ⟨[], some .boolean⟩ := by decide +kernel
theorem pdz_1 : parseMethodDescriptor "([BI)C" = some ⟨[(.array .byte), .int], some .char⟩ := by decide +kernel
def Qz (us : List UInt16) (i : Nat) (h0 : Heap) (n0 : Nat) (v : Option Value) (h : Heap) (L : List Loc) : Prop := v = some (.int (own_ch (us.getD i 0))) ∧ Fr n0 L ∧ h = h0
theorem pnz : plainName "java/lang/String" = true := by first | (simp [plainName, overriddenIn]; done) | decide +kernel
theorem efz (m : MethodId) (x0 : Addr) (x1 : Int32) : entryFrame m #[(.ref x0), (.int x1)] 2 = mkF m 0 #[.val (.ref x0), .val (.int x1)] [] := by first | (simp [entryFrame, mkF, argsToLocals, Value.category]; done) | rfl
set_option maxRecDepth 65536 in
set_option maxHeartbeats 40000000 in
theorem rmz (l : Launch) (Z : State) (a0 : Array Value) (hw : ∀ d ∈ tables_1, d.before a0 Z = true) (ws : List Jvm.Cond) (csx : Int32) (vF : Value) (a1 : Addr) (B : Nat) (us : List UInt16) (i : Nat) (h0 : Heap) (n0 : Nat) (Z0 : n0 ≤ h0.size) (St : own_St Z csx vF) (O0 : Old Z n0 h0) (hu : us.length < 3) (hi : i < us.length) (hS : own_Str Z h0 n0 B a1 us) :
    MetFree l (⟨"java/lang/String", "charAt", "(I)C"⟩ : MethodName) (head1 (Jvm.Cond.code (⟨"java/lang/String", "charAt", "(I)C"⟩ : MethodName) jdk_42_method_56_code 2 (some .char) :: ws) ({ frames := 4, cells := 0, slots := 0, locals := 53 } : Room)) (fun a U => a = #[(.ref a1), (.int (Int32.ofNat i))] ∧ Z.Warmed39 U.vm ∧ U.heap = h0) (fun _ _ _ _ _ => True) (fun _ U o U' => ∃ v L, o = .returned v ∧ Qz us i h0 n0 v U'.heap L ∧ FrameEnd U o U' L ({ frames := 4, cells := 0, slots := 0, locals := 53 } : Room).cells ({ frames := 4, cells := 0, slots := 0, locals := 53 } : Room).slots) := by
  refine MetFree.of_bodySF (plainFor_of_name pnz) hisR ?_
  intro p e s m args below meth c s₁ Bd hml0 hP hK
  obtain ⟨rfl, hZ, hh⟩ := hP
  have hx := Bd.exec
  have hby := Bd.bytes
  have hml : c.maxLocals = 2 := hml0
  have hown : s.vm.findClass "java/lang/String" = some m.cls := findClass_of_methodNamed Bd.named
  have hnm := (name_of_methodNamed Bd.named Bd.method).1
  have X0 : Stand p l e ({ frames := 4, cells := 0, slots := 0, locals := 53 } : Room) s m #[(.ref a1), (.int (Int32.ofNat i))] below meth c s₁ [] 0 0 := Stand.of_body Bd
  have e0 : s₁.heap = h0 := by rw [← hh, Bd.state]; rfl
  have N0 := Fr.nil n0
  have pre0 : ∀ t, Steps p.tables e below (s₁.setTop (mkF m 0 #[.val (.ref a1), .val (.int (Int32.ofNat i))] [])) t → Steps p.tables e below (s₁.setTop (entryFrame m #[(.ref a1), (.int (Int32.ofNat i))] 2)) t := fun t k => castTop (efz m a1 (Int32.ofNat i)) k
  obtain ⟨t, k, cd, Ex, Fc, Fv, gs, hcase⟩ := hS
  rcases hcase with ⟨rfl, hlat, Vt⟩ | ⟨rfl, Vt⟩
  · obtain ⟨cl, Ar, qk, Sz, Nn, Hs, Gs⟩ := Vt
    obtain ⟨cq1, kq1, q1a, q1b, q1c⟩ := isOf hZ e0 Ex
    obtain ⟨_, _, ⟨T1, L1, k1, n1⟩, -, X1, ⟨Lc1, hQ1, l1, y1, z1⟩, st1⟩ := X0.virtualBack hx (y := (⟨"java/lang/String", "isLatin1", "()Z"⟩ : MethodName)) (z := (⟨"java/lang/String", "isLatin1", "()Z"⟩ : MethodName)) hown (mvT hZ (hw _ (List.mem_of_getElem? (i := 73) rfl))) (mvT hZ (hw _ (List.mem_of_getElem? (i := 74) rfl))) (notFace_of_selects (args := #[]) (mvT hZ (hw _ (List.mem_of_getElem? (i := 76) rfl)))) (mvT hZ (hw _ (List.mem_of_getElem? (i := 76) rfl))) (mvT hZ (hw _ (List.mem_of_getElem? (i := 75) rfl))) (by decide) (backOf (W := 0) (rmr l Z a0 hw [] csx vF a1 (0 : Int32) h0 n0 Z0 St O0 Fc) hZ (hw _ (List.mem_of_getElem? (i := 77) rfl)) (hw _ (List.mem_of_getElem? (i := 2) rfl)) (by decide) (by decide)) q1a q1c (g := (mkF m 1 #[.val (.ref a1), .val (.int (Int32.ofNat i))] [(.ref a1)])) rfl (by rw [hml]; rfl) (Steps.refl _) (argsL := []) (rest := []) (lenOf pdz_0 rfl) rfl (by show 2 * 0 + _ ≤ _; exact Nat.le_of_eq rfl) (hb hby dz_1) (fun _ _ => ⟨rfl, e0, (by decide : 0 + 0 ≤ _), (by decide : 0 + 0 ≤ _)⟩)
    dsimp only [Pt.U, Pt.locs, Pt.cells, Pt.slots] at X1 l1 y1 z1 st1 hQ1
    subst l1 y1 z1
    obtain ⟨rfl, Nq1, e1⟩ := hQ1
    have N1 := Fr.app N0 Nq1
    rw [if_pos rfl] at st1
    obtain ⟨T2, X2, e2, st2⟩ := getF X1 hx hZ hown (host := "") (Or.inl (hw _ (List.mem_of_getElem? (i := 22) rfl))) Via.refl e1 Fv (g := (mkF m 8 #[.val (.ref a1), .val (.int (Int32.ofNat i))] [(.ref a1)])) rfl rfl (hb hby dz_8)
    obtain ⟨_, _, ⟨T3, L3, k3, n3⟩, -, X3, ⟨Lc3, hQ3, l3, y3, z3⟩, st3⟩ := Jvm.LawKit.callS X2 hx (y := (⟨"java/lang/StringLatin1", "charAt", "([BI)C"⟩ : MethodName)) hown (mvT hZ (hw _ (List.mem_of_getElem? (i := 78) rfl))) (mvT hZ (hw _ (List.mem_of_getElem? (i := 79) rfl))) (mvT hZ (hw _ (List.mem_of_getElem? (i := 7) rfl))) (mvT hZ (hw _ (List.mem_of_getElem? (i := 80) rfl))) (by decide) (backOf (W := 0) (rmv l Z a0 hw [] csx vF t i us.length (us.getD i 0) cl h0 n0 Z0 St O0 (by omega) hi Ar Sz (by rw [Hs i (by rw [Sz, own_n32 _ (by omega)]; exact hi), own_vl_at us i hi]) (hlat _ (by rw [List.getD_eq_getElem?_getD, List.getElem?_eq_getElem hi]; exact List.getElem_mem hi))) hZ (hw _ (List.mem_of_getElem? (i := 80) rfl)) (hw _ (List.mem_of_getElem? (i := 7) rfl)) (by decide) (by decide)) (g := (mkF m 12 #[.val (.ref a1), .val (.int (Int32.ofNat i))] [(.int (Int32.ofNat i)), (.ref t)])) rfl (by rw [hml]; rfl) (argsL := [(.ref t), (.int (Int32.ofNat i))]) (rest := []) (lenOf pdz_1 rfl) rfl (by show 2 * 0 + _ ≤ _; exact Nat.le_of_eq rfl) (hb hby dz_12) (fun _ _ => ⟨rfl, e2, (by decide : 0 + 0 ≤ _), (by decide : 0 + 0 ≤ _)⟩)
    dsimp only [Pt.U, Pt.locs, Pt.cells, Pt.slots] at X3 l3 y3 z3 st3 hQ3
    subst l3 y3 z3
    obtain ⟨rfl, Nq3, e3⟩ := hQ3
    have N3 := Fr.app N1 Nq3
    obtain ⟨fs, hr, hrun, hended, hW, hsame⟩ := X3.leave (v := some (.int (nar .char (own_ch (us.getD i 0))))) (fun h => by rw [Bd.returns] at h; cases h)
    refine ⟨_, _, pre0 _ ?_, hrun, hended, _, _, rfl, ?_, ⟨_, rfl⟩, hW, hsame.mono (by decide) (by decide)⟩
    · show Steps p.tables e below (s₁.setTop (mkF m 0 #[.val (.ref a1), .val (.int (Int32.ofNat i))] [])) _
      refine XS.aloadN X0.here hx rfl (hb hby dz_0) rfl rfl ?_
      show Steps p.tables e below (s₁.setTop (mkF m 1 #[.val (.ref a1), .val (.int (Int32.ofNat i))] [(.ref a1)])) _
      refine st1.trans ?_
      show Steps p.tables e below (T1.setTop (mkF m 4 #[.val (.ref a1), .val (.int (Int32.ofNat i))] [(.int (1 : Int32))])) _
      refine XS.ifNo X1.here hx rfl (hb hby dz_4) rfl ((if0 _ _).trans (feq ((by decide) : ¬ ((1 : Int32) = (0 : Int32)))).1) ?_
      show Steps p.tables e below (T1.setTop (mkF m 7 #[.val (.ref a1), .val (.int (Int32.ofNat i))] [])) _
      refine XS.aloadN X1.here hx rfl (hb hby dz_7) rfl rfl ?_
      show Steps p.tables e below (T1.setTop (mkF m 8 #[.val (.ref a1), .val (.int (Int32.ofNat i))] [(.ref a1)])) _
      refine st2 _ ?_
      show Steps p.tables e below (T2.setTop (mkF m 11 #[.val (.ref a1), .val (.int (Int32.ofNat i))] [(.ref t)])) _
      refine XS.iloadN X2.here hx rfl (hb hby dz_11) rfl ?_
      show Steps p.tables e below (T2.setTop (mkF m 12 #[.val (.ref a1), .val (.int (Int32.ofNat i))] [(.int (Int32.ofNat i)), (.ref t)])) _
      refine st3 _ ?_
      show Steps p.tables e below (T3.setTop (mkF m 15 #[.val (.ref a1), .val (.int (Int32.ofNat i))] [(.int (own_ch (us.getD i 0)))])) _
      exact retN X3 hx (t := .char) Bd.returns (by simp) (hb hby dz_15) hr
    · show Qz us i h0 n0 _ T3.heap _
      rw [e3]
      exact ⟨by rw [own_nar_ch], N3, rfl⟩
  · obtain ⟨cl, Ar, qk, Sz, Nn, Hs, Gs⟩ := Vt
    obtain ⟨cq4, kq4, q4a, q4b, q4c⟩ := isOf hZ e0 Ex
    obtain ⟨_, _, ⟨T4, L4, k4, n4⟩, -, X4, ⟨Lc4, hQ4, l4, y4, z4⟩, st4⟩ := X0.virtualBack hx (y := (⟨"java/lang/String", "isLatin1", "()Z"⟩ : MethodName)) (z := (⟨"java/lang/String", "isLatin1", "()Z"⟩ : MethodName)) hown (mvT hZ (hw _ (List.mem_of_getElem? (i := 73) rfl))) (mvT hZ (hw _ (List.mem_of_getElem? (i := 74) rfl))) (notFace_of_selects (args := #[]) (mvT hZ (hw _ (List.mem_of_getElem? (i := 76) rfl)))) (mvT hZ (hw _ (List.mem_of_getElem? (i := 76) rfl))) (mvT hZ (hw _ (List.mem_of_getElem? (i := 75) rfl))) (by decide) (backOf (W := 0) (rmr l Z a0 hw [] csx vF a1 (1 : Int32) h0 n0 Z0 St O0 Fc) hZ (hw _ (List.mem_of_getElem? (i := 77) rfl)) (hw _ (List.mem_of_getElem? (i := 2) rfl)) (by decide) (by decide)) q4a q4c (g := (mkF m 1 #[.val (.ref a1), .val (.int (Int32.ofNat i))] [(.ref a1)])) rfl (by rw [hml]; rfl) (Steps.refl _) (argsL := []) (rest := []) (lenOf pdz_0 rfl) rfl (by show 2 * 0 + _ ≤ _; exact Nat.le_of_eq rfl) (hb hby dz_1) (fun _ _ => ⟨rfl, e0, (by decide : 0 + 0 ≤ _), (by decide : 0 + 0 ≤ _)⟩)
    dsimp only [Pt.U, Pt.locs, Pt.cells, Pt.slots] at X4 l4 y4 z4 st4 hQ4
    subst l4 y4 z4
    obtain ⟨rfl, Nq4, e4⟩ := hQ4
    have N4 := Fr.app N0 Nq4
    rw [if_neg (by decide)] at st4
    obtain ⟨T5, X5, e5, st5⟩ := getF X4 hx hZ hown (host := "") (Or.inl (hw _ (List.mem_of_getElem? (i := 22) rfl))) Via.refl e4 Fv (g := (mkF m 17 #[.val (.ref a1), .val (.int (Int32.ofNat i))] [(.ref a1)])) rfl rfl (hb hby dz_17)
    obtain ⟨_, _, ⟨T6, L6, k6, n6⟩, -, X6, ⟨Lc6, hQ6, l6, y6, z6⟩, st6⟩ := Jvm.LawKit.callS X5 hx (y := (⟨"java/lang/StringUTF16", "charAt", "([BI)C"⟩ : MethodName)) hown (mvT hZ (hw _ (List.mem_of_getElem? (i := 135) rfl))) (mvT hZ (hw _ (List.mem_of_getElem? (i := 136) rfl))) (mvT hZ (hw _ (List.mem_of_getElem? (i := 36) rfl))) (mvT hZ (hw _ (List.mem_of_getElem? (i := 137) rfl))) (by decide) (backOf (W := 0) (rmy l Z a0 hw [] csx vF t i us.length (us.getD i 0) cl h0 n0 Z0 St O0 (by omega) hi (by omega) Ar Sz (by rw [Hs (2 * i) (by rw [Sz, own_n32 _ (by omega)]; omega), (own_vu_at us i hi _).1]) (by rw [Hs (2 * i + 1) (by rw [Sz, own_n32 _ (by omega)]; omega), (own_vu_at us i hi _).2])) hZ (hw _ (List.mem_of_getElem? (i := 137) rfl)) (hw _ (List.mem_of_getElem? (i := 36) rfl)) (by decide) (by decide)) (g := (mkF m 21 #[.val (.ref a1), .val (.int (Int32.ofNat i))] [(.int (Int32.ofNat i)), (.ref t)])) rfl (by rw [hml]; rfl) (argsL := [(.ref t), (.int (Int32.ofNat i))]) (rest := []) (lenOf pdz_1 rfl) rfl (by show 2 * 0 + _ ≤ _; exact Nat.le_of_eq rfl) (hb hby dz_21) (fun _ _ => ⟨rfl, e5, (by decide : 0 + 0 ≤ _), (by decide : 0 + 0 ≤ _)⟩)
    dsimp only [Pt.U, Pt.locs, Pt.cells, Pt.slots] at X6 l6 y6 z6 st6 hQ6
    subst l6 y6 z6
    obtain ⟨rfl, Nq6, e6⟩ := hQ6
    have N6 := Fr.app N4 Nq6
    obtain ⟨fs, hr, hrun, hended, hW, hsame⟩ := X6.leave (v := some (.int (nar .char (own_ch (us.getD i 0))))) (fun h => by rw [Bd.returns] at h; cases h)
    refine ⟨_, _, pre0 _ ?_, hrun, hended, _, _, rfl, ?_, ⟨_, rfl⟩, hW, hsame.mono (by decide) (by decide)⟩
    · show Steps p.tables e below (s₁.setTop (mkF m 0 #[.val (.ref a1), .val (.int (Int32.ofNat i))] [])) _
      refine XS.aloadN X0.here hx rfl (hb hby dz_0) rfl rfl ?_
      show Steps p.tables e below (s₁.setTop (mkF m 1 #[.val (.ref a1), .val (.int (Int32.ofNat i))] [(.ref a1)])) _
      refine st4.trans ?_
      show Steps p.tables e below (T4.setTop (mkF m 4 #[.val (.ref a1), .val (.int (Int32.ofNat i))] [(.int (0 : Int32))])) _
      refine XS.ifYes X4.here hx rfl (pc0 := 4) (pc' := 16) rfl (hb hby dz_4) rfl ((if0 _ _).trans (teq (rfl : (0 : Int32) = (0 : Int32))).1) (by decide) (by decide) ?_
      show Steps p.tables e below (T4.setTop (mkF m 16 #[.val (.ref a1), .val (.int (Int32.ofNat i))] [])) _
      refine XS.aloadN X4.here hx rfl (hb hby dz_16) rfl rfl ?_
      show Steps p.tables e below (T4.setTop (mkF m 17 #[.val (.ref a1), .val (.int (Int32.ofNat i))] [(.ref a1)])) _
      refine st5 _ ?_
      show Steps p.tables e below (T5.setTop (mkF m 20 #[.val (.ref a1), .val (.int (Int32.ofNat i))] [(.ref t)])) _
      refine XS.iloadN X5.here hx rfl (hb hby dz_20) rfl ?_
      show Steps p.tables e below (T5.setTop (mkF m 21 #[.val (.ref a1), .val (.int (Int32.ofNat i))] [(.int (Int32.ofNat i)), (.ref t)])) _
      refine st6 _ ?_
      show Steps p.tables e below (T6.setTop (mkF m 24 #[.val (.ref a1), .val (.int (Int32.ofNat i))] [(.int (own_ch (us.getD i 0)))])) _
      exact retN X6 hx (t := .char) Bd.returns (by simp) (hb hby dz_24) hr
    · show Qz us i h0 n0 _ T6.heap _
      rw [e6]
      exact ⟨by rw [own_nar_ch], N6, rfl⟩
theorem dA_0 : decode jdk_35_method_51_code 0 = .ok (.lload_n 0, 1) := by decide +kernel
theorem dA_1 : decode jdk_35_method_51_code 1 = .ok (.iload_n 2, 1) := by decide +kernel
theorem dA_2 : decode jdk_35_method_51_code 2 = .ok (.lshl, 1) := by decide +kernel
theorem dA_3 : decode jdk_35_method_51_code 3 = .ok (.lload_n 0, 1) := by decide +kernel
theorem dA_4 : decode jdk_35_method_51_code 4 = .ok (.iload_n 2, 1) := by decide +kernel
theorem dA_5 : decode jdk_35_method_51_code 5 = .ok (.ineg, 1) := by decide +kernel
theorem dA_6 : decode jdk_35_method_51_code 6 = .ok (.lushr, 1) := by decide +kernel
theorem dA_7 : decode jdk_35_method_51_code 7 = .ok (.lor, 1) := by decide +kernel
theorem dA_8 : decode jdk_35_method_51_code 8 = .ok (.lreturn, 1) := by decide +kernel
def QA (q1 : Int64) (p2 : Int32) (h0 : Heap) (n0 : Nat) (v : Option Value) (h : Heap) (L : List Loc) : Prop := v = some (.long (own_rot q1 p2)) ∧ Fr n0 L ∧ h = h0
theorem pnA : plainName "java/lang/Long" = true := by first | (simp [plainName, overriddenIn]; done) | decide +kernel
theorem efA (m : MethodId) (x0 : Int64) (x1 : Int32) : entryFrame m #[(.long x0), (.int x1)] 3 = mkF m 0 #[.val (.long x0), .second, .val (.int x1)] [] := by first | (simp [entryFrame, mkF, argsToLocals, Value.category]; done) | rfl
set_option maxRecDepth 65536 in
set_option maxHeartbeats 40000000 in
theorem rmA (l : Launch) (Z : State) (a0 : Array Value) (hw : ∀ d ∈ tables_1, d.before a0 Z = true) (ws : List Jvm.Cond) (q1 : Int64) (p2 : Int32) (h0 : Heap) (n0 : Nat) (Z0 : n0 ≤ h0.size)  :
    MetFree l (⟨"java/lang/Long", "rotateLeft", "(JI)J"⟩ : MethodName) (head1 (Jvm.Cond.code (⟨"java/lang/Long", "rotateLeft", "(JI)J"⟩ : MethodName) jdk_35_method_51_code 3 (some .long) :: ws) ({ frames := 0, cells := 0, slots := 0, locals := 0 } : Room)) (fun a U => a = #[(.long q1), (.int p2)] ∧ Z.Warmed39 U.vm ∧ U.heap = h0) (fun _ _ _ _ _ => True) (fun _ U o U' => ∃ v L, o = .returned v ∧ QA q1 p2 h0 n0 v U'.heap L ∧ FrameEnd U o U' L ({ frames := 0, cells := 0, slots := 0, locals := 0 } : Room).cells ({ frames := 0, cells := 0, slots := 0, locals := 0 } : Room).slots) := by
  refine MetFree.of_bodySF (plainFor_of_name pnA) hisR ?_
  intro p e s m args below meth c s₁ Bd hml0 hP hK
  obtain ⟨rfl, hZ, hh⟩ := hP
  have hx := Bd.exec
  have hby := Bd.bytes
  have hml : c.maxLocals = 3 := hml0
  have hown : s.vm.findClass "java/lang/Long" = some m.cls := findClass_of_methodNamed Bd.named
  have hnm := (name_of_methodNamed Bd.named Bd.method).1
  have X0 : Stand p l e ({ frames := 0, cells := 0, slots := 0, locals := 0 } : Room) s m #[(.long q1), (.int p2)] below meth c s₁ [] 0 0 := Stand.of_body Bd
  have e0 : s₁.heap = h0 := by rw [← hh, Bd.state]; rfl
  have N0 := Fr.nil n0
  have pre0 : ∀ t, Steps p.tables e below (s₁.setTop (mkF m 0 #[.val (.long q1), .second, .val (.int p2)] [])) t → Steps p.tables e below (s₁.setTop (entryFrame m #[(.long q1), (.int p2)] 3)) t := fun t k => castTop (efA m q1 p2) k
  obtain ⟨fs, hr, hrun, hended, hW, hsame⟩ := X0.leave (v := some (.long (own_rot q1 p2))) (fun h => by rw [Bd.returns] at h; cases h)
  refine ⟨_, _, pre0 _ ?_, hrun, hended, _, _, rfl, ?_, ⟨_, rfl⟩, hW, hsame.mono (by decide) (by decide)⟩
  · show Steps p.tables e below (s₁.setTop (mkF m 0 #[.val (.long q1), .second, .val (.int p2)] [])) _
    refine XS.lloadN X0.here hx rfl (hb hby dA_0) rfl ?_
    show Steps p.tables e below (s₁.setTop (mkF m 1 #[.val (.long q1), .second, .val (.int p2)] [(.long q1)])) _
    refine XS.iloadN X0.here hx rfl (hb hby dA_1) rfl ?_
    show Steps p.tables e below (s₁.setTop (mkF m 2 #[.val (.long q1), .second, .val (.int p2)] [(.int p2), (.long q1)])) _
    refine XS.lshl X0.here hx rfl (hb hby dA_2) rfl ?_
    show Steps p.tables e below (s₁.setTop (mkF m 3 #[.val (.long q1), .second, .val (.int p2)] [(.long (q1 <<< (p2 &&& 0x3f).toInt64))])) _
    refine XS.lloadN X0.here hx rfl (hb hby dA_3) rfl ?_
    show Steps p.tables e below (s₁.setTop (mkF m 4 #[.val (.long q1), .second, .val (.int p2)] [(.long q1), (.long (q1 <<< (p2 &&& 0x3f).toInt64))])) _
    refine XS.iloadN X0.here hx rfl (hb hby dA_4) rfl ?_
    show Steps p.tables e below (s₁.setTop (mkF m 5 #[.val (.long q1), .second, .val (.int p2)] [(.int p2), (.long q1), (.long (q1 <<< (p2 &&& 0x3f).toInt64))])) _
    refine XS.ineg X0.here hx rfl (hb hby dA_5) rfl ?_
    show Steps p.tables e below (s₁.setTop (mkF m 6 #[.val (.long q1), .second, .val (.int p2)] [(.int (-p2)), (.long q1), (.long (q1 <<< (p2 &&& 0x3f).toInt64))])) _
    refine XS.lushr X0.here hx rfl (hb hby dA_6) rfl ?_
    show Steps p.tables e below (s₁.setTop (mkF m 7 #[.val (.long q1), .second, .val (.int p2)] [(.long ((q1.toUInt64 >>> ((-p2) &&& 0x3f).toInt64.toUInt64).toInt64)), (.long (q1 <<< (p2 &&& 0x3f).toInt64))])) _
    refine XS.lor X0.here hx rfl (hb hby dA_7) rfl ?_
    show Steps p.tables e below (s₁.setTop (mkF m 8 #[.val (.long q1), .second, .val (.int p2)] [(.long ((q1 <<< (p2 &&& 0x3f).toInt64) ||| ((q1.toUInt64 >>> ((-p2) &&& 0x3f).toInt64.toUInt64).toInt64)))])) _
    exact retOut X0 hx Bd.returns rfl (by simp [Value.isRef, FieldType.isReference]) (hb hby dA_8) hr
  · show QA q1 p2 h0 n0 _ s₁.heap _
    rw [e0]
    exact ⟨rfl, N0, rfl⟩
theorem dB_0 : decode prog_4_method_5_code 0 = .ok (.lload_n 0, 1) := by decide +kernel
theorem dB_1 : decode prog_4_method_5_code 1 = .ok (.lload_n 0, 1) := by decide +kernel
theorem dB_2 : decode prog_4_method_5_code 2 = .ok (.bipush 33, 2) := by decide +kernel
theorem dB_4 : decode prog_4_method_5_code 4 = .ok (.lushr, 1) := by decide +kernel
theorem dB_5 : decode prog_4_method_5_code 5 = .ok (.lxor, 1) := by decide +kernel
theorem dB_6 : decode prog_4_method_5_code 6 = .ok (.lload_n 2, 1) := by decide +kernel
theorem dB_7 : decode prog_4_method_5_code 7 = .ok (.lmul, 1) := by decide +kernel
theorem dB_8 : decode prog_4_method_5_code 8 = .ok (.lstore 6, 2) := by decide +kernel
theorem dB_10 : decode prog_4_method_5_code 10 = .ok (.lload 6, 2) := by decide +kernel
theorem dB_12 : decode prog_4_method_5_code 12 = .ok (.lload 6, 2) := by decide +kernel
theorem dB_14 : decode prog_4_method_5_code 14 = .ok (.bipush 29, 2) := by decide +kernel
theorem dB_16 : decode prog_4_method_5_code 16 = .ok (.lushr, 1) := by decide +kernel
theorem dB_17 : decode prog_4_method_5_code 17 = .ok (.lxor, 1) := by decide +kernel
theorem dB_18 : decode prog_4_method_5_code 18 = .ok (.lload 4, 2) := by decide +kernel
theorem dB_20 : decode prog_4_method_5_code 20 = .ok (.lmul, 1) := by decide +kernel
theorem dB_21 : decode prog_4_method_5_code 21 = .ok (.lstore 6, 2) := by decide +kernel
theorem dB_23 : decode prog_4_method_5_code 23 = .ok (.lload 6, 2) := by decide +kernel
theorem dB_25 : decode prog_4_method_5_code 25 = .ok (.lload 6, 2) := by decide +kernel
theorem dB_27 : decode prog_4_method_5_code 27 = .ok (.bipush 32, 2) := by decide +kernel
theorem dB_29 : decode prog_4_method_5_code 29 = .ok (.lushr, 1) := by decide +kernel
theorem dB_30 : decode prog_4_method_5_code 30 = .ok (.lxor, 1) := by decide +kernel
theorem dB_31 : decode prog_4_method_5_code 31 = .ok (.lreturn, 1) := by decide +kernel
def QB (q1 q2 q3 : Int64) (h0 : Heap) (n0 : Nat) (v : Option Value) (h : Heap) (L : List Loc) : Prop := v = some (.long (own_spread q1 q2 q3)) ∧ Fr n0 L ∧ h = h0
theorem pnB : plainName "com/example/keelson/keelson/bench/LineDigest" = true := by first | (simp [plainName, overriddenIn]; done) | decide +kernel
theorem efB (m : MethodId) (x0 : Int64) (x1 : Int64) (x2 : Int64) : entryFrame m #[(.long x0), (.long x1), (.long x2)] 8 = mkF m 0 #[.val (.long x0), .second, .val (.long x1), .second, .val (.long x2), .second, .unset, .unset] [] := by first | (simp [entryFrame, mkF, argsToLocals, Value.category]; done) | rfl
set_option maxRecDepth 65536 in
set_option maxHeartbeats 40000000 in
theorem rmB (l : Launch) (Z : State) (a0 : Array Value) (hw : ∀ d ∈ tables_1, d.before a0 Z = true) (ws : List Jvm.Cond) (q1 q2 q3 : Int64) (h0 : Heap) (n0 : Nat) (Z0 : n0 ≤ h0.size)  :
    MetFree l (⟨"com/example/keelson/keelson/bench/LineDigest", "spread", "(JJJ)J"⟩ : MethodName) (head1 (Jvm.Cond.code (⟨"com/example/keelson/keelson/bench/LineDigest", "spread", "(JJJ)J"⟩ : MethodName) prog_4_method_5_code 8 (some .long) :: ws) ({ frames := 0, cells := 0, slots := 0, locals := 0 } : Room)) (fun a U => a = #[(.long q1), (.long q2), (.long q3)] ∧ Z.Warmed39 U.vm ∧ U.heap = h0) (fun _ _ _ _ _ => True) (fun _ U o U' => ∃ v L, o = .returned v ∧ QB q1 q2 q3 h0 n0 v U'.heap L ∧ FrameEnd U o U' L ({ frames := 0, cells := 0, slots := 0, locals := 0 } : Room).cells ({ frames := 0, cells := 0, slots := 0, locals := 0 } : Room).slots) := by
  refine MetFree.of_bodySF (plainFor_of_name pnB) hisR ?_
  intro p e s m args below meth c s₁ Bd hml0 hP hK
  obtain ⟨rfl, hZ, hh⟩ := hP
  have hx := Bd.exec
  have hby := Bd.bytes
  have hml : c.maxLocals = 8 := hml0
  have hown : s.vm.findClass "com/example/keelson/keelson/bench/LineDigest" = some m.cls := findClass_of_methodNamed Bd.named
  have hnm := (name_of_methodNamed Bd.named Bd.method).1
  have X0 : Stand p l e ({ frames := 0, cells := 0, slots := 0, locals := 0 } : Room) s m #[(.long q1), (.long q2), (.long q3)] below meth c s₁ [] 0 0 := Stand.of_body Bd
  have e0 : s₁.heap = h0 := by rw [← hh, Bd.state]; rfl
  have N0 := Fr.nil n0
  have pre0 : ∀ t, Steps p.tables e below (s₁.setTop (mkF m 0 #[.val (.long q1), .second, .val (.long q2), .second, .val (.long q3), .second, .unset, .unset] [])) t → Steps p.tables e below (s₁.setTop (entryFrame m #[(.long q1), (.long q2), (.long q3)] 8)) t := fun t k => castTop (efB m q1 q2 q3) k
  obtain ⟨fs, hr, hrun, hended, hW, hsame⟩ := X0.leave (v := some (.long (own_spread q1 q2 q3))) (fun h => by rw [Bd.returns] at h; cases h)
  refine ⟨_, _, pre0 _ ?_, hrun, hended, _, _, rfl, ?_, ⟨_, rfl⟩, hW, hsame.mono (by decide) (by decide)⟩
  · show Steps p.tables e below (s₁.setTop (mkF m 0 #[.val (.long q1), .second, .val (.long q2), .second, .val (.long q3), .second, .unset, .unset] [])) _
    refine XS.lloadN X0.here hx rfl (hb hby dB_0) rfl ?_
    show Steps p.tables e below (s₁.setTop (mkF m 1 #[.val (.long q1), .second, .val (.long q2), .second, .val (.long q3), .second, .unset, .unset] [(.long q1)])) _
    refine XS.lloadN X0.here hx rfl (hb hby dB_1) rfl ?_
    show Steps p.tables e below (s₁.setTop (mkF m 2 #[.val (.long q1), .second, .val (.long q2), .second, .val (.long q3), .second, .unset, .unset] [(.long q1), (.long q1)])) _
    refine XS.bipush X0.here hx rfl (hb hby dB_2) ?_
    show Steps p.tables e below (s₁.setTop (mkF m 4 #[.val (.long q1), .second, .val (.long q2), .second, .val (.long q3), .second, .unset, .unset] [(.int (33 : Int32)), (.long q1), (.long q1)])) _
    refine XS.lushr X0.here hx rfl (hb hby dB_4) rfl ?_
    show Steps p.tables e below (s₁.setTop (mkF m 5 #[.val (.long q1), .second, .val (.long q2), .second, .val (.long q3), .second, .unset, .unset] [(.long ((q1.toUInt64 >>> ((33 : Int32) &&& 0x3f).toInt64.toUInt64).toInt64)), (.long q1)])) _
    refine XS.lxor X0.here hx rfl (hb hby dB_5) rfl ?_
    show Steps p.tables e below (s₁.setTop (mkF m 6 #[.val (.long q1), .second, .val (.long q2), .second, .val (.long q3), .second, .unset, .unset] [(.long (q1 ^^^ ((q1.toUInt64 >>> ((33 : Int32) &&& 0x3f).toInt64.toUInt64).toInt64)))])) _
    refine XS.lloadN X0.here hx rfl (hb hby dB_6) rfl ?_
    show Steps p.tables e below (s₁.setTop (mkF m 7 #[.val (.long q1), .second, .val (.long q2), .second, .val (.long q3), .second, .unset, .unset] [(.long q2), (.long (q1 ^^^ ((q1.toUInt64 >>> ((33 : Int32) &&& 0x3f).toInt64.toUInt64).toInt64)))])) _
    refine XS.lmul X0.here hx rfl (hb hby dB_7) rfl ?_
    show Steps p.tables e below (s₁.setTop (mkF m 8 #[.val (.long q1), .second, .val (.long q2), .second, .val (.long q3), .second, .unset, .unset] [(.long ((q1 ^^^ ((q1.toUInt64 >>> ((33 : Int32) &&& 0x3f).toInt64.toUInt64).toInt64)) * q2))])) _
    refine XS.lstore X0.here hx rfl (hb hby dB_8) rfl (l' := #[.val (.long q1), .second, .val (.long q2), .second, .val (.long q3), .second, .val (.long ((q1 ^^^ ((q1.toUInt64 >>> ((33 : Int32) &&& 0x3f).toInt64.toUInt64).toInt64)) * q2)), .second]) rfl ?_
    show Steps p.tables e below (s₁.setTop (mkF m 10 #[.val (.long q1), .second, .val (.long q2), .second, .val (.long q3), .second, .val (.long (own_xs 33 q1 * q2)), .second] [])) _
    refine XS.lload X0.here hx rfl (hb hby dB_10) rfl ?_
    show Steps p.tables e below (s₁.setTop (mkF m 12 #[.val (.long q1), .second, .val (.long q2), .second, .val (.long q3), .second, .val (.long (own_xs 33 q1 * q2)), .second] [(.long (own_xs 33 q1 * q2))])) _
    refine XS.lload X0.here hx rfl (hb hby dB_12) rfl ?_
    show Steps p.tables e below (s₁.setTop (mkF m 14 #[.val (.long q1), .second, .val (.long q2), .second, .val (.long q3), .second, .val (.long (own_xs 33 q1 * q2)), .second] [(.long (own_xs 33 q1 * q2)), (.long (own_xs 33 q1 * q2))])) _
    refine XS.bipush X0.here hx rfl (hb hby dB_14) ?_
    show Steps p.tables e below (s₁.setTop (mkF m 16 #[.val (.long q1), .second, .val (.long q2), .second, .val (.long q3), .second, .val (.long (own_xs 33 q1 * q2)), .second] [(.int (29 : Int32)), (.long (own_xs 33 q1 * q2)), (.long (own_xs 33 q1 * q2))])) _
    refine XS.lushr X0.here hx rfl (hb hby dB_16) rfl ?_
    show Steps p.tables e below (s₁.setTop (mkF m 17 #[.val (.long q1), .second, .val (.long q2), .second, .val (.long q3), .second, .val (.long (own_xs 33 q1 * q2)), .second] [(.long (((own_xs 33 q1 * q2).toUInt64 >>> ((29 : Int32) &&& 0x3f).toInt64.toUInt64).toInt64)), (.long (own_xs 33 q1 * q2))])) _
    refine XS.lxor X0.here hx rfl (hb hby dB_17) rfl ?_
    show Steps p.tables e below (s₁.setTop (mkF m 18 #[.val (.long q1), .second, .val (.long q2), .second, .val (.long q3), .second, .val (.long (own_xs 33 q1 * q2)), .second] [(.long ((own_xs 33 q1 * q2) ^^^ (((own_xs 33 q1 * q2).toUInt64 >>> ((29 : Int32) &&& 0x3f).toInt64.toUInt64).toInt64)))])) _
    refine XS.lload X0.here hx rfl (hb hby dB_18) rfl ?_
    show Steps p.tables e below (s₁.setTop (mkF m 20 #[.val (.long q1), .second, .val (.long q2), .second, .val (.long q3), .second, .val (.long (own_xs 33 q1 * q2)), .second] [(.long q3), (.long ((own_xs 33 q1 * q2) ^^^ (((own_xs 33 q1 * q2).toUInt64 >>> ((29 : Int32) &&& 0x3f).toInt64.toUInt64).toInt64)))])) _
    refine XS.lmul X0.here hx rfl (hb hby dB_20) rfl ?_
    show Steps p.tables e below (s₁.setTop (mkF m 21 #[.val (.long q1), .second, .val (.long q2), .second, .val (.long q3), .second, .val (.long (own_xs 33 q1 * q2)), .second] [(.long (((own_xs 33 q1 * q2) ^^^ (((own_xs 33 q1 * q2).toUInt64 >>> ((29 : Int32) &&& 0x3f).toInt64.toUInt64).toInt64)) * q3))])) _
    refine XS.lstore X0.here hx rfl (hb hby dB_21) rfl (l' := #[.val (.long q1), .second, .val (.long q2), .second, .val (.long q3), .second, .val (.long (((own_xs 33 q1 * q2) ^^^ (((own_xs 33 q1 * q2).toUInt64 >>> ((29 : Int32) &&& 0x3f).toInt64.toUInt64).toInt64)) * q3)), .second]) rfl ?_
    show Steps p.tables e below (s₁.setTop (mkF m 23 #[.val (.long q1), .second, .val (.long q2), .second, .val (.long q3), .second, .val (.long (own_xs 29 (own_xs 33 q1 * q2) * q3)), .second] [])) _
    refine XS.lload X0.here hx rfl (hb hby dB_23) rfl ?_
    show Steps p.tables e below (s₁.setTop (mkF m 25 #[.val (.long q1), .second, .val (.long q2), .second, .val (.long q3), .second, .val (.long (own_xs 29 (own_xs 33 q1 * q2) * q3)), .second] [(.long (own_xs 29 (own_xs 33 q1 * q2) * q3))])) _
    refine XS.lload X0.here hx rfl (hb hby dB_25) rfl ?_
    show Steps p.tables e below (s₁.setTop (mkF m 27 #[.val (.long q1), .second, .val (.long q2), .second, .val (.long q3), .second, .val (.long (own_xs 29 (own_xs 33 q1 * q2) * q3)), .second] [(.long (own_xs 29 (own_xs 33 q1 * q2) * q3)), (.long (own_xs 29 (own_xs 33 q1 * q2) * q3))])) _
    refine XS.bipush X0.here hx rfl (hb hby dB_27) ?_
    show Steps p.tables e below (s₁.setTop (mkF m 29 #[.val (.long q1), .second, .val (.long q2), .second, .val (.long q3), .second, .val (.long (own_xs 29 (own_xs 33 q1 * q2) * q3)), .second] [(.int (32 : Int32)), (.long (own_xs 29 (own_xs 33 q1 * q2) * q3)), (.long (own_xs 29 (own_xs 33 q1 * q2) * q3))])) _
    refine XS.lushr X0.here hx rfl (hb hby dB_29) rfl ?_
    show Steps p.tables e below (s₁.setTop (mkF m 30 #[.val (.long q1), .second, .val (.long q2), .second, .val (.long q3), .second, .val (.long (own_xs 29 (own_xs 33 q1 * q2) * q3)), .second] [(.long (((own_xs 29 (own_xs 33 q1 * q2) * q3).toUInt64 >>> ((32 : Int32) &&& 0x3f).toInt64.toUInt64).toInt64)), (.long (own_xs 29 (own_xs 33 q1 * q2) * q3))])) _
    refine XS.lxor X0.here hx rfl (hb hby dB_30) rfl ?_
    show Steps p.tables e below (s₁.setTop (mkF m 31 #[.val (.long q1), .second, .val (.long q2), .second, .val (.long q3), .second, .val (.long (own_xs 29 (own_xs 33 q1 * q2) * q3)), .second] [(.long ((own_xs 29 (own_xs 33 q1 * q2) * q3) ^^^ (((own_xs 29 (own_xs 33 q1 * q2) * q3).toUInt64 >>> ((32 : Int32) &&& 0x3f).toInt64.toUInt64).toInt64)))])) _
    exact retOut X0 hx Bd.returns rfl (by simp [Value.isRef, FieldType.isReference]) (hb hby dB_31) hr
  · show QB q1 q2 q3 h0 n0 _ s₁.heap _
    rw [e0]
    exact ⟨rfl, N0, rfl⟩
theorem dC_0 : decode prog_4_method_1_code 0 = .ok (.aload_n 0, 1) := by decide +kernel
theorem dC_1 : decode prog_4_method_1_code 1 = .ok (.invokespecial 1, 3) := by decide +kernel
theorem dC_4 : decode prog_4_method_1_code 4 = .ok (.return_, 1) := by decide +kernel
def QC (h0 : Heap) (n0 : Nat) (v : Option Value) (h : Heap) (L : List Loc) : Prop := v = none ∧ Fr n0 L ∧ h = h0
theorem pnC : plainName "com/example/keelson/keelson/bench/LineDigest" = true := by first | (simp [plainName, overriddenIn]; done) | decide +kernel
theorem efC (m : MethodId) (x0 : Addr) : entryFrame m #[(.ref x0)] 1 = mkF m 0 #[.val (.ref x0)] [] := by first | (simp [entryFrame, mkF, argsToLocals, Value.category]; done) | rfl
set_option maxRecDepth 65536 in
set_option maxHeartbeats 40000000 in
theorem rmC (l : Launch) (Z : State) (a0 : Array Value) (hw : ∀ d ∈ tables_1, d.before a0 Z = true) (ws : List Jvm.Cond) (a1 : Addr) (h0 : Heap) (n0 : Nat) (Z0 : n0 ≤ h0.size)  :
    MetFree l (⟨"com/example/keelson/keelson/bench/LineDigest", "<init>", "()V"⟩ : MethodName) (head1 (Jvm.Cond.code (⟨"com/example/keelson/keelson/bench/LineDigest", "<init>", "()V"⟩ : MethodName) prog_4_method_1_code 1 none :: ws) ({ frames := 1, cells := 0, slots := 0, locals := 12 } : Room)) (fun a U => a = #[(.ref a1)] ∧ Z.Warmed39 U.vm ∧ U.heap = h0) (fun _ _ _ _ _ => True) (fun _ U o U' => ∃ v L, o = .returned v ∧ QC h0 n0 v U'.heap L ∧ FrameEnd U o U' L ({ frames := 1, cells := 0, slots := 0, locals := 12 } : Room).cells ({ frames := 1, cells := 0, slots := 0, locals := 12 } : Room).slots) := by
  refine MetFree.of_bodySF (plainFor_of_name pnC) hisR ?_
  intro p e s m args below meth c s₁ Bd hml0 hP hK
  obtain ⟨rfl, hZ, hh⟩ := hP
  have hx := Bd.exec
  have hby := Bd.bytes
  have hml : c.maxLocals = 1 := hml0
  have hown : s.vm.findClass "com/example/keelson/keelson/bench/LineDigest" = some m.cls := findClass_of_methodNamed Bd.named
  have hnm := (name_of_methodNamed Bd.named Bd.method).1
  have X0 : Stand p l e ({ frames := 1, cells := 0, slots := 0, locals := 12 } : Room) s m #[(.ref a1)] below meth c s₁ [] 0 0 := Stand.of_body Bd
  have e0 : s₁.heap = h0 := by rw [← hh, Bd.state]; rfl
  have N0 := Fr.nil n0
  have pre0 : ∀ t, Steps p.tables e below (s₁.setTop (mkF m 0 #[.val (.ref a1)] [])) t → Steps p.tables e below (s₁.setTop (entryFrame m #[(.ref a1)] 1)) t := fun t k => castTop (efC m a1) k
  obtain ⟨T1, X1, e1, st1⟩ := initO X0 hx hZ hown (hw _ (List.mem_of_getElem? (i := 50) rfl)) (hw _ (List.mem_of_getElem? (i := 20) rfl)) (hw _ (List.mem_of_getElem? (i := 21) rfl)) e0 (g := (mkF m 1 #[.val (.ref a1)] [(.ref a1)])) rfl (by rw [hml]; rfl) rfl (hb hby dC_1) (by decide) (W := 0) (by show 2 * 0 + _ ≤ _; exact Nat.le_of_eq rfl) (by decide)
  obtain ⟨fs, hr, hrun, hended, hW, hsame⟩ := X1.leave (v := none) (fun _ => rfl)
  refine ⟨_, _, pre0 _ ?_, hrun, hended, _, _, rfl, ?_, ⟨_, rfl⟩, hW, hsame.mono (by decide) (by decide)⟩
  · show Steps p.tables e below (s₁.setTop (mkF m 0 #[.val (.ref a1)] [])) _
    refine XS.aloadN X0.here hx rfl (hb hby dC_0) rfl rfl ?_
    show Steps p.tables e below (s₁.setTop (mkF m 1 #[.val (.ref a1)] [(.ref a1)])) _
    refine st1 _ ?_
    show Steps p.tables e below (T1.setTop (mkF m 4 #[.val (.ref a1)] [])) _
    exact X1.returnOut hx Bd.returns (hb hby dC_4) hr
  · show QC h0 n0 _ T1.heap _
    rw [e1]
    exact ⟨rfl, N0, rfl⟩
theorem dD_0 : decode prog_4_method_4_code 0 = .ok (.aload_n 0, 1) := by decide +kernel
theorem dD_1 : decode prog_4_method_4_code 1 = .ok (.getfield 31, 3) := by decide +kernel
theorem dD_4 : decode prog_4_method_4_code 4 = .ok (.aload_n 1, 1) := by decide +kernel
theorem dD_5 : decode prog_4_method_4_code 5 = .ok (.getfield 31, 3) := by decide +kernel
theorem dD_8 : decode prog_4_method_4_code 8 = .ok (.lcmp, 1) := by decide +kernel
theorem dD_9 : decode prog_4_method_4_code 9 = .ok (.ifCond .ne 31, 3) := by decide +kernel
theorem dD_12 : decode prog_4_method_4_code 12 = .ok (.aload_n 0, 1) := by decide +kernel
theorem dD_13 : decode prog_4_method_4_code 13 = .ok (.getfield 37, 3) := by decide +kernel
theorem dD_16 : decode prog_4_method_4_code 16 = .ok (.aload_n 1, 1) := by decide +kernel
theorem dD_17 : decode prog_4_method_4_code 17 = .ok (.getfield 37, 3) := by decide +kernel
theorem dD_20 : decode prog_4_method_4_code 20 = .ok (.lcmp, 1) := by decide +kernel
theorem dD_21 : decode prog_4_method_4_code 21 = .ok (.ifCond .ne 19, 3) := by decide +kernel
theorem dD_24 : decode prog_4_method_4_code 24 = .ok (.aload_n 0, 1) := by decide +kernel
theorem dD_25 : decode prog_4_method_4_code 25 = .ok (.getfield 48, 3) := by decide +kernel
theorem dD_28 : decode prog_4_method_4_code 28 = .ok (.aload_n 1, 1) := by decide +kernel
theorem dD_29 : decode prog_4_method_4_code 29 = .ok (.getfield 48, 3) := by decide +kernel
theorem dD_32 : decode prog_4_method_4_code 32 = .ok (.lcmp, 1) := by decide +kernel
theorem dD_33 : decode prog_4_method_4_code 33 = .ok (.ifCond .ne 7, 3) := by decide +kernel
theorem dD_36 : decode prog_4_method_4_code 36 = .ok (.iconst 1, 1) := by decide +kernel
theorem dD_37 : decode prog_4_method_4_code 37 = .ok (.goto 4, 3) := by decide +kernel
theorem dD_40 : decode prog_4_method_4_code 40 = .ok (.iconst 0, 1) := by decide +kernel
theorem dD_41 : decode prog_4_method_4_code 41 = .ok (.ireturn, 1) := by decide +kernel
def QD (n f s n' f' s' : Int64) (h0 : Heap) (n0 : Nat) (v : Option Value) (h : Heap) (L : List Loc) : Prop := v = some (.int (own_same n f s n' f' s')) ∧ Fr n0 L ∧ h = h0
theorem pnD : plainName "com/example/keelson/keelson/bench/LineDigest" = true := by first | (simp [plainName, overriddenIn]; done) | decide +kernel
theorem efD (m : MethodId) (x0 : Addr) (x1 : Addr) : entryFrame m #[(.ref x0), (.ref x1)] 2 = mkF m 0 #[.val (.ref x0), .val (.ref x1)] [] := by first | (simp [entryFrame, mkF, argsToLocals, Value.category]; done) | rfl
set_option maxRecDepth 65536 in
set_option maxHeartbeats 40000000 in
theorem rmD (l : Launch) (Z : State) (a0 : Array Value) (hw : ∀ d ∈ tables_1, d.before a0 Z = true) (ws : List Jvm.Cond) (a1 a2 : Addr) (n f s' n' f' t' : Int64) (h0 : Heap) (n0 : Nat) (Z0 : n0 ≤ h0.size) (D1 : own_Dig Z h0 a1 n f s') (D2 : own_Dig Z h0 a2 n' f' t') :
    MetFree l (⟨"com/example/keelson/keelson/bench/LineDigest", "sameLines", "(Lcom/example/keelson/keelson/bench/LineDigest;)Z"⟩ : MethodName) (head1 (Jvm.Cond.code (⟨"com/example/keelson/keelson/bench/LineDigest", "sameLines", "(Lcom/example/keelson/keelson/bench/LineDigest;)Z"⟩ : MethodName) prog_4_method_4_code 2 (some .boolean) :: ws) ({ frames := 0, cells := 0, slots := 0, locals := 0 } : Room)) (fun a U => a = #[(.ref a1), (.ref a2)] ∧ Z.Warmed39 U.vm ∧ U.heap = h0) (fun _ _ _ _ _ => True) (fun _ U o U' => ∃ v L, o = .returned v ∧ QD n f s' n' f' t' h0 n0 v U'.heap L ∧ FrameEnd U o U' L ({ frames := 0, cells := 0, slots := 0, locals := 0 } : Room).cells ({ frames := 0, cells := 0, slots := 0, locals := 0 } : Room).slots) := by
  refine MetFree.of_bodySF (plainFor_of_name pnD) hisR ?_
  intro p e s m args below meth c s₁ Bd hml0 hP hK
  obtain ⟨rfl, hZ, hh⟩ := hP
  have hx := Bd.exec
  have hby := Bd.bytes
  have hml : c.maxLocals = 2 := hml0
  have hown : s.vm.findClass "com/example/keelson/keelson/bench/LineDigest" = some m.cls := findClass_of_methodNamed Bd.named
  have hnm := (name_of_methodNamed Bd.named Bd.method).1
  have X0 : Stand p l e ({ frames := 0, cells := 0, slots := 0, locals := 0 } : Room) s m #[(.ref a1), (.ref a2)] below meth c s₁ [] 0 0 := Stand.of_body Bd
  have e0 : s₁.heap = h0 := by rw [← hh, Bd.state]; rfl
  have N0 := Fr.nil n0
  have pre0 : ∀ t, Steps p.tables e below (s₁.setTop (mkF m 0 #[.val (.ref a1), .val (.ref a2)] [])) t → Steps p.tables e below (s₁.setTop (entryFrame m #[(.ref a1), (.ref a2)] 2)) t := fun t k => castTop (efD m a1 a2) k
  obtain ⟨T1, X1, e1, st1⟩ := getF X0 hx hZ hown (host := "") (Or.inl (hw _ (List.mem_of_getElem? (i := 95) rfl))) Via.refl e0 D1.2.1 (g := (mkF m 1 #[.val (.ref a1), .val (.ref a2)] [(.ref a1)])) rfl rfl (hb hby dD_1)
  obtain ⟨T2, X2, e2, st2⟩ := getF X1 hx hZ hown (host := "") (Or.inl (hw _ (List.mem_of_getElem? (i := 95) rfl))) Via.refl e1 D2.2.1 (g := (mkF m 5 #[.val (.ref a1), .val (.ref a2)] [(.ref a2), (.long n)])) rfl rfl (hb hby dD_5)
  by_cases hc0 : (lcmpW n n') = (0 : Int32)
  · obtain ⟨T3, X3, e3, st3⟩ := getF X2 hx hZ hown (host := "") (Or.inl (hw _ (List.mem_of_getElem? (i := 97) rfl))) Via.refl e2 D1.2.2.1 (g := (mkF m 13 #[.val (.ref a1), .val (.ref a2)] [(.ref a1)])) rfl rfl (hb hby dD_13)
    obtain ⟨T4, X4, e4, st4⟩ := getF X3 hx hZ hown (host := "") (Or.inl (hw _ (List.mem_of_getElem? (i := 97) rfl))) Via.refl e3 D2.2.2.1 (g := (mkF m 17 #[.val (.ref a1), .val (.ref a2)] [(.ref a2), (.long f)])) rfl rfl (hb hby dD_17)
    by_cases hc1 : (lcmpW f f') = (0 : Int32)
    · obtain ⟨T5, X5, e5, st5⟩ := getF X4 hx hZ hown (host := "") (Or.inl (hw _ (List.mem_of_getElem? (i := 104) rfl))) Via.refl e4 D1.2.2.2 (g := (mkF m 25 #[.val (.ref a1), .val (.ref a2)] [(.ref a1)])) rfl rfl (hb hby dD_25)
      obtain ⟨T6, X6, e6, st6⟩ := getF X5 hx hZ hown (host := "") (Or.inl (hw _ (List.mem_of_getElem? (i := 104) rfl))) Via.refl e5 D2.2.2.2 (g := (mkF m 29 #[.val (.ref a1), .val (.ref a2)] [(.ref a2), (.long s')])) rfl rfl (hb hby dD_29)
      by_cases hc2 : (lcmpW s' t') = (0 : Int32)
      · obtain ⟨fs, hr, hrun, hended, hW, hsame⟩ := X6.leave (v := some (.int (1 : Int32))) (fun h => by rw [Bd.returns] at h; cases h)
        refine ⟨_, _, pre0 _ ?_, hrun, hended, _, _, rfl, ?_, ⟨_, rfl⟩, hW, hsame.mono (by decide) (by decide)⟩
        · show Steps p.tables e below (s₁.setTop (mkF m 0 #[.val (.ref a1), .val (.ref a2)] [])) _
          refine XS.aloadN X0.here hx rfl (hb hby dD_0) rfl rfl ?_
          show Steps p.tables e below (s₁.setTop (mkF m 1 #[.val (.ref a1), .val (.ref a2)] [(.ref a1)])) _
          refine st1 _ ?_
          show Steps p.tables e below (T1.setTop (mkF m 4 #[.val (.ref a1), .val (.ref a2)] [(.long n)])) _
          refine XS.aloadN X1.here hx rfl (hb hby dD_4) rfl rfl ?_
          show Steps p.tables e below (T1.setTop (mkF m 5 #[.val (.ref a1), .val (.ref a2)] [(.ref a2), (.long n)])) _
          refine st2 _ ?_
          show Steps p.tables e below (T2.setTop (mkF m 8 #[.val (.ref a1), .val (.ref a2)] [(.long n'), (.long n)])) _
          refine XS.lcmp X2.here hx rfl (hb hby dD_8) rfl ?_
          show Steps p.tables e below (T2.setTop (mkF m 9 #[.val (.ref a1), .val (.ref a2)] [(.int (lcmpW n n'))])) _
          refine XS.ifNo X2.here hx rfl (hb hby dD_9) rfl ((if0 _ _).trans (teq (hc0 : (lcmpW n n') = (0 : Int32))).2) ?_
          show Steps p.tables e below (T2.setTop (mkF m 12 #[.val (.ref a1), .val (.ref a2)] [])) _
          refine XS.aloadN X2.here hx rfl (hb hby dD_12) rfl rfl ?_
          show Steps p.tables e below (T2.setTop (mkF m 13 #[.val (.ref a1), .val (.ref a2)] [(.ref a1)])) _
          refine st3 _ ?_
          show Steps p.tables e below (T3.setTop (mkF m 16 #[.val (.ref a1), .val (.ref a2)] [(.long f)])) _
          refine XS.aloadN X3.here hx rfl (hb hby dD_16) rfl rfl ?_
          show Steps p.tables e below (T3.setTop (mkF m 17 #[.val (.ref a1), .val (.ref a2)] [(.ref a2), (.long f)])) _
          refine st4 _ ?_
          show Steps p.tables e below (T4.setTop (mkF m 20 #[.val (.ref a1), .val (.ref a2)] [(.long f'), (.long f)])) _
          refine XS.lcmp X4.here hx rfl (hb hby dD_20) rfl ?_
          show Steps p.tables e below (T4.setTop (mkF m 21 #[.val (.ref a1), .val (.ref a2)] [(.int (lcmpW f f'))])) _
          refine XS.ifNo X4.here hx rfl (hb hby dD_21) rfl ((if0 _ _).trans (teq (hc1 : (lcmpW f f') = (0 : Int32))).2) ?_
          show Steps p.tables e below (T4.setTop (mkF m 24 #[.val (.ref a1), .val (.ref a2)] [])) _
          refine XS.aloadN X4.here hx rfl (hb hby dD_24) rfl rfl ?_
          show Steps p.tables e below (T4.setTop (mkF m 25 #[.val (.ref a1), .val (.ref a2)] [(.ref a1)])) _
          refine st5 _ ?_
          show Steps p.tables e below (T5.setTop (mkF m 28 #[.val (.ref a1), .val (.ref a2)] [(.long s')])) _
          refine XS.aloadN X5.here hx rfl (hb hby dD_28) rfl rfl ?_
          show Steps p.tables e below (T5.setTop (mkF m 29 #[.val (.ref a1), .val (.ref a2)] [(.ref a2), (.long s')])) _
          refine st6 _ ?_
          show Steps p.tables e below (T6.setTop (mkF m 32 #[.val (.ref a1), .val (.ref a2)] [(.long t'), (.long s')])) _
          refine XS.lcmp X6.here hx rfl (hb hby dD_32) rfl ?_
          show Steps p.tables e below (T6.setTop (mkF m 33 #[.val (.ref a1), .val (.ref a2)] [(.int (lcmpW s' t'))])) _
          refine XS.ifNo X6.here hx rfl (hb hby dD_33) rfl ((if0 _ _).trans (teq (hc2 : (lcmpW s' t') = (0 : Int32))).2) ?_
          show Steps p.tables e below (T6.setTop (mkF m 36 #[.val (.ref a1), .val (.ref a2)] [])) _
          refine XS.iconst X6.here hx rfl (hb hby dD_36) ?_
          show Steps p.tables e below (T6.setTop (mkF m 37 #[.val (.ref a1), .val (.ref a2)] [(.int (1 : Int32))])) _
          refine XS.goto X6.here hx rfl (pc0 := 37) (pc' := 41) rfl (hb hby dD_37) (by decide) (by decide) ?_
          show Steps p.tables e below (T6.setTop (mkF m 41 #[.val (.ref a1), .val (.ref a2)] [(.int (1 : Int32))])) _
          exact retN X6 hx (t := .boolean) Bd.returns (by simp) (hb hby dD_41) hr
        · show QD n f s' n' f' t' h0 n0 _ T6.heap _
          rw [e6]
          exact ⟨by rw [own_same, if_pos ⟨(lw_eq _ _).mp hc0, (lw_eq _ _).mp hc1, (lw_eq _ _).mp hc2⟩], N0, rfl⟩
      · obtain ⟨fs, hr, hrun, hended, hW, hsame⟩ := X6.leave (v := some (.int (0 : Int32))) (fun h => by rw [Bd.returns] at h; cases h)
        refine ⟨_, _, pre0 _ ?_, hrun, hended, _, _, rfl, ?_, ⟨_, rfl⟩, hW, hsame.mono (by decide) (by decide)⟩
        · show Steps p.tables e below (s₁.setTop (mkF m 0 #[.val (.ref a1), .val (.ref a2)] [])) _
          refine XS.aloadN X0.here hx rfl (hb hby dD_0) rfl rfl ?_
          show Steps p.tables e below (s₁.setTop (mkF m 1 #[.val (.ref a1), .val (.ref a2)] [(.ref a1)])) _
          refine st1 _ ?_
          show Steps p.tables e below (T1.setTop (mkF m 4 #[.val (.ref a1), .val (.ref a2)] [(.long n)])) _
          refine XS.aloadN X1.here hx rfl (hb hby dD_4) rfl rfl ?_
          show Steps p.tables e below (T1.setTop (mkF m 5 #[.val (.ref a1), .val (.ref a2)] [(.ref a2), (.long n)])) _
          refine st2 _ ?_
          show Steps p.tables e below (T2.setTop (mkF m 8 #[.val (.ref a1), .val (.ref a2)] [(.long n'), (.long n)])) _
          refine XS.lcmp X2.here hx rfl (hb hby dD_8) rfl ?_
          show Steps p.tables e below (T2.setTop (mkF m 9 #[.val (.ref a1), .val (.ref a2)] [(.int (lcmpW n n'))])) _
          refine XS.ifNo X2.here hx rfl (hb hby dD_9) rfl ((if0 _ _).trans (teq (hc0 : (lcmpW n n') = (0 : Int32))).2) ?_
          show Steps p.tables e below (T2.setTop (mkF m 12 #[.val (.ref a1), .val (.ref a2)] [])) _
          refine XS.aloadN X2.here hx rfl (hb hby dD_12) rfl rfl ?_
          show Steps p.tables e below (T2.setTop (mkF m 13 #[.val (.ref a1), .val (.ref a2)] [(.ref a1)])) _
          refine st3 _ ?_
          show Steps p.tables e below (T3.setTop (mkF m 16 #[.val (.ref a1), .val (.ref a2)] [(.long f)])) _
          refine XS.aloadN X3.here hx rfl (hb hby dD_16) rfl rfl ?_
          show Steps p.tables e below (T3.setTop (mkF m 17 #[.val (.ref a1), .val (.ref a2)] [(.ref a2), (.long f)])) _
          refine st4 _ ?_
          show Steps p.tables e below (T4.setTop (mkF m 20 #[.val (.ref a1), .val (.ref a2)] [(.long f'), (.long f)])) _
          refine XS.lcmp X4.here hx rfl (hb hby dD_20) rfl ?_
          show Steps p.tables e below (T4.setTop (mkF m 21 #[.val (.ref a1), .val (.ref a2)] [(.int (lcmpW f f'))])) _
          refine XS.ifNo X4.here hx rfl (hb hby dD_21) rfl ((if0 _ _).trans (teq (hc1 : (lcmpW f f') = (0 : Int32))).2) ?_
          show Steps p.tables e below (T4.setTop (mkF m 24 #[.val (.ref a1), .val (.ref a2)] [])) _
          refine XS.aloadN X4.here hx rfl (hb hby dD_24) rfl rfl ?_
          show Steps p.tables e below (T4.setTop (mkF m 25 #[.val (.ref a1), .val (.ref a2)] [(.ref a1)])) _
          refine st5 _ ?_
          show Steps p.tables e below (T5.setTop (mkF m 28 #[.val (.ref a1), .val (.ref a2)] [(.long s')])) _
          refine XS.aloadN X5.here hx rfl (hb hby dD_28) rfl rfl ?_
          show Steps p.tables e below (T5.setTop (mkF m 29 #[.val (.ref a1), .val (.ref a2)] [(.ref a2), (.long s')])) _
          refine st6 _ ?_
          show Steps p.tables e below (T6.setTop (mkF m 32 #[.val (.ref a1), .val (.ref a2)] [(.long t'), (.long s')])) _
          refine XS.lcmp X6.here hx rfl (hb hby dD_32) rfl ?_
          show Steps p.tables e below (T6.setTop (mkF m 33 #[.val (.ref a1), .val (.ref a2)] [(.int (lcmpW s' t'))])) _
          refine XS.ifYes X6.here hx rfl (pc0 := 33) (pc' := 40) rfl (hb hby dD_33) rfl ((if0 _ _).trans (feq (hc2 : ¬ ((lcmpW s' t') = (0 : Int32)))).2) (by decide) (by decide) ?_
          show Steps p.tables e below (T6.setTop (mkF m 40 #[.val (.ref a1), .val (.ref a2)] [])) _
          refine XS.iconst X6.here hx rfl (hb hby dD_40) ?_
          show Steps p.tables e below (T6.setTop (mkF m 41 #[.val (.ref a1), .val (.ref a2)] [(.int (0 : Int32))])) _
          exact retN X6 hx (t := .boolean) Bd.returns (by simp) (hb hby dD_41) hr
        · show QD n f s' n' f' t' h0 n0 _ T6.heap _
          rw [e6]
          exact ⟨by rw [own_same, if_neg (fun q => hc2 ((lw_eq _ _).mpr q.2.2))], N0, rfl⟩
    · obtain ⟨fs, hr, hrun, hended, hW, hsame⟩ := X4.leave (v := some (.int (0 : Int32))) (fun h => by rw [Bd.returns] at h; cases h)
      refine ⟨_, _, pre0 _ ?_, hrun, hended, _, _, rfl, ?_, ⟨_, rfl⟩, hW, hsame.mono (by decide) (by decide)⟩
      · show Steps p.tables e below (s₁.setTop (mkF m 0 #[.val (.ref a1), .val (.ref a2)] [])) _
        refine XS.aloadN X0.here hx rfl (hb hby dD_0) rfl rfl ?_
        show Steps p.tables e below (s₁.setTop (mkF m 1 #[.val (.ref a1), .val (.ref a2)] [(.ref a1)])) _
        refine st1 _ ?_
        show Steps p.tables e below (T1.setTop (mkF m 4 #[.val (.ref a1), .val (.ref a2)] [(.long n)])) _
        refine XS.aloadN X1.here hx rfl (hb hby dD_4) rfl rfl ?_
        show Steps p.tables e below (T1.setTop (mkF m 5 #[.val (.ref a1), .val (.ref a2)] [(.ref a2), (.long n)])) _
        refine st2 _ ?_
        show Steps p.tables e below (T2.setTop (mkF m 8 #[.val (.ref a1), .val (.ref a2)] [(.long n'), (.long n)])) _
        refine XS.lcmp X2.here hx rfl (hb hby dD_8) rfl ?_
        show Steps p.tables e below (T2.setTop (mkF m 9 #[.val (.ref a1), .val (.ref a2)] [(.int (lcmpW n n'))])) _
        refine XS.ifNo X2.here hx rfl (hb hby dD_9) rfl ((if0 _ _).trans (teq (hc0 : (lcmpW n n') = (0 : Int32))).2) ?_
        show Steps p.tables e below (T2.setTop (mkF m 12 #[.val (.ref a1), .val (.ref a2)] [])) _
        refine XS.aloadN X2.here hx rfl (hb hby dD_12) rfl rfl ?_
        show Steps p.tables e below (T2.setTop (mkF m 13 #[.val (.ref a1), .val (.ref a2)] [(.ref a1)])) _
        refine st3 _ ?_
        show Steps p.tables e below (T3.setTop (mkF m 16 #[.val (.ref a1), .val (.ref a2)] [(.long f)])) _
        refine XS.aloadN X3.here hx rfl (hb hby dD_16) rfl rfl ?_
        show Steps p.tables e below (T3.setTop (mkF m 17 #[.val (.ref a1), .val (.ref a2)] [(.ref a2), (.long f)])) _
        refine st4 _ ?_
        show Steps p.tables e below (T4.setTop (mkF m 20 #[.val (.ref a1), .val (.ref a2)] [(.long f'), (.long f)])) _
        refine XS.lcmp X4.here hx rfl (hb hby dD_20) rfl ?_
        show Steps p.tables e below (T4.setTop (mkF m 21 #[.val (.ref a1), .val (.ref a2)] [(.int (lcmpW f f'))])) _
        refine XS.ifYes X4.here hx rfl (pc0 := 21) (pc' := 40) rfl (hb hby dD_21) rfl ((if0 _ _).trans (feq (hc1 : ¬ ((lcmpW f f') = (0 : Int32)))).2) (by decide) (by decide) ?_
        show Steps p.tables e below (T4.setTop (mkF m 40 #[.val (.ref a1), .val (.ref a2)] [])) _
        refine XS.iconst X4.here hx rfl (hb hby dD_40) ?_
        show Steps p.tables e below (T4.setTop (mkF m 41 #[.val (.ref a1), .val (.ref a2)] [(.int (0 : Int32))])) _
        exact retN X4 hx (t := .boolean) Bd.returns (by simp) (hb hby dD_41) hr
      · show QD n f s' n' f' t' h0 n0 _ T4.heap _
        rw [e4]
        exact ⟨by rw [own_same, if_neg (fun q => hc1 ((lw_eq _ _).mpr q.2.1))], N0, rfl⟩
  · obtain ⟨fs, hr, hrun, hended, hW, hsame⟩ := X2.leave (v := some (.int (0 : Int32))) (fun h => by rw [Bd.returns] at h; cases h)
    refine ⟨_, _, pre0 _ ?_, hrun, hended, _, _, rfl, ?_, ⟨_, rfl⟩, hW, hsame.mono (by decide) (by decide)⟩
    · show Steps p.tables e below (s₁.setTop (mkF m 0 #[.val (.ref a1), .val (.ref a2)] [])) _
      refine XS.aloadN X0.here hx rfl (hb hby dD_0) rfl rfl ?_
      show Steps p.tables e below (s₁.setTop (mkF m 1 #[.val (.ref a1), .val (.ref a2)] [(.ref a1)])) _
      refine st1 _ ?_
      show Steps p.tables e below (T1.setTop (mkF m 4 #[.val (.ref a1), .val (.ref a2)] [(.long n)])) _
      refine XS.aloadN X1.here hx rfl (hb hby dD_4) rfl rfl ?_
      show Steps p.tables e below (T1.setTop (mkF m 5 #[.val (.ref a1), .val (.ref a2)] [(.ref a2), (.long n)])) _
      refine st2 _ ?_
      show Steps p.tables e below (T2.setTop (mkF m 8 #[.val (.ref a1), .val (.ref a2)] [(.long n'), (.long n)])) _
      refine XS.lcmp X2.here hx rfl (hb hby dD_8) rfl ?_
      show Steps p.tables e below (T2.setTop (mkF m 9 #[.val (.ref a1), .val (.ref a2)] [(.int (lcmpW n n'))])) _
      refine XS.ifYes X2.here hx rfl (pc0 := 9) (pc' := 40) rfl (hb hby dD_9) rfl ((if0 _ _).trans (feq (hc0 : ¬ ((lcmpW n n') = (0 : Int32)))).2) (by decide) (by decide) ?_
      show Steps p.tables e below (T2.setTop (mkF m 40 #[.val (.ref a1), .val (.ref a2)] [])) _
      refine XS.iconst X2.here hx rfl (hb hby dD_40) ?_
      show Steps p.tables e below (T2.setTop (mkF m 41 #[.val (.ref a1), .val (.ref a2)] [(.int (0 : Int32))])) _
      exact retN X2 hx (t := .boolean) Bd.returns (by simp) (hb hby dD_41) hr
    · show QD n f s' n' f' t' h0 n0 _ T2.heap _
      rw [e2]
      exact ⟨by rw [own_same, if_neg (fun q => hc0 ((lw_eq _ _).mpr q.1))], N0, rfl⟩
theorem own_store {z0 z1 z2 z4 z6 : Value} {s7 : Slot} {v : Int32} (h : One s7) : storeLocals #[.val z0, .val z1, .val z2, .second, .val z4, .second, .val z6, s7] 7 (.int v) = some #[.val z0, .val z1, .val z2, .second, .val z4, .second, .val z6, .val (.int v)] := by
  rcases h with rfl | ⟨w, rfl, hw⟩
  · rfl
  · cases w <;> first | rfl | (simp [Value.category] at hw)
theorem dE_0 : decode prog_4_method_2_code 0 = .ok (.ldc2_w 7, 3) := by decide +kernel
theorem dE_3 : decode prog_4_method_2_code 3 = .ok (.lstore_n 2, 1) := by decide +kernel
theorem dE_4 : decode prog_4_method_2_code 4 = .ok (.ldc2_w 9, 3) := by decide +kernel
theorem dE_7 : decode prog_4_method_2_code 7 = .ok (.lstore 4, 2) := by decide +kernel
theorem dE_9 : decode prog_4_method_2_code 9 = .ok (.iconst 0, 1) := by decide +kernel
theorem dE_10 : decode prog_4_method_2_code 10 = .ok (.istore 6, 2) := by decide +kernel
theorem dE_12 : decode prog_4_method_2_code 12 = .ok (.iload 6, 2) := by decide +kernel
theorem dE_14 : decode prog_4_method_2_code 14 = .ok (.aload_n 1, 1) := by decide +kernel
theorem dE_15 : decode prog_4_method_2_code 15 = .ok (.invokevirtual 11, 3) := by decide +kernel
theorem dE_18 : decode prog_4_method_2_code 18 = .ok (.if_icmp .ge 44, 3) := by decide +kernel
theorem dE_21 : decode prog_4_method_2_code 21 = .ok (.aload_n 1, 1) := by decide +kernel
theorem dE_22 : decode prog_4_method_2_code 22 = .ok (.iload 6, 2) := by decide +kernel
theorem dE_24 : decode prog_4_method_2_code 24 = .ok (.invokevirtual 17, 3) := by decide +kernel
theorem dE_27 : decode prog_4_method_2_code 27 = .ok (.istore 7, 2) := by decide +kernel
theorem dE_29 : decode prog_4_method_2_code 29 = .ok (.lload_n 2, 1) := by decide +kernel
theorem dE_30 : decode prog_4_method_2_code 30 = .ok (.iload 7, 2) := by decide +kernel
theorem dE_32 : decode prog_4_method_2_code 32 = .ok (.i2l, 1) := by decide +kernel
theorem dE_33 : decode prog_4_method_2_code 33 = .ok (.lxor, 1) := by decide +kernel
theorem dE_34 : decode prog_4_method_2_code 34 = .ok (.ldc2_w 21, 3) := by decide +kernel
theorem dE_37 : decode prog_4_method_2_code 37 = .ok (.lmul, 1) := by decide +kernel
theorem dE_38 : decode prog_4_method_2_code 38 = .ok (.lstore_n 2, 1) := by decide +kernel
theorem dE_39 : decode prog_4_method_2_code 39 = .ok (.lload 4, 2) := by decide +kernel
theorem dE_41 : decode prog_4_method_2_code 41 = .ok (.iload 7, 2) := by decide +kernel
theorem dE_43 : decode prog_4_method_2_code 43 = .ok (.i2l, 1) := by decide +kernel
theorem dE_44 : decode prog_4_method_2_code 44 = .ok (.lxor, 1) := by decide +kernel
theorem dE_45 : decode prog_4_method_2_code 45 = .ok (.ldc2_w 23, 3) := by decide +kernel
theorem dE_48 : decode prog_4_method_2_code 48 = .ok (.lmul, 1) := by decide +kernel
theorem dE_49 : decode prog_4_method_2_code 49 = .ok (.bipush 31, 2) := by decide +kernel
theorem dE_51 : decode prog_4_method_2_code 51 = .ok (.invokestatic 25, 3) := by decide +kernel
theorem dE_54 : decode prog_4_method_2_code 54 = .ok (.lstore 4, 2) := by decide +kernel
theorem dE_56 : decode prog_4_method_2_code 56 = .ok (.iinc 6 1, 3) := by decide +kernel
theorem dE_59 : decode prog_4_method_2_code 59 = .ok (.goto (-47), 3) := by decide +kernel
theorem dE_62 : decode prog_4_method_2_code 62 = .ok (.aload_n 0, 1) := by decide +kernel
theorem dE_63 : decode prog_4_method_2_code 63 = .ok (.dup, 1) := by decide +kernel
theorem dE_64 : decode prog_4_method_2_code 64 = .ok (.getfield 31, 3) := by decide +kernel
theorem dE_67 : decode prog_4_method_2_code 67 = .ok (.lconst 1, 1) := by decide +kernel
theorem dE_68 : decode prog_4_method_2_code 68 = .ok (.ladd, 1) := by decide +kernel
theorem dE_69 : decode prog_4_method_2_code 69 = .ok (.putfield 31, 3) := by decide +kernel
theorem dE_72 : decode prog_4_method_2_code 72 = .ok (.aload_n 0, 1) := by decide +kernel
theorem dE_73 : decode prog_4_method_2_code 73 = .ok (.dup, 1) := by decide +kernel
theorem dE_74 : decode prog_4_method_2_code 74 = .ok (.getfield 37, 3) := by decide +kernel
theorem dE_77 : decode prog_4_method_2_code 77 = .ok (.lload_n 2, 1) := by decide +kernel
theorem dE_78 : decode prog_4_method_2_code 78 = .ok (.aload_n 1, 1) := by decide +kernel
theorem dE_79 : decode prog_4_method_2_code 79 = .ok (.invokevirtual 11, 3) := by decide +kernel
theorem dE_82 : decode prog_4_method_2_code 82 = .ok (.i2l, 1) := by decide +kernel
theorem dE_83 : decode prog_4_method_2_code 83 = .ok (.lxor, 1) := by decide +kernel
theorem dE_84 : decode prog_4_method_2_code 84 = .ok (.ldc2_w 40, 3) := by decide +kernel
theorem dE_87 : decode prog_4_method_2_code 87 = .ok (.ldc2_w 42, 3) := by decide +kernel
theorem dE_90 : decode prog_4_method_2_code 90 = .ok (.invokestatic 44, 3) := by decide +kernel
theorem dE_93 : decode prog_4_method_2_code 93 = .ok (.ladd, 1) := by decide +kernel
theorem dE_94 : decode prog_4_method_2_code 94 = .ok (.putfield 37, 3) := by decide +kernel
theorem dE_97 : decode prog_4_method_2_code 97 = .ok (.aload_n 0, 1) := by decide +kernel
theorem dE_98 : decode prog_4_method_2_code 98 = .ok (.dup, 1) := by decide +kernel
theorem dE_99 : decode prog_4_method_2_code 99 = .ok (.getfield 48, 3) := by decide +kernel
theorem dE_102 : decode prog_4_method_2_code 102 = .ok (.lload 4, 2) := by decide +kernel
theorem dE_104 : decode prog_4_method_2_code 104 = .ok (.aload_n 1, 1) := by decide +kernel
theorem dE_105 : decode prog_4_method_2_code 105 = .ok (.invokevirtual 11, 3) := by decide +kernel
theorem dE_108 : decode prog_4_method_2_code 108 = .ok (.i2l, 1) := by decide +kernel
theorem dE_109 : decode prog_4_method_2_code 109 = .ok (.lxor, 1) := by decide +kernel
theorem dE_110 : decode prog_4_method_2_code 110 = .ok (.ldc2_w 51, 3) := by decide +kernel
theorem dE_113 : decode prog_4_method_2_code 113 = .ok (.ldc2_w 53, 3) := by decide +kernel
theorem dE_116 : decode prog_4_method_2_code 116 = .ok (.invokestatic 44, 3) := by decide +kernel
theorem dE_119 : decode prog_4_method_2_code 119 = .ok (.ladd, 1) := by decide +kernel
theorem dE_120 : decode prog_4_method_2_code 120 = .ok (.putfield 48, 3) := by decide +kernel
theorem dE_123 : decode prog_4_method_2_code 123 = .ok (.return_, 1) := by decide +kernel
theorem pdE_0 : parseMethodDescriptor "()I" = some ⟨[], some .int⟩ := by decide +kernel
theorem pdE_1 : parseMethodDescriptor "(I)C" = some ⟨[.int], some .char⟩ := by decide +kernel
theorem pdE_2 : parseMethodDescriptor "(JI)J" = some ⟨[.long, .int], some .long⟩ := by decide +kernel
theorem pdE_3 : parseMethodDescriptor "(JJJ)J" = some ⟨[.long, .long, .long], some .long⟩ := by decide +kernel
def QE (Z : State) (a1 : Addr) (us : List UInt16) (n f s' : Int64) (h0 : Heap) (n0 : Nat) (v : Option Value) (h : Heap) (L : List Loc) : Prop := v = none ∧ Fr n0 L ∧ Keep h0 h [a1] ∧ own_Dig Z h a1 (n + 1) (f + own_F us) (s' + own_G us)
theorem pnE : plainName "com/example/keelson/keelson/bench/LineDigest" = true := by first | (simp [plainName, overriddenIn]; done) | decide +kernel
theorem efE (m : MethodId) (x0 : Addr) (x1 : Addr) : entryFrame m #[(.ref x0), (.ref x1)] 8 = mkF m 0 #[.val (.ref x0), .val (.ref x1), .unset, .unset, .unset, .unset, .unset, .unset] [] := by first | (simp [entryFrame, mkF, argsToLocals, Value.category]; done) | rfl
set_option maxRecDepth 65536 in
set_option maxHeartbeats 40000000 in
theorem rmE (l : Launch) (Z : State) (a0 : Array Value) (hw : ∀ d ∈ tables_1, d.before a0 Z = true) (ws : List Jvm.Cond) (csx : Int32) (vF : Value) (a1 a2 : Addr) (B : Nat) (us : List UInt16) (n f s' : Int64) (h0 : Heap) (n0 : Nat) (Z0 : n0 ≤ h0.size) (St : own_St Z csx vF) (O0 : Old Z n0 h0) (hu : us.length < 3) (hS : own_Str Z h0 n0 B a2 us) (D1 : own_Dig Z h0 a1 n f s') (gn_a1 : n0 ≤ a1) (gB_a1 : B ≤ a1) :
    MetFree l (⟨"com/example/keelson/keelson/bench/LineDigest", "add", "(Ljava/lang/String;)V"⟩ : MethodName) (head1 (Jvm.Cond.code (⟨"com/example/keelson/keelson/bench/LineDigest", "add", "(Ljava/lang/String;)V"⟩ : MethodName) prog_4_method_2_code 8 none :: ws) ({ frames := 5, cells := 0, slots := 0, locals := 66 } : Room)) (fun a U => a = #[(.ref a1), (.ref a2)] ∧ Z.Warmed39 U.vm ∧ U.heap = h0) (fun _ _ _ _ _ => True) (fun _ U o U' => ∃ v L, o = .returned v ∧ QE Z a1 us n f s' h0 n0 v U'.heap L ∧ FrameEnd U o U' L ({ frames := 5, cells := 0, slots := 0, locals := 66 } : Room).cells ({ frames := 5, cells := 0, slots := 0, locals := 66 } : Room).slots) := by
  refine MetFree.of_bodySF (plainFor_of_name pnE) hisR ?_
  intro p e s m args below meth c s₁ Bd hml0 hP hK
  obtain ⟨rfl, hZ, hh⟩ := hP
  have hx := Bd.exec
  have hby := Bd.bytes
  have hml : c.maxLocals = 8 := hml0
  have hown : s.vm.findClass "com/example/keelson/keelson/bench/LineDigest" = some m.cls := findClass_of_methodNamed Bd.named
  have hnm := (name_of_methodNamed Bd.named Bd.method).1
  have X0 : Stand p l e ({ frames := 5, cells := 0, slots := 0, locals := 66 } : Room) s m #[(.ref a1), (.ref a2)] below meth c s₁ [] 0 0 := Stand.of_body Bd
  have e0 : s₁.heap = h0 := by rw [← hh, Bd.state]; rfl
  have N0 := Fr.nil n0
  have pre0 : ∀ t, Steps p.tables e below (s₁.setTop (mkF m 0 #[.val (.ref a1), .val (.ref a2), .unset, .unset, .unset, .unset, .unset, .unset] [])) t → Steps p.tables e below (s₁.setTop (entryFrame m #[(.ref a1), (.ref a2)] 8)) t := fun t k => castTop (efE m a1 a2) k
  have ExS : Exa Z h0 a2 "java/lang/String" := by obtain ⟨_, _, _, q, _⟩ := hS; exact q
  have loop : ∀ (k i : Nat) (Ta : State) (L1 : List Loc) (s7 : Slot), One s7 → i + k = us.length → Stand p l e ({ frames := 5, cells := 0, slots := 0, locals := 66 } : Room) s m #[(.ref a1), (.ref a2)] below meth c Ta L1 0 0 → Ta.heap = h0 → Fr n0 L1 → ∃ (T' : State) (L' : List Loc) (s7' : Slot), One s7' ∧ Stand p l e ({ frames := 5, cells := 0, slots := 0, locals := 66 } : Room) s m #[(.ref a1), (.ref a2)] below meth c T' L' 0 0 ∧ T'.heap = h0 ∧ Fr n0 L' ∧ ∀ target, Steps p.tables e below (T'.setTop (mkF m 62 #[.val (.ref a1), .val (.ref a2), .val (.long (own_ha us us.length)), .second, .val (.long (own_hb us us.length)), .second, .val (.int (Int32.ofNat us.length)), s7'] [])) target → Steps p.tables e below (Ta.setTop (mkF m 12 #[.val (.ref a1), .val (.ref a2), .val (.long (own_ha us i)), .second, .val (.long (own_hb us i)), .second, .val (.int (Int32.ofNat i)), s7] [])) target := by
    intro k
    induction k with
    | zero =>
      intro i Ta L1 s7 h7 hk Xa ea Na
      have hi' : i = us.length := by omega
      subst hi'
      obtain ⟨cq1, kq1, q1a, q1b, q1c⟩ := isOf hZ ea ExS
      obtain ⟨_, _, ⟨T1, L1, k1, n1⟩, -, X1, ⟨Lc1, hQ1, l1, y1, z1⟩, st1⟩ := Xa.virtualBack hx (y := (⟨"java/lang/String", "length", "()I"⟩ : MethodName)) (z := (⟨"java/lang/String", "length", "()I"⟩ : MethodName)) hown (mvT hZ (hw _ (List.mem_of_getElem? (i := 58) rfl))) (mvT hZ (hw _ (List.mem_of_getElem? (i := 59) rfl))) (notFace_of_selects (args := #[]) (mvT hZ (hw _ (List.mem_of_getElem? (i := 61) rfl)))) (mvT hZ (hw _ (List.mem_of_getElem? (i := 61) rfl))) (mvT hZ (hw _ (List.mem_of_getElem? (i := 60) rfl))) (by decide) (backOf (W := 1) (rms l Z a0 hw [] csx vF a2 B us h0 n0 Z0 St O0 (by omega) hS) hZ (hw _ (List.mem_of_getElem? (i := 62) rfl)) (hw _ (List.mem_of_getElem? (i := 2) rfl)) (by decide) (by decide)) q1a q1c (g := (mkF m 15 #[.val (.ref a1), .val (.ref a2), .val (.long (own_ha us us.length)), .second, .val (.long (own_hb us us.length)), .second, .val (.int (Int32.ofNat us.length)), s7] [(.ref a2), (.int (Int32.ofNat us.length))])) rfl (by rw [hml]; rfl) (Steps.refl _) (argsL := []) (rest := [(.int (Int32.ofNat us.length))]) (lenOf pdE_0 rfl) rfl (by show 2 * 0 + _ ≤ _; exact Nat.le_of_eq rfl) (hb hby dE_15) (fun _ _ => ⟨rfl, ea, (by decide : 0 + 0 ≤ _), (by decide : 0 + 0 ≤ _)⟩)
      dsimp only [Pt.U, Pt.locs, Pt.cells, Pt.slots] at X1 l1 y1 z1 st1 hQ1
      subst l1 y1 z1
      obtain ⟨rfl, Nq1, e1⟩ := hQ1
      have N1 := Fr.app Na Nq1
      refine ⟨T1, _, s7, h7, X1, e1, N1, fun target kt => ?_⟩
      show Steps p.tables e below (Ta.setTop (mkF m 12 #[.val (.ref a1), .val (.ref a2), .val (.long (own_ha us us.length)), .second, .val (.long (own_hb us us.length)), .second, .val (.int (Int32.ofNat us.length)), s7] [])) _
      refine XS.iload Xa.here hx rfl (hb hby dE_12) rfl ?_
      show Steps p.tables e below (Ta.setTop (mkF m 14 #[.val (.ref a1), .val (.ref a2), .val (.long (own_ha us us.length)), .second, .val (.long (own_hb us us.length)), .second, .val (.int (Int32.ofNat us.length)), s7] [(.int (Int32.ofNat us.length))])) _
      refine XS.aloadN Xa.here hx rfl (hb hby dE_14) rfl rfl ?_
      show Steps p.tables e below (Ta.setTop (mkF m 15 #[.val (.ref a1), .val (.ref a2), .val (.long (own_ha us us.length)), .second, .val (.long (own_hb us us.length)), .second, .val (.int (Int32.ofNat us.length)), s7] [(.ref a2), (.int (Int32.ofNat us.length))])) _
      refine st1.trans ?_
      show Steps p.tables e below (T1.setTop (mkF m 18 #[.val (.ref a1), .val (.ref a2), .val (.long (own_ha us us.length)), .second, .val (.long (own_hb us us.length)), .second, .val (.int (Int32.ofNat us.length)), s7] [(.int (Int32.ofNat us.length)), (.int (Int32.ofNat us.length))])) _
      refine XS.icmpYes X1.here hx rfl (pc0 := 18) (pc' := 62) rfl (hb hby dE_18) rfl (flt ((Int32.lt_irrefl) : ¬ ((Int32.ofNat us.length) < (Int32.ofNat us.length)))).2.1 (by decide) (by decide) ?_
      exact kt
    | succ k ih =>
      intro i Ta L1 s7 h7 hk Xa ea Na
      obtain ⟨cq2, kq2, q2a, q2b, q2c⟩ := isOf hZ ea ExS
      obtain ⟨_, _, ⟨T2, L2, k2, n2⟩, -, X2, ⟨Lc2, hQ2, l2, y2, z2⟩, st2⟩ := Xa.virtualBack hx (y := (⟨"java/lang/String", "length", "()I"⟩ : MethodName)) (z := (⟨"java/lang/String", "length", "()I"⟩ : MethodName)) hown (mvT hZ (hw _ (List.mem_of_getElem? (i := 58) rfl))) (mvT hZ (hw _ (List.mem_of_getElem? (i := 59) rfl))) (notFace_of_selects (args := #[]) (mvT hZ (hw _ (List.mem_of_getElem? (i := 61) rfl)))) (mvT hZ (hw _ (List.mem_of_getElem? (i := 61) rfl))) (mvT hZ (hw _ (List.mem_of_getElem? (i := 60) rfl))) (by decide) (backOf (W := 1) (rms l Z a0 hw [] csx vF a2 B us h0 n0 Z0 St O0 (by omega) hS) hZ (hw _ (List.mem_of_getElem? (i := 62) rfl)) (hw _ (List.mem_of_getElem? (i := 2) rfl)) (by decide) (by decide)) q2a q2c (g := (mkF m 15 #[.val (.ref a1), .val (.ref a2), .val (.long (own_ha us i)), .second, .val (.long (own_hb us i)), .second, .val (.int (Int32.ofNat i)), s7] [(.ref a2), (.int (Int32.ofNat i))])) rfl (by rw [hml]; rfl) (Steps.refl _) (argsL := []) (rest := [(.int (Int32.ofNat i))]) (lenOf pdE_0 rfl) rfl (by show 2 * 0 + _ ≤ _; exact Nat.le_of_eq rfl) (hb hby dE_15) (fun _ _ => ⟨rfl, ea, (by decide : 0 + 0 ≤ _), (by decide : 0 + 0 ≤ _)⟩)
      dsimp only [Pt.U, Pt.locs, Pt.cells, Pt.slots] at X2 l2 y2 z2 st2 hQ2
      subst l2 y2 z2
      obtain ⟨rfl, Nq2, e2⟩ := hQ2
      have N2 := Fr.app Na Nq2
      obtain ⟨cq3, kq3, q3a, q3b, q3c⟩ := isOf hZ e2 ExS
      obtain ⟨_, _, ⟨T3, L3, k3, n3⟩, -, X3, ⟨Lc3, hQ3, l3, y3, z3⟩, st3⟩ := X2.virtualBack hx (y := (⟨"java/lang/String", "charAt", "(I)C"⟩ : MethodName)) (z := (⟨"java/lang/String", "charAt", "(I)C"⟩ : MethodName)) hown (mvT hZ (hw _ (List.mem_of_getElem? (i := 68) rfl))) (mvT hZ (hw _ (List.mem_of_getElem? (i := 69) rfl))) (notFace_of_selects (args := #[]) (mvT hZ (hw _ (List.mem_of_getElem? (i := 71) rfl)))) (mvT hZ (hw _ (List.mem_of_getElem? (i := 71) rfl))) (mvT hZ (hw _ (List.mem_of_getElem? (i := 70) rfl))) (by decide) (backOf (W := 0) (rmz l Z a0 hw [] csx vF a2 B us i h0 n0 Z0 St O0 hu (by omega) hS) hZ (hw _ (List.mem_of_getElem? (i := 72) rfl)) (hw _ (List.mem_of_getElem? (i := 2) rfl)) (by decide) (by decide)) q3a q3c (g := (mkF m 24 #[.val (.ref a1), .val (.ref a2), .val (.long (own_ha us i)), .second, .val (.long (own_hb us i)), .second, .val (.int (Int32.ofNat i)), s7] [(.int (Int32.ofNat i)), (.ref a2)])) rfl (by rw [hml]; rfl) (Steps.refl _) (argsL := [(.int (Int32.ofNat i))]) (rest := []) (lenOf pdE_1 rfl) rfl (by show 2 * 0 + _ ≤ _; exact Nat.le_of_eq rfl) (hb hby dE_24) (fun _ _ => ⟨rfl, e2, (by decide : 0 + 0 ≤ _), (by decide : 0 + 0 ≤ _)⟩)
      dsimp only [Pt.U, Pt.locs, Pt.cells, Pt.slots] at X3 l3 y3 z3 st3 hQ3
      subst l3 y3 z3
      obtain ⟨rfl, Nq3, e3⟩ := hQ3
      have N3 := Fr.app N2 Nq3
      obtain ⟨_, _, ⟨T4, L4, k4, n4⟩, -, X4, ⟨Lc4, hQ4, l4, y4, z4⟩, st4⟩ := Jvm.LawKit.callS X3 hx (y := (⟨"java/lang/Long", "rotateLeft", "(JI)J"⟩ : MethodName)) hown (mvT hZ (hw _ (List.mem_of_getElem? (i := 91) rfl))) (mvT hZ (hw _ (List.mem_of_getElem? (i := 92) rfl))) (mvT hZ (hw _ (List.mem_of_getElem? (i := 93) rfl))) (mvT hZ (hw _ (List.mem_of_getElem? (i := 94) rfl))) (by decide) (backOf (W := 0) (rmA l Z a0 hw [] (((own_hb us i) ^^^ ((own_ch (us.getD i 0)).toInt64)) * (-4417276706812531889 : Int64)) (31 : Int32) h0 n0 Z0) hZ (hw _ (List.mem_of_getElem? (i := 94) rfl)) (hw _ (List.mem_of_getElem? (i := 93) rfl)) (by decide) (by decide)) (g := (mkF m 51 #[.val (.ref a1), .val (.ref a2), .val (.long (((own_ha us i) ^^^ ((own_ch (us.getD i 0)).toInt64)) * (1099511628211 : Int64))), .second, .val (.long (own_hb us i)), .second, .val (.int (Int32.ofNat i)), .val (.int (own_ch (us.getD i 0)))] [(.int (31 : Int32)), (.long (((own_hb us i) ^^^ ((own_ch (us.getD i 0)).toInt64)) * (-4417276706812531889 : Int64)))])) rfl (by rw [hml]; rfl) (argsL := [(.long (((own_hb us i) ^^^ ((own_ch (us.getD i 0)).toInt64)) * (-4417276706812531889 : Int64))), (.int (31 : Int32))]) (rest := []) (lenOf pdE_2 rfl) rfl (by show 2 * 0 + _ ≤ _; exact Nat.le_of_eq rfl) (hb hby dE_51) (fun _ _ => ⟨rfl, e3, (by decide : 0 + 0 ≤ _), (by decide : 0 + 0 ≤ _)⟩)
      dsimp only [Pt.U, Pt.locs, Pt.cells, Pt.slots] at X4 l4 y4 z4 st4 hQ4
      subst l4 y4 z4
      obtain ⟨rfl, Nq4, e4⟩ := hQ4
      have N4 := Fr.app N3 Nq4
      obtain ⟨T', L', s7', h7', X', e', N', st'⟩ := ih (i + 1) T4 _ (.val (.int (own_ch (us.getD i 0)))) (One.val rfl) (by omega) X4 e4 N4
      refine ⟨T', L', s7', h7', X', e', N', fun target kt => ?_⟩
      show Steps p.tables e below (Ta.setTop (mkF m 12 #[.val (.ref a1), .val (.ref a2), .val (.long (own_ha us i)), .second, .val (.long (own_hb us i)), .second, .val (.int (Int32.ofNat i)), s7] [])) _
      refine XS.iload Xa.here hx rfl (hb hby dE_12) rfl ?_
      show Steps p.tables e below (Ta.setTop (mkF m 14 #[.val (.ref a1), .val (.ref a2), .val (.long (own_ha us i)), .second, .val (.long (own_hb us i)), .second, .val (.int (Int32.ofNat i)), s7] [(.int (Int32.ofNat i))])) _
      refine XS.aloadN Xa.here hx rfl (hb hby dE_14) rfl rfl ?_
      show Steps p.tables e below (Ta.setTop (mkF m 15 #[.val (.ref a1), .val (.ref a2), .val (.long (own_ha us i)), .second, .val (.long (own_hb us i)), .second, .val (.int (Int32.ofNat i)), s7] [(.ref a2), (.int (Int32.ofNat i))])) _
      refine st2.trans ?_
      show Steps p.tables e below (T2.setTop (mkF m 18 #[.val (.ref a1), .val (.ref a2), .val (.long (own_ha us i)), .second, .val (.long (own_hb us i)), .second, .val (.int (Int32.ofNat i)), s7] [(.int (Int32.ofNat us.length)), (.int (Int32.ofNat i))])) _
      refine XS.icmpNo X2.here hx rfl (hb hby dE_18) rfl (tlt ((own_lti us.length (by omega) i (by omega)) : (Int32.ofNat i) < (Int32.ofNat us.length))).2.1 ?_
      show Steps p.tables e below (T2.setTop (mkF m 21 #[.val (.ref a1), .val (.ref a2), .val (.long (own_ha us i)), .second, .val (.long (own_hb us i)), .second, .val (.int (Int32.ofNat i)), s7] [])) _
      refine XS.aloadN X2.here hx rfl (hb hby dE_21) rfl rfl ?_
      show Steps p.tables e below (T2.setTop (mkF m 22 #[.val (.ref a1), .val (.ref a2), .val (.long (own_ha us i)), .second, .val (.long (own_hb us i)), .second, .val (.int (Int32.ofNat i)), s7] [(.ref a2)])) _
      refine XS.iload X2.here hx rfl (hb hby dE_22) rfl ?_
      show Steps p.tables e below (T2.setTop (mkF m 24 #[.val (.ref a1), .val (.ref a2), .val (.long (own_ha us i)), .second, .val (.long (own_hb us i)), .second, .val (.int (Int32.ofNat i)), s7] [(.int (Int32.ofNat i)), (.ref a2)])) _
      refine st3.trans ?_
      show Steps p.tables e below (T3.setTop (mkF m 27 #[.val (.ref a1), .val (.ref a2), .val (.long (own_ha us i)), .second, .val (.long (own_hb us i)), .second, .val (.int (Int32.ofNat i)), s7] [(.int (own_ch (us.getD i 0)))])) _
      refine XS.istore X3.here hx rfl (hb hby dE_27) rfl (l' := #[.val (.ref a1), .val (.ref a2), .val (.long (own_ha us i)), .second, .val (.long (own_hb us i)), .second, .val (.int (Int32.ofNat i)), .val (.int (own_ch (us.getD i 0)))]) (own_store h7) ?_
      show Steps p.tables e below (T3.setTop (mkF m 29 #[.val (.ref a1), .val (.ref a2), .val (.long (own_ha us i)), .second, .val (.long (own_hb us i)), .second, .val (.int (Int32.ofNat i)), .val (.int (own_ch (us.getD i 0)))] [])) _
      refine XS.lloadN X3.here hx rfl (hb hby dE_29) rfl ?_
      show Steps p.tables e below (T3.setTop (mkF m 30 #[.val (.ref a1), .val (.ref a2), .val (.long (own_ha us i)), .second, .val (.long (own_hb us i)), .second, .val (.int (Int32.ofNat i)), .val (.int (own_ch (us.getD i 0)))] [(.long (own_ha us i))])) _
      refine XS.iload X3.here hx rfl (hb hby dE_30) rfl ?_
      show Steps p.tables e below (T3.setTop (mkF m 32 #[.val (.ref a1), .val (.ref a2), .val (.long (own_ha us i)), .second, .val (.long (own_hb us i)), .second, .val (.int (Int32.ofNat i)), .val (.int (own_ch (us.getD i 0)))] [(.int (own_ch (us.getD i 0))), (.long (own_ha us i))])) _
      refine XS.i2l X3.here hx rfl (hb hby dE_32) rfl ?_
      show Steps p.tables e below (T3.setTop (mkF m 33 #[.val (.ref a1), .val (.ref a2), .val (.long (own_ha us i)), .second, .val (.long (own_hb us i)), .second, .val (.int (Int32.ofNat i)), .val (.int (own_ch (us.getD i 0)))] [(.long ((own_ch (us.getD i 0)).toInt64)), (.long (own_ha us i))])) _
      refine XS.lxor X3.here hx rfl (hb hby dE_33) rfl ?_
      show Steps p.tables e below (T3.setTop (mkF m 34 #[.val (.ref a1), .val (.ref a2), .val (.long (own_ha us i)), .second, .val (.long (own_hb us i)), .second, .val (.int (Int32.ofNat i)), .val (.int (own_ch (us.getD i 0)))] [(.long ((own_ha us i) ^^^ ((own_ch (us.getD i 0)).toInt64)))])) _
      refine X3.ldc2Long hx hown (mvT hZ (hw _ (List.mem_of_getElem? (i := 89) rfl))) (g := (mkF m 34 #[.val (.ref a1), .val (.ref a2), .val (.long (own_ha us i)), .second, .val (.long (own_hb us i)), .second, .val (.int (Int32.ofNat i)), .val (.int (own_ch (us.getD i 0)))] [(.long ((own_ha us i) ^^^ ((own_ch (us.getD i 0)).toInt64)))])) rfl (hb hby dE_34) _ ?_
      show Steps p.tables e below (T3.setTop (mkF m 37 #[.val (.ref a1), .val (.ref a2), .val (.long (own_ha us i)), .second, .val (.long (own_hb us i)), .second, .val (.int (Int32.ofNat i)), .val (.int (own_ch (us.getD i 0)))] [(.long (1099511628211 : Int64)), (.long ((own_ha us i) ^^^ ((own_ch (us.getD i 0)).toInt64)))])) _
      refine XS.lmul X3.here hx rfl (hb hby dE_37) rfl ?_
      show Steps p.tables e below (T3.setTop (mkF m 38 #[.val (.ref a1), .val (.ref a2), .val (.long (own_ha us i)), .second, .val (.long (own_hb us i)), .second, .val (.int (Int32.ofNat i)), .val (.int (own_ch (us.getD i 0)))] [(.long (((own_ha us i) ^^^ ((own_ch (us.getD i 0)).toInt64)) * (1099511628211 : Int64)))])) _
      refine XS.lstoreN X3.here hx rfl (hb hby dE_38) rfl (l' := #[.val (.ref a1), .val (.ref a2), .val (.long (((own_ha us i) ^^^ ((own_ch (us.getD i 0)).toInt64)) * (1099511628211 : Int64))), .second, .val (.long (own_hb us i)), .second, .val (.int (Int32.ofNat i)), .val (.int (own_ch (us.getD i 0)))]) rfl ?_
      show Steps p.tables e below (T3.setTop (mkF m 39 #[.val (.ref a1), .val (.ref a2), .val (.long (((own_ha us i) ^^^ ((own_ch (us.getD i 0)).toInt64)) * (1099511628211 : Int64))), .second, .val (.long (own_hb us i)), .second, .val (.int (Int32.ofNat i)), .val (.int (own_ch (us.getD i 0)))] [])) _
      refine XS.lload X3.here hx rfl (hb hby dE_39) rfl ?_
      show Steps p.tables e below (T3.setTop (mkF m 41 #[.val (.ref a1), .val (.ref a2), .val (.long (((own_ha us i) ^^^ ((own_ch (us.getD i 0)).toInt64)) * (1099511628211 : Int64))), .second, .val (.long (own_hb us i)), .second, .val (.int (Int32.ofNat i)), .val (.int (own_ch (us.getD i 0)))] [(.long (own_hb us i))])) _
      refine XS.iload X3.here hx rfl (hb hby dE_41) rfl ?_
      show Steps p.tables e below (T3.setTop (mkF m 43 #[.val (.ref a1), .val (.ref a2), .val (.long (((own_ha us i) ^^^ ((own_ch (us.getD i 0)).toInt64)) * (1099511628211 : Int64))), .second, .val (.long (own_hb us i)), .second, .val (.int (Int32.ofNat i)), .val (.int (own_ch (us.getD i 0)))] [(.int (own_ch (us.getD i 0))), (.long (own_hb us i))])) _
      refine XS.i2l X3.here hx rfl (hb hby dE_43) rfl ?_
      show Steps p.tables e below (T3.setTop (mkF m 44 #[.val (.ref a1), .val (.ref a2), .val (.long (((own_ha us i) ^^^ ((own_ch (us.getD i 0)).toInt64)) * (1099511628211 : Int64))), .second, .val (.long (own_hb us i)), .second, .val (.int (Int32.ofNat i)), .val (.int (own_ch (us.getD i 0)))] [(.long ((own_ch (us.getD i 0)).toInt64)), (.long (own_hb us i))])) _
      refine XS.lxor X3.here hx rfl (hb hby dE_44) rfl ?_
      show Steps p.tables e below (T3.setTop (mkF m 45 #[.val (.ref a1), .val (.ref a2), .val (.long (((own_ha us i) ^^^ ((own_ch (us.getD i 0)).toInt64)) * (1099511628211 : Int64))), .second, .val (.long (own_hb us i)), .second, .val (.int (Int32.ofNat i)), .val (.int (own_ch (us.getD i 0)))] [(.long ((own_hb us i) ^^^ ((own_ch (us.getD i 0)).toInt64)))])) _
      refine X3.ldc2Long hx hown (mvT hZ (hw _ (List.mem_of_getElem? (i := 90) rfl))) (g := (mkF m 45 #[.val (.ref a1), .val (.ref a2), .val (.long (((own_ha us i) ^^^ ((own_ch (us.getD i 0)).toInt64)) * (1099511628211 : Int64))), .second, .val (.long (own_hb us i)), .second, .val (.int (Int32.ofNat i)), .val (.int (own_ch (us.getD i 0)))] [(.long ((own_hb us i) ^^^ ((own_ch (us.getD i 0)).toInt64)))])) rfl (hb hby dE_45) _ ?_
      show Steps p.tables e below (T3.setTop (mkF m 48 #[.val (.ref a1), .val (.ref a2), .val (.long (((own_ha us i) ^^^ ((own_ch (us.getD i 0)).toInt64)) * (1099511628211 : Int64))), .second, .val (.long (own_hb us i)), .second, .val (.int (Int32.ofNat i)), .val (.int (own_ch (us.getD i 0)))] [(.long (-4417276706812531889 : Int64)), (.long ((own_hb us i) ^^^ ((own_ch (us.getD i 0)).toInt64)))])) _
      refine XS.lmul X3.here hx rfl (hb hby dE_48) rfl ?_
      show Steps p.tables e below (T3.setTop (mkF m 49 #[.val (.ref a1), .val (.ref a2), .val (.long (((own_ha us i) ^^^ ((own_ch (us.getD i 0)).toInt64)) * (1099511628211 : Int64))), .second, .val (.long (own_hb us i)), .second, .val (.int (Int32.ofNat i)), .val (.int (own_ch (us.getD i 0)))] [(.long (((own_hb us i) ^^^ ((own_ch (us.getD i 0)).toInt64)) * (-4417276706812531889 : Int64)))])) _
      refine XS.bipush X3.here hx rfl (hb hby dE_49) ?_
      show Steps p.tables e below (T3.setTop (mkF m 51 #[.val (.ref a1), .val (.ref a2), .val (.long (((own_ha us i) ^^^ ((own_ch (us.getD i 0)).toInt64)) * (1099511628211 : Int64))), .second, .val (.long (own_hb us i)), .second, .val (.int (Int32.ofNat i)), .val (.int (own_ch (us.getD i 0)))] [(.int (31 : Int32)), (.long (((own_hb us i) ^^^ ((own_ch (us.getD i 0)).toInt64)) * (-4417276706812531889 : Int64)))])) _
      refine st4 _ ?_
      show Steps p.tables e below (T4.setTop (mkF m 54 #[.val (.ref a1), .val (.ref a2), .val (.long (((own_ha us i) ^^^ ((own_ch (us.getD i 0)).toInt64)) * (1099511628211 : Int64))), .second, .val (.long (own_hb us i)), .second, .val (.int (Int32.ofNat i)), .val (.int (own_ch (us.getD i 0)))] [(.long (own_rot (((own_hb us i) ^^^ ((own_ch (us.getD i 0)).toInt64)) * (-4417276706812531889 : Int64)) (31 : Int32)))])) _
      refine XS.lstore X4.here hx rfl (hb hby dE_54) rfl (l' := #[.val (.ref a1), .val (.ref a2), .val (.long (((own_ha us i) ^^^ ((own_ch (us.getD i 0)).toInt64)) * (1099511628211 : Int64))), .second, .val (.long (own_rot (((own_hb us i) ^^^ ((own_ch (us.getD i 0)).toInt64)) * (-4417276706812531889 : Int64)) (31 : Int32))), .second, .val (.int (Int32.ofNat i)), .val (.int (own_ch (us.getD i 0)))]) rfl ?_
      show Steps p.tables e below (T4.setTop (mkF m 56 #[.val (.ref a1), .val (.ref a2), .val (.long (((own_ha us i) ^^^ ((own_ch (us.getD i 0)).toInt64)) * (1099511628211 : Int64))), .second, .val (.long (own_rot (((own_hb us i) ^^^ ((own_ch (us.getD i 0)).toInt64)) * (-4417276706812531889 : Int64)) (31 : Int32))), .second, .val (.int (Int32.ofNat i)), .val (.int (own_ch (us.getD i 0)))] [])) _
      refine XS.iinc X4.here hx rfl (hb hby dE_56) rfl (l' := #[.val (.ref a1), .val (.ref a2), .val (.long (((own_ha us i) ^^^ ((own_ch (us.getD i 0)).toInt64)) * (1099511628211 : Int64))), .second, .val (.long (own_rot (((own_hb us i) ^^^ ((own_ch (us.getD i 0)).toInt64)) * (-4417276706812531889 : Int64)) (31 : Int32))), .second, .val (.int ((Int32.ofNat i) + (1 : Int32))), .val (.int (own_ch (us.getD i 0)))]) rfl ?_
      show Steps p.tables e below (T4.setTop (mkF m 59 #[.val (.ref a1), .val (.ref a2), .val (.long (((own_ha us i) ^^^ ((own_ch (us.getD i 0)).toInt64)) * (1099511628211 : Int64))), .second, .val (.long (own_rot (((own_hb us i) ^^^ ((own_ch (us.getD i 0)).toInt64)) * (-4417276706812531889 : Int64)) (31 : Int32))), .second, .val (.int ((Int32.ofNat i) + (1 : Int32))), .val (.int (own_ch (us.getD i 0)))] [])) _
      refine XS.goto X4.here hx rfl (pc0 := 59) (pc' := 12) rfl (hb hby dE_59) (by decide) (by decide) ?_
      rw [own_one]
      exact st' target kt
  obtain ⟨TL, LL, s7, h7, XL, eL, NL, stL⟩ := loop us.length 0 s₁ [] .unset One.u (by omega) X0 e0 N0
  obtain ⟨T5, X5, e5, st5⟩ := getF XL hx hZ hown (host := "") (Or.inl (hw _ (List.mem_of_getElem? (i := 95) rfl))) Via.refl eL D1.2.1 (g := (mkF m 64 #[.val (.ref a1), .val (.ref a2), .val (.long (own_ha us us.length)), .second, .val (.long (own_hb us us.length)), .second, .val (.int (Int32.ofNat us.length)), s7] [(.ref a1), (.ref a1)])) rfl rfl (hb hby dE_64)
  obtain ⟨T6, h6, X6, e6, W6, st6⟩ := putF X5 hx hZ hown (host := "") (Or.inl (hw _ (List.mem_of_getElem? (i := 95) rfl))) Via.refl e5 D1.2.1 D1.1 (Or.inl (hw _ (List.mem_of_getElem? (i := 96) rfl))) (hw _ (List.mem_of_getElem? (i := 45) rfl)) (ty := .long) (by decide) rfl rfl (g := (mkF m 69 #[.val (.ref a1), .val (.ref a2), .val (.long (own_ha us us.length)), .second, .val (.long (own_hb us us.length)), .second, .val (.int (Int32.ofNat us.length)), s7] [(.long (n + (1 : Int64))), (.ref a1)])) rfl rfl (hb hby dE_69)
  have Flines_W6 := D1.2.1.same W6
  have hS_W6 := hS.wr W6 gB_a1
  have ExS_W6 := ExS.wr W6
  have Ffirst_W6 := D1.2.2.1.other W6 (Or.inr (slot_ne (Or.inl (hw _ (List.mem_of_getElem? (i := 98) rfl))) (Or.inl (hw _ (List.mem_of_getElem? (i := 96) rfl))) (by decide) (t := .long) (t' := .long) (by decide) (by decide)))
  have Fsecond_W6 := D1.2.2.2.other W6 (Or.inr (slot_ne (Or.inl (hw _ (List.mem_of_getElem? (i := 105) rfl))) (Or.inl (hw _ (List.mem_of_getElem? (i := 96) rfl))) (by decide) (t := .long) (t' := .long) (by decide) (by decide)))
  have ExD_W6 := D1.1.wr W6
  have O6 := O0.wr W6 gn_a1
  have N6 := Fr.snoc X6 NL gn_a1
  have Zs6 : n0 ≤ h6.size := Nat.le_trans Z0 (Keep.of_wr W6).1
  have Kp6 := (Keep.refl h0 [a1]).wr W6 (Or.inl (List.mem_of_getElem? (i := 0) rfl))
  obtain ⟨T7, X7, e7, st7⟩ := getF X6 hx hZ hown (host := "") (Or.inl (hw _ (List.mem_of_getElem? (i := 97) rfl))) Via.refl e6 Ffirst_W6 (g := (mkF m 74 #[.val (.ref a1), .val (.ref a2), .val (.long (own_ha us us.length)), .second, .val (.long (own_hb us us.length)), .second, .val (.int (Int32.ofNat us.length)), s7] [(.ref a1), (.ref a1)])) rfl rfl (hb hby dE_74)
  obtain ⟨cq8, kq8, q8a, q8b, q8c⟩ := isOf hZ e7 ExS_W6
  obtain ⟨_, _, ⟨T8, L8, k8, n8⟩, -, X8, ⟨Lc8, hQ8, l8, y8, z8⟩, st8⟩ := X7.virtualBack hx (y := (⟨"java/lang/String", "length", "()I"⟩ : MethodName)) (z := (⟨"java/lang/String", "length", "()I"⟩ : MethodName)) hown (mvT hZ (hw _ (List.mem_of_getElem? (i := 58) rfl))) (mvT hZ (hw _ (List.mem_of_getElem? (i := 59) rfl))) (notFace_of_selects (args := #[]) (mvT hZ (hw _ (List.mem_of_getElem? (i := 61) rfl)))) (mvT hZ (hw _ (List.mem_of_getElem? (i := 61) rfl))) (mvT hZ (hw _ (List.mem_of_getElem? (i := 60) rfl))) (by decide) (backOf (W := 5) (rms l Z a0 hw [] csx vF a2 B us h6 n0 Zs6 St O6 (by omega) hS_W6) hZ (hw _ (List.mem_of_getElem? (i := 62) rfl)) (hw _ (List.mem_of_getElem? (i := 2) rfl)) (by decide) (by decide)) q8a q8c (g := (mkF m 79 #[.val (.ref a1), .val (.ref a2), .val (.long (own_ha us us.length)), .second, .val (.long (own_hb us us.length)), .second, .val (.int (Int32.ofNat us.length)), s7] [(.ref a2), (.long (own_ha us us.length)), (.long f), (.ref a1)])) rfl (by rw [hml]; rfl) (Steps.refl _) (argsL := []) (rest := [(.long (own_ha us us.length)), (.long f), (.ref a1)]) (lenOf pdE_0 rfl) rfl (by show 2 * 0 + _ ≤ _; exact Nat.le_of_eq rfl) (hb hby dE_79) (fun _ _ => ⟨rfl, e7, (by decide : 0 + 0 ≤ _), (by decide : 0 + 0 ≤ _)⟩)
  dsimp only [Pt.U, Pt.locs, Pt.cells, Pt.slots] at X8 l8 y8 z8 st8 hQ8
  subst l8 y8 z8
  obtain ⟨rfl, Nq8, e8⟩ := hQ8
  have N8 := Fr.app N6 Nq8
  obtain ⟨_, _, ⟨T9, L9, k9, n9⟩, -, X9, ⟨Lc9, hQ9, l9, y9, z9⟩, st9⟩ := Jvm.LawKit.callS X8 hx (y := (⟨"com/example/keelson/keelson/bench/LineDigest", "spread", "(JJJ)J"⟩ : MethodName)) hown (mvT hZ (hw _ (List.mem_of_getElem? (i := 101) rfl))) (mvT hZ (hw _ (List.mem_of_getElem? (i := 102) rfl))) (mvT hZ (hw _ (List.mem_of_getElem? (i := 46) rfl))) (mvT hZ (hw _ (List.mem_of_getElem? (i := 103) rfl))) (by decide) (backOf (W := 3) (rmB l Z a0 hw [] ((own_ha us us.length) ^^^ ((Int32.ofNat us.length).toInt64)) (-49064778989728563 : Int64) (-4265267296055464877 : Int64) h6 n0 Zs6) hZ (hw _ (List.mem_of_getElem? (i := 103) rfl)) (hw _ (List.mem_of_getElem? (i := 46) rfl)) (by decide) (by decide)) (g := (mkF m 90 #[.val (.ref a1), .val (.ref a2), .val (.long (own_ha us us.length)), .second, .val (.long (own_hb us us.length)), .second, .val (.int (Int32.ofNat us.length)), s7] [(.long (-4265267296055464877 : Int64)), (.long (-49064778989728563 : Int64)), (.long ((own_ha us us.length) ^^^ ((Int32.ofNat us.length).toInt64))), (.long f), (.ref a1)])) rfl (by rw [hml]; rfl) (argsL := [(.long ((own_ha us us.length) ^^^ ((Int32.ofNat us.length).toInt64))), (.long (-49064778989728563 : Int64)), (.long (-4265267296055464877 : Int64))]) (rest := [(.long f), (.ref a1)]) (lenOf pdE_3 rfl) rfl (by show 2 * 0 + _ ≤ _; exact Nat.le_of_eq rfl) (hb hby dE_90) (fun _ _ => ⟨rfl, e8, (by decide : 0 + 0 ≤ _), (by decide : 0 + 0 ≤ _)⟩)
  dsimp only [Pt.U, Pt.locs, Pt.cells, Pt.slots] at X9 l9 y9 z9 st9 hQ9
  subst l9 y9 z9
  obtain ⟨rfl, Nq9, e9⟩ := hQ9
  have N9 := Fr.app N8 Nq9
  obtain ⟨T10, h10, X10, e10, W10, st10⟩ := putF X9 hx hZ hown (host := "") (Or.inl (hw _ (List.mem_of_getElem? (i := 97) rfl))) Via.refl e9 Ffirst_W6 ExD_W6 (Or.inl (hw _ (List.mem_of_getElem? (i := 98) rfl))) (hw _ (List.mem_of_getElem? (i := 45) rfl)) (ty := .long) (by decide) rfl rfl (g := (mkF m 94 #[.val (.ref a1), .val (.ref a2), .val (.long (own_ha us us.length)), .second, .val (.long (own_hb us us.length)), .second, .val (.int (Int32.ofNat us.length)), s7] [(.long (f + (own_spread ((own_ha us us.length) ^^^ ((Int32.ofNat us.length).toInt64)) (-49064778989728563 : Int64) (-4265267296055464877 : Int64)))), (.ref a1)])) rfl rfl (hb hby dE_94)
  have Ffirst_W10 := Ffirst_W6.same W10
  have hS_W10 := hS_W6.wr W10 gB_a1
  have ExS_W10 := ExS_W6.wr W10
  have Flines_W10 := Flines_W6.other W10 (Or.inr (slot_ne (Or.inl (hw _ (List.mem_of_getElem? (i := 96) rfl))) (Or.inl (hw _ (List.mem_of_getElem? (i := 98) rfl))) (by decide) (t := .long) (t' := .long) (by decide) (by decide)))
  have Fsecond_W10 := Fsecond_W6.other W10 (Or.inr (slot_ne (Or.inl (hw _ (List.mem_of_getElem? (i := 105) rfl))) (Or.inl (hw _ (List.mem_of_getElem? (i := 98) rfl))) (by decide) (t := .long) (t' := .long) (by decide) (by decide)))
  have ExD_W10 := ExD_W6.wr W10
  have O10 := O6.wr W10 gn_a1
  have N10 := Fr.snoc X10 N9 gn_a1
  have Zs10 : n0 ≤ h10.size := Nat.le_trans Zs6 (Keep.of_wr W10).1
  have Kp10 := Kp6.wr W10 (Or.inl (List.mem_of_getElem? (i := 0) rfl))
  obtain ⟨T11, X11, e11, st11⟩ := getF X10 hx hZ hown (host := "") (Or.inl (hw _ (List.mem_of_getElem? (i := 104) rfl))) Via.refl e10 Fsecond_W10 (g := (mkF m 99 #[.val (.ref a1), .val (.ref a2), .val (.long (own_ha us us.length)), .second, .val (.long (own_hb us us.length)), .second, .val (.int (Int32.ofNat us.length)), s7] [(.ref a1), (.ref a1)])) rfl rfl (hb hby dE_99)
  obtain ⟨cq12, kq12, q12a, q12b, q12c⟩ := isOf hZ e11 ExS_W10
  obtain ⟨_, _, ⟨T12, L12, k12, n12⟩, -, X12, ⟨Lc12, hQ12, l12, y12, z12⟩, st12⟩ := X11.virtualBack hx (y := (⟨"java/lang/String", "length", "()I"⟩ : MethodName)) (z := (⟨"java/lang/String", "length", "()I"⟩ : MethodName)) hown (mvT hZ (hw _ (List.mem_of_getElem? (i := 58) rfl))) (mvT hZ (hw _ (List.mem_of_getElem? (i := 59) rfl))) (notFace_of_selects (args := #[]) (mvT hZ (hw _ (List.mem_of_getElem? (i := 61) rfl)))) (mvT hZ (hw _ (List.mem_of_getElem? (i := 61) rfl))) (mvT hZ (hw _ (List.mem_of_getElem? (i := 60) rfl))) (by decide) (backOf (W := 5) (rms l Z a0 hw [] csx vF a2 B us h10 n0 Zs10 St O10 (by omega) hS_W10) hZ (hw _ (List.mem_of_getElem? (i := 62) rfl)) (hw _ (List.mem_of_getElem? (i := 2) rfl)) (by decide) (by decide)) q12a q12c (g := (mkF m 105 #[.val (.ref a1), .val (.ref a2), .val (.long (own_ha us us.length)), .second, .val (.long (own_hb us us.length)), .second, .val (.int (Int32.ofNat us.length)), s7] [(.ref a2), (.long (own_hb us us.length)), (.long s'), (.ref a1)])) rfl (by rw [hml]; rfl) (Steps.refl _) (argsL := []) (rest := [(.long (own_hb us us.length)), (.long s'), (.ref a1)]) (lenOf pdE_0 rfl) rfl (by show 2 * 0 + _ ≤ _; exact Nat.le_of_eq rfl) (hb hby dE_105) (fun _ _ => ⟨rfl, e11, (by decide : 0 + 0 ≤ _), (by decide : 0 + 0 ≤ _)⟩)
  dsimp only [Pt.U, Pt.locs, Pt.cells, Pt.slots] at X12 l12 y12 z12 st12 hQ12
  subst l12 y12 z12
  obtain ⟨rfl, Nq12, e12⟩ := hQ12
  have N12 := Fr.app N10 Nq12
  obtain ⟨_, _, ⟨T13, L13, k13, n13⟩, -, X13, ⟨Lc13, hQ13, l13, y13, z13⟩, st13⟩ := Jvm.LawKit.callS X12 hx (y := (⟨"com/example/keelson/keelson/bench/LineDigest", "spread", "(JJJ)J"⟩ : MethodName)) hown (mvT hZ (hw _ (List.mem_of_getElem? (i := 101) rfl))) (mvT hZ (hw _ (List.mem_of_getElem? (i := 102) rfl))) (mvT hZ (hw _ (List.mem_of_getElem? (i := 46) rfl))) (mvT hZ (hw _ (List.mem_of_getElem? (i := 103) rfl))) (by decide) (backOf (W := 3) (rmB l Z a0 hw [] ((own_hb us us.length) ^^^ ((Int32.ofNat us.length).toInt64)) (-4658895280553007687 : Int64) (-7723592293110705685 : Int64) h10 n0 Zs10) hZ (hw _ (List.mem_of_getElem? (i := 103) rfl)) (hw _ (List.mem_of_getElem? (i := 46) rfl)) (by decide) (by decide)) (g := (mkF m 116 #[.val (.ref a1), .val (.ref a2), .val (.long (own_ha us us.length)), .second, .val (.long (own_hb us us.length)), .second, .val (.int (Int32.ofNat us.length)), s7] [(.long (-7723592293110705685 : Int64)), (.long (-4658895280553007687 : Int64)), (.long ((own_hb us us.length) ^^^ ((Int32.ofNat us.length).toInt64))), (.long s'), (.ref a1)])) rfl (by rw [hml]; rfl) (argsL := [(.long ((own_hb us us.length) ^^^ ((Int32.ofNat us.length).toInt64))), (.long (-4658895280553007687 : Int64)), (.long (-7723592293110705685 : Int64))]) (rest := [(.long s'), (.ref a1)]) (lenOf pdE_3 rfl) rfl (by show 2 * 0 + _ ≤ _; exact Nat.le_of_eq rfl) (hb hby dE_116) (fun _ _ => ⟨rfl, e12, (by decide : 0 + 0 ≤ _), (by decide : 0 + 0 ≤ _)⟩)
  dsimp only [Pt.U, Pt.locs, Pt.cells, Pt.slots] at X13 l13 y13 z13 st13 hQ13
  subst l13 y13 z13
  obtain ⟨rfl, Nq13, e13⟩ := hQ13
  have N13 := Fr.app N12 Nq13
  obtain ⟨T14, h14, X14, e14, W14, st14⟩ := putF X13 hx hZ hown (host := "") (Or.inl (hw _ (List.mem_of_getElem? (i := 104) rfl))) Via.refl e13 Fsecond_W10 ExD_W10 (Or.inl (hw _ (List.mem_of_getElem? (i := 105) rfl))) (hw _ (List.mem_of_getElem? (i := 45) rfl)) (ty := .long) (by decide) rfl rfl (g := (mkF m 120 #[.val (.ref a1), .val (.ref a2), .val (.long (own_ha us us.length)), .second, .val (.long (own_hb us us.length)), .second, .val (.int (Int32.ofNat us.length)), s7] [(.long (s' + (own_spread ((own_hb us us.length) ^^^ ((Int32.ofNat us.length).toInt64)) (-4658895280553007687 : Int64) (-7723592293110705685 : Int64)))), (.ref a1)])) rfl rfl (hb hby dE_120)
  have Fsecond_W14 := Fsecond_W10.same W14
  have hS_W14 := hS_W10.wr W14 gB_a1
  have ExS_W14 := ExS_W10.wr W14
  have Flines_W14 := Flines_W10.other W14 (Or.inr (slot_ne (Or.inl (hw _ (List.mem_of_getElem? (i := 96) rfl))) (Or.inl (hw _ (List.mem_of_getElem? (i := 105) rfl))) (by decide) (t := .long) (t' := .long) (by decide) (by decide)))
  have Ffirst_W14 := Ffirst_W10.other W14 (Or.inr (slot_ne (Or.inl (hw _ (List.mem_of_getElem? (i := 98) rfl))) (Or.inl (hw _ (List.mem_of_getElem? (i := 105) rfl))) (by decide) (t := .long) (t' := .long) (by decide) (by decide)))
  have ExD_W14 := ExD_W10.wr W14
  have O14 := O10.wr W14 gn_a1
  have N14 := Fr.snoc X14 N13 gn_a1
  have Zs14 : n0 ≤ h14.size := Nat.le_trans Zs10 (Keep.of_wr W14).1
  have Kp14 := Kp10.wr W14 (Or.inl (List.mem_of_getElem? (i := 0) rfl))
  obtain ⟨fs, hr, hrun, hended, hW, hsame⟩ := X14.leave (v := none) (fun _ => rfl)
  refine ⟨_, _, pre0 _ ?_, hrun, hended, _, _, rfl, ?_, ⟨_, rfl⟩, hW, hsame.mono (by decide) (by decide)⟩
  · show Steps p.tables e below (s₁.setTop (mkF m 0 #[.val (.ref a1), .val (.ref a2), .unset, .unset, .unset, .unset, .unset, .unset] [])) _
    refine X0.ldc2Long hx hown (mvT hZ (hw _ (List.mem_of_getElem? (i := 56) rfl))) (g := (mkF m 0 #[.val (.ref a1), .val (.ref a2), .unset, .unset, .unset, .unset, .unset, .unset] [])) rfl (hb hby dE_0) _ ?_
    show Steps p.tables e below (s₁.setTop (mkF m 3 #[.val (.ref a1), .val (.ref a2), .unset, .unset, .unset, .unset, .unset, .unset] [(.long (-3750763034362895579 : Int64))])) _
    refine XS.lstoreN X0.here hx rfl (hb hby dE_3) rfl (l' := #[.val (.ref a1), .val (.ref a2), .val (.long (-3750763034362895579 : Int64)), .second, .unset, .unset, .unset, .unset]) rfl ?_
    show Steps p.tables e below (s₁.setTop (mkF m 4 #[.val (.ref a1), .val (.ref a2), .val (.long (-3750763034362895579 : Int64)), .second, .unset, .unset, .unset, .unset] [])) _
    refine X0.ldc2Long hx hown (mvT hZ (hw _ (List.mem_of_getElem? (i := 57) rfl))) (g := (mkF m 4 #[.val (.ref a1), .val (.ref a2), .val (.long (-3750763034362895579 : Int64)), .second, .unset, .unset, .unset, .unset] [])) rfl (hb hby dE_4) _ ?_
    show Steps p.tables e below (s₁.setTop (mkF m 7 #[.val (.ref a1), .val (.ref a2), .val (.long (-3750763034362895579 : Int64)), .second, .unset, .unset, .unset, .unset] [(.long (-7046029254386353131 : Int64))])) _
    refine XS.lstore X0.here hx rfl (hb hby dE_7) rfl (l' := #[.val (.ref a1), .val (.ref a2), .val (.long (-3750763034362895579 : Int64)), .second, .val (.long (-7046029254386353131 : Int64)), .second, .unset, .unset]) rfl ?_
    show Steps p.tables e below (s₁.setTop (mkF m 9 #[.val (.ref a1), .val (.ref a2), .val (.long (-3750763034362895579 : Int64)), .second, .val (.long (-7046029254386353131 : Int64)), .second, .unset, .unset] [])) _
    refine XS.iconst X0.here hx rfl (hb hby dE_9) ?_
    show Steps p.tables e below (s₁.setTop (mkF m 10 #[.val (.ref a1), .val (.ref a2), .val (.long (-3750763034362895579 : Int64)), .second, .val (.long (-7046029254386353131 : Int64)), .second, .unset, .unset] [(.int (0 : Int32))])) _
    refine XS.istore X0.here hx rfl (hb hby dE_10) rfl (l' := #[.val (.ref a1), .val (.ref a2), .val (.long (-3750763034362895579 : Int64)), .second, .val (.long (-7046029254386353131 : Int64)), .second, .val (.int (0 : Int32)), .unset]) rfl ?_
    refine stL _ ?_
    show Steps p.tables e below (TL.setTop (mkF m 62 #[.val (.ref a1), .val (.ref a2), .val (.long (own_ha us us.length)), .second, .val (.long (own_hb us us.length)), .second, .val (.int (Int32.ofNat us.length)), s7] [])) _
    refine XS.aloadN XL.here hx rfl (hb hby dE_62) rfl rfl ?_
    show Steps p.tables e below (TL.setTop (mkF m 63 #[.val (.ref a1), .val (.ref a2), .val (.long (own_ha us us.length)), .second, .val (.long (own_hb us us.length)), .second, .val (.int (Int32.ofNat us.length)), s7] [(.ref a1)])) _
    refine XS.dup XL.here hx rfl (hb hby dE_63) rfl rfl ?_
    show Steps p.tables e below (TL.setTop (mkF m 64 #[.val (.ref a1), .val (.ref a2), .val (.long (own_ha us us.length)), .second, .val (.long (own_hb us us.length)), .second, .val (.int (Int32.ofNat us.length)), s7] [(.ref a1), (.ref a1)])) _
    refine st5 _ ?_
    show Steps p.tables e below (T5.setTop (mkF m 67 #[.val (.ref a1), .val (.ref a2), .val (.long (own_ha us us.length)), .second, .val (.long (own_hb us us.length)), .second, .val (.int (Int32.ofNat us.length)), s7] [(.long n), (.ref a1)])) _
    refine XS.lconst X5.here hx rfl (hb hby dE_67) ?_
    show Steps p.tables e below (T5.setTop (mkF m 68 #[.val (.ref a1), .val (.ref a2), .val (.long (own_ha us us.length)), .second, .val (.long (own_hb us us.length)), .second, .val (.int (Int32.ofNat us.length)), s7] [(.long (1 : Int64)), (.long n), (.ref a1)])) _
    refine XS.ladd X5.here hx rfl (hb hby dE_68) rfl ?_
    show Steps p.tables e below (T5.setTop (mkF m 69 #[.val (.ref a1), .val (.ref a2), .val (.long (own_ha us us.length)), .second, .val (.long (own_hb us us.length)), .second, .val (.int (Int32.ofNat us.length)), s7] [(.long (n + (1 : Int64))), (.ref a1)])) _
    refine st6 _ ?_
    show Steps p.tables e below (T6.setTop (mkF m 72 #[.val (.ref a1), .val (.ref a2), .val (.long (own_ha us us.length)), .second, .val (.long (own_hb us us.length)), .second, .val (.int (Int32.ofNat us.length)), s7] [])) _
    refine XS.aloadN X6.here hx rfl (hb hby dE_72) rfl rfl ?_
    show Steps p.tables e below (T6.setTop (mkF m 73 #[.val (.ref a1), .val (.ref a2), .val (.long (own_ha us us.length)), .second, .val (.long (own_hb us us.length)), .second, .val (.int (Int32.ofNat us.length)), s7] [(.ref a1)])) _
    refine XS.dup X6.here hx rfl (hb hby dE_73) rfl rfl ?_
    show Steps p.tables e below (T6.setTop (mkF m 74 #[.val (.ref a1), .val (.ref a2), .val (.long (own_ha us us.length)), .second, .val (.long (own_hb us us.length)), .second, .val (.int (Int32.ofNat us.length)), s7] [(.ref a1), (.ref a1)])) _
    refine st7 _ ?_
    show Steps p.tables e below (T7.setTop (mkF m 77 #[.val (.ref a1), .val (.ref a2), .val (.long (own_ha us us.length)), .second, .val (.long (own_hb us us.length)), .second, .val (.int (Int32.ofNat us.length)), s7] [(.long f), (.ref a1)])) _
    refine XS.lloadN X7.here hx rfl (hb hby dE_77) rfl ?_
    show Steps p.tables e below (T7.setTop (mkF m 78 #[.val (.ref a1), .val (.ref a2), .val (.long (own_ha us us.length)), .second, .val (.long (own_hb us us.length)), .second, .val (.int (Int32.ofNat us.length)), s7] [(.long (own_ha us us.length)), (.long f), (.ref a1)])) _
    refine XS.aloadN X7.here hx rfl (hb hby dE_78) rfl rfl ?_
    show Steps p.tables e below (T7.setTop (mkF m 79 #[.val (.ref a1), .val (.ref a2), .val (.long (own_ha us us.length)), .second, .val (.long (own_hb us us.length)), .second, .val (.int (Int32.ofNat us.length)), s7] [(.ref a2), (.long (own_ha us us.length)), (.long f), (.ref a1)])) _
    refine st8.trans ?_
    show Steps p.tables e below (T8.setTop (mkF m 82 #[.val (.ref a1), .val (.ref a2), .val (.long (own_ha us us.length)), .second, .val (.long (own_hb us us.length)), .second, .val (.int (Int32.ofNat us.length)), s7] [(.int (Int32.ofNat us.length)), (.long (own_ha us us.length)), (.long f), (.ref a1)])) _
    refine XS.i2l X8.here hx rfl (hb hby dE_82) rfl ?_
    show Steps p.tables e below (T8.setTop (mkF m 83 #[.val (.ref a1), .val (.ref a2), .val (.long (own_ha us us.length)), .second, .val (.long (own_hb us us.length)), .second, .val (.int (Int32.ofNat us.length)), s7] [(.long ((Int32.ofNat us.length).toInt64)), (.long (own_ha us us.length)), (.long f), (.ref a1)])) _
    refine XS.lxor X8.here hx rfl (hb hby dE_83) rfl ?_
    show Steps p.tables e below (T8.setTop (mkF m 84 #[.val (.ref a1), .val (.ref a2), .val (.long (own_ha us us.length)), .second, .val (.long (own_hb us us.length)), .second, .val (.int (Int32.ofNat us.length)), s7] [(.long ((own_ha us us.length) ^^^ ((Int32.ofNat us.length).toInt64))), (.long f), (.ref a1)])) _
    refine X8.ldc2Long hx hown (mvT hZ (hw _ (List.mem_of_getElem? (i := 99) rfl))) (g := (mkF m 84 #[.val (.ref a1), .val (.ref a2), .val (.long (own_ha us us.length)), .second, .val (.long (own_hb us us.length)), .second, .val (.int (Int32.ofNat us.length)), s7] [(.long ((own_ha us us.length) ^^^ ((Int32.ofNat us.length).toInt64))), (.long f), (.ref a1)])) rfl (hb hby dE_84) _ ?_
    show Steps p.tables e below (T8.setTop (mkF m 87 #[.val (.ref a1), .val (.ref a2), .val (.long (own_ha us us.length)), .second, .val (.long (own_hb us us.length)), .second, .val (.int (Int32.ofNat us.length)), s7] [(.long (-49064778989728563 : Int64)), (.long ((own_ha us us.length) ^^^ ((Int32.ofNat us.length).toInt64))), (.long f), (.ref a1)])) _
    refine X8.ldc2Long hx hown (mvT hZ (hw _ (List.mem_of_getElem? (i := 100) rfl))) (g := (mkF m 87 #[.val (.ref a1), .val (.ref a2), .val (.long (own_ha us us.length)), .second, .val (.long (own_hb us us.length)), .second, .val (.int (Int32.ofNat us.length)), s7] [(.long (-49064778989728563 : Int64)), (.long ((own_ha us us.length) ^^^ ((Int32.ofNat us.length).toInt64))), (.long f), (.ref a1)])) rfl (hb hby dE_87) _ ?_
    show Steps p.tables e below (T8.setTop (mkF m 90 #[.val (.ref a1), .val (.ref a2), .val (.long (own_ha us us.length)), .second, .val (.long (own_hb us us.length)), .second, .val (.int (Int32.ofNat us.length)), s7] [(.long (-4265267296055464877 : Int64)), (.long (-49064778989728563 : Int64)), (.long ((own_ha us us.length) ^^^ ((Int32.ofNat us.length).toInt64))), (.long f), (.ref a1)])) _
    refine st9 _ ?_
    show Steps p.tables e below (T9.setTop (mkF m 93 #[.val (.ref a1), .val (.ref a2), .val (.long (own_ha us us.length)), .second, .val (.long (own_hb us us.length)), .second, .val (.int (Int32.ofNat us.length)), s7] [(.long (own_spread ((own_ha us us.length) ^^^ ((Int32.ofNat us.length).toInt64)) (-49064778989728563 : Int64) (-4265267296055464877 : Int64))), (.long f), (.ref a1)])) _
    refine XS.ladd X9.here hx rfl (hb hby dE_93) rfl ?_
    show Steps p.tables e below (T9.setTop (mkF m 94 #[.val (.ref a1), .val (.ref a2), .val (.long (own_ha us us.length)), .second, .val (.long (own_hb us us.length)), .second, .val (.int (Int32.ofNat us.length)), s7] [(.long (f + (own_spread ((own_ha us us.length) ^^^ ((Int32.ofNat us.length).toInt64)) (-49064778989728563 : Int64) (-4265267296055464877 : Int64)))), (.ref a1)])) _
    refine st10 _ ?_
    show Steps p.tables e below (T10.setTop (mkF m 97 #[.val (.ref a1), .val (.ref a2), .val (.long (own_ha us us.length)), .second, .val (.long (own_hb us us.length)), .second, .val (.int (Int32.ofNat us.length)), s7] [])) _
    refine XS.aloadN X10.here hx rfl (hb hby dE_97) rfl rfl ?_
    show Steps p.tables e below (T10.setTop (mkF m 98 #[.val (.ref a1), .val (.ref a2), .val (.long (own_ha us us.length)), .second, .val (.long (own_hb us us.length)), .second, .val (.int (Int32.ofNat us.length)), s7] [(.ref a1)])) _
    refine XS.dup X10.here hx rfl (hb hby dE_98) rfl rfl ?_
    show Steps p.tables e below (T10.setTop (mkF m 99 #[.val (.ref a1), .val (.ref a2), .val (.long (own_ha us us.length)), .second, .val (.long (own_hb us us.length)), .second, .val (.int (Int32.ofNat us.length)), s7] [(.ref a1), (.ref a1)])) _
    refine st11 _ ?_
    show Steps p.tables e below (T11.setTop (mkF m 102 #[.val (.ref a1), .val (.ref a2), .val (.long (own_ha us us.length)), .second, .val (.long (own_hb us us.length)), .second, .val (.int (Int32.ofNat us.length)), s7] [(.long s'), (.ref a1)])) _
    refine XS.lload X11.here hx rfl (hb hby dE_102) rfl ?_
    show Steps p.tables e below (T11.setTop (mkF m 104 #[.val (.ref a1), .val (.ref a2), .val (.long (own_ha us us.length)), .second, .val (.long (own_hb us us.length)), .second, .val (.int (Int32.ofNat us.length)), s7] [(.long (own_hb us us.length)), (.long s'), (.ref a1)])) _
    refine XS.aloadN X11.here hx rfl (hb hby dE_104) rfl rfl ?_
    show Steps p.tables e below (T11.setTop (mkF m 105 #[.val (.ref a1), .val (.ref a2), .val (.long (own_ha us us.length)), .second, .val (.long (own_hb us us.length)), .second, .val (.int (Int32.ofNat us.length)), s7] [(.ref a2), (.long (own_hb us us.length)), (.long s'), (.ref a1)])) _
    refine st12.trans ?_
    show Steps p.tables e below (T12.setTop (mkF m 108 #[.val (.ref a1), .val (.ref a2), .val (.long (own_ha us us.length)), .second, .val (.long (own_hb us us.length)), .second, .val (.int (Int32.ofNat us.length)), s7] [(.int (Int32.ofNat us.length)), (.long (own_hb us us.length)), (.long s'), (.ref a1)])) _
    refine XS.i2l X12.here hx rfl (hb hby dE_108) rfl ?_
    show Steps p.tables e below (T12.setTop (mkF m 109 #[.val (.ref a1), .val (.ref a2), .val (.long (own_ha us us.length)), .second, .val (.long (own_hb us us.length)), .second, .val (.int (Int32.ofNat us.length)), s7] [(.long ((Int32.ofNat us.length).toInt64)), (.long (own_hb us us.length)), (.long s'), (.ref a1)])) _
    refine XS.lxor X12.here hx rfl (hb hby dE_109) rfl ?_
    show Steps p.tables e below (T12.setTop (mkF m 110 #[.val (.ref a1), .val (.ref a2), .val (.long (own_ha us us.length)), .second, .val (.long (own_hb us us.length)), .second, .val (.int (Int32.ofNat us.length)), s7] [(.long ((own_hb us us.length) ^^^ ((Int32.ofNat us.length).toInt64))), (.long s'), (.ref a1)])) _
    refine X12.ldc2Long hx hown (mvT hZ (hw _ (List.mem_of_getElem? (i := 106) rfl))) (g := (mkF m 110 #[.val (.ref a1), .val (.ref a2), .val (.long (own_ha us us.length)), .second, .val (.long (own_hb us us.length)), .second, .val (.int (Int32.ofNat us.length)), s7] [(.long ((own_hb us us.length) ^^^ ((Int32.ofNat us.length).toInt64))), (.long s'), (.ref a1)])) rfl (hb hby dE_110) _ ?_
    show Steps p.tables e below (T12.setTop (mkF m 113 #[.val (.ref a1), .val (.ref a2), .val (.long (own_ha us us.length)), .second, .val (.long (own_hb us us.length)), .second, .val (.int (Int32.ofNat us.length)), s7] [(.long (-4658895280553007687 : Int64)), (.long ((own_hb us us.length) ^^^ ((Int32.ofNat us.length).toInt64))), (.long s'), (.ref a1)])) _
    refine X12.ldc2Long hx hown (mvT hZ (hw _ (List.mem_of_getElem? (i := 107) rfl))) (g := (mkF m 113 #[.val (.ref a1), .val (.ref a2), .val (.long (own_ha us us.length)), .second, .val (.long (own_hb us us.length)), .second, .val (.int (Int32.ofNat us.length)), s7] [(.long (-4658895280553007687 : Int64)), (.long ((own_hb us us.length) ^^^ ((Int32.ofNat us.length).toInt64))), (.long s'), (.ref a1)])) rfl (hb hby dE_113) _ ?_
    show Steps p.tables e below (T12.setTop (mkF m 116 #[.val (.ref a1), .val (.ref a2), .val (.long (own_ha us us.length)), .second, .val (.long (own_hb us us.length)), .second, .val (.int (Int32.ofNat us.length)), s7] [(.long (-7723592293110705685 : Int64)), (.long (-4658895280553007687 : Int64)), (.long ((own_hb us us.length) ^^^ ((Int32.ofNat us.length).toInt64))), (.long s'), (.ref a1)])) _
    refine st13 _ ?_
    show Steps p.tables e below (T13.setTop (mkF m 119 #[.val (.ref a1), .val (.ref a2), .val (.long (own_ha us us.length)), .second, .val (.long (own_hb us us.length)), .second, .val (.int (Int32.ofNat us.length)), s7] [(.long (own_spread ((own_hb us us.length) ^^^ ((Int32.ofNat us.length).toInt64)) (-4658895280553007687 : Int64) (-7723592293110705685 : Int64))), (.long s'), (.ref a1)])) _
    refine XS.ladd X13.here hx rfl (hb hby dE_119) rfl ?_
    show Steps p.tables e below (T13.setTop (mkF m 120 #[.val (.ref a1), .val (.ref a2), .val (.long (own_ha us us.length)), .second, .val (.long (own_hb us us.length)), .second, .val (.int (Int32.ofNat us.length)), s7] [(.long (s' + (own_spread ((own_hb us us.length) ^^^ ((Int32.ofNat us.length).toInt64)) (-4658895280553007687 : Int64) (-7723592293110705685 : Int64)))), (.ref a1)])) _
    refine st14 _ ?_
    show Steps p.tables e below (T14.setTop (mkF m 123 #[.val (.ref a1), .val (.ref a2), .val (.long (own_ha us us.length)), .second, .val (.long (own_hb us us.length)), .second, .val (.int (Int32.ofNat us.length)), s7] [])) _
    exact X14.returnOut hx Bd.returns (hb hby dE_123) hr
  · show QE Z a1 us n f s' h0 n0 _ T14.heap _
    rw [e14]
    exact ⟨rfl, N14, Kp14, ExD_W14, Flines_W14, Ffirst_W14, Fsecond_W14⟩
theorem own_cm (x y : Int64) : (0 + x) + y = (0 + y) + x := by
  rw [Int64.zero_add, Int64.zero_add, Int64.add_comm]
theorem own_ac {x y : Int64} (h : (0 : Int64) + x = 0 + y) : x = y := by
  rw [Int64.zero_add, Int64.zero_add] at h; exact h
theorem own_ch_inj {u v : UInt16} (h : own_ch u = own_ch v) : u = v := by
  have := congrArg (fun z : Int32 => z.toUInt32.toUInt16) h
  simpa [own_ch] using this
theorem pd0_0 : parseMethodDescriptor "(C)Ljava/lang/String;" = some ⟨[.char], some (.object "java/lang/String")⟩ := by decide +kernel
theorem pd0_1 : parseMethodDescriptor "([C)V" = some ⟨[(.array .char)], none⟩ := by decide +kernel
theorem pd0_2 : parseMethodDescriptor "()V" = some ⟨[], none⟩ := by decide +kernel
theorem pd0_3 : parseMethodDescriptor "(Ljava/lang/String;)V" = some ⟨[(.object "java/lang/String")], none⟩ := by decide +kernel
theorem pd0_4 : parseMethodDescriptor "(Lcom/example/keelson/keelson/bench/LineDigest;)Z" = some ⟨[(.object "com/example/keelson/keelson/bench/LineDigest")], some .boolean⟩ := by decide +kernel
def Q0 (n0 : Nat) (v : Option Value) (h : Heap) (L : List Loc) : Prop := v = some (.int (1 : Int32)) ∧ Fr n0 L
theorem pn0 : plainName "com/example/keelson/keelson/bench/LineDigestSameLinesPinLaw" = true := by first | (simp [plainName, overriddenIn]; done) | decide +kernel
theorem ef0 (m : MethodId) (x0 : Int32) (x1 : Int32) (x2 : Int32) (x3 : Int32) : entryFrame m #[(.int x0), (.int x1), (.int x2), (.int x3)] maxLocals = mkF m 0 #[.val (.int x0), .val (.int x1), .val (.int x2), .val (.int x3), .unset, .unset, .unset, .unset, .unset, .unset, .unset, .unset, .unset, .unset, .unset, .unset, .unset, .unset] [] := by first | (simp [entryFrame, mkF, argsToLocals, Value.category, maxLocals]; done) | rfl
set_option maxRecDepth 65536 in
set_option maxHeartbeats 40000000 in
theorem rm0 (l : Launch) (Z : State) (a0 : Array Value) (hw : ∀ d ∈ tables_1, d.before a0 Z = true) (ws : List Jvm.Cond) (csx : Int32) (vF : Value) (p1 p2 p3 p4 : Int32) (h0 : Heap) (n0 : Nat) (Z0 : n0 ≤ h0.size) (St : own_St Z csx vF) (O0 : Old Z n0 h0) :
    MetFree l x (head1 (Jvm.Cond.code x code maxLocals ret :: ws) room_1) (fun a U => a = #[(.int p1), (.int p2), (.int p3), (.int p4)] ∧ Z.Warmed39 U.vm ∧ U.heap = h0) (fun _ _ _ _ _ => True) (fun _ U o U' => ∃ v L, o = .returned v ∧ Q0 n0 v U'.heap L ∧ FrameEnd U o U' L room_1.cells room_1.slots) := by
  refine MetFree.of_bodySF (plainFor_of_name pn0) hisR ?_
  intro p e s m args below meth c s₁ Bd hml0 hP hK
  obtain ⟨rfl, hZ, hh⟩ := hP
  have hx := Bd.exec
  have hby := Bd.bytes
  have hml : c.maxLocals = 18 := hml0
  have hown : s.vm.findClass "com/example/keelson/keelson/bench/LineDigestSameLinesPinLaw" = some m.cls := findClass_of_methodNamed Bd.named
  have hnm := (name_of_methodNamed Bd.named Bd.method).1
  have X0 : Stand p l e room_1 s m #[(.int p1), (.int p2), (.int p3), (.int p4)] below meth c s₁ [] 0 0 := Stand.of_body Bd
  have e0 : s₁.heap = h0 := by rw [← hh, Bd.state]; rfl
  have N0 := Fr.nil n0
  have pre0 : ∀ t, Steps p.tables e below (s₁.setTop (mkF m 0 #[.val (.int p1), .val (.int p2), .val (.int p3), .val (.int p4), .unset, .unset, .unset, .unset, .unset, .unset, .unset, .unset, .unset, .unset, .unset, .unset, .unset, .unset] [])) t → Steps p.tables e below (s₁.setTop (entryFrame m #[(.int p1), (.int p2), (.int p3), (.int p4)] maxLocals)) t := fun t k => castTop (ef0 m p1 p2 p3 p4) k
  obtain ⟨u1, hu1⟩ : ∃ z : UInt16, z = p1.toUInt32.toUInt16 := ⟨_, rfl⟩
  obtain ⟨u2, hu2⟩ : ∃ z : UInt16, z = p2.toUInt32.toUInt16 := ⟨_, rfl⟩
  obtain ⟨u3, hu3⟩ : ∃ z : UInt16, z = p3.toUInt32.toUInt16 := ⟨_, rfl⟩
  obtain ⟨u4, st1⟩ : ∃ u4 : UInt16, ∀ target, Steps p.tables e below (s₁.setTop (mkF m 28 #[.val (.int p1), .val (.int p2), .val (.int p3), .val (.int p4), .val (.int (own_ch u1)), .val (.int (own_ch u2)), .val (.int (own_ch u3)), .unset, .unset, .unset, .unset, .unset, .unset, .unset, .unset, .unset, .unset, .unset] [(.int (own_ch u4))])) target → Steps p.tables e below (s₁.setTop (mkF m 18 #[.val (.int p1), .val (.int p2), .val (.int p3), .val (.int p4), .val (.int (own_ch u1)), .val (.int (own_ch u2)), .val (.int (own_ch u3)), .unset, .unset, .unset, .unset, .unset, .unset, .unset, .unset, .unset, .unset, .unset] [(.int (((p4.toUInt32 >>> ((16 : Int32) &&& 31).toUInt32).toInt32) &&& (1 : Int32)))])) target := by
    by_cases hc18 : (((p4.toUInt32 >>> ((16 : Int32) &&& 31).toUInt32).toInt32) &&& (1 : Int32)) = (0 : Int32)
    · refine ⟨p4.toUInt32.toUInt16, fun target kt => ?_⟩
      show Steps p.tables e below (s₁.setTop (mkF m 18 #[.val (.int p1), .val (.int p2), .val (.int p3), .val (.int p4), .val (.int (own_ch u1)), .val (.int (own_ch u2)), .val (.int (own_ch u3)), .unset, .unset, .unset, .unset, .unset, .unset, .unset, .unset, .unset, .unset, .unset] [(.int (((p4.toUInt32 >>> ((16 : Int32) &&& 31).toUInt32).toInt32) &&& (1 : Int32)))])) _
      refine XS.ifYes X0.here hx rfl (pc0 := 18) (pc' := 26) rfl (hb hby at_18) rfl ((if0 _ _).trans (teq (hc18 : (((p4.toUInt32 >>> ((16 : Int32) &&& 31).toUInt32).toInt32) &&& (1 : Int32)) = (0 : Int32))).1) (by decide) (by decide) ?_
      show Steps p.tables e below (s₁.setTop (mkF m 26 #[.val (.int p1), .val (.int p2), .val (.int p3), .val (.int p4), .val (.int (own_ch u1)), .val (.int (own_ch u2)), .val (.int (own_ch u3)), .unset, .unset, .unset, .unset, .unset, .unset, .unset, .unset, .unset, .unset, .unset] [])) _
      refine XS.iloadN X0.here hx rfl (hb hby at_26) rfl ?_
      show Steps p.tables e below (s₁.setTop (mkF m 27 #[.val (.int p1), .val (.int p2), .val (.int p3), .val (.int p4), .val (.int (own_ch u1)), .val (.int (own_ch u2)), .val (.int (own_ch u3)), .unset, .unset, .unset, .unset, .unset, .unset, .unset, .unset, .unset, .unset, .unset] [(.int p4)])) _
      refine XS.i2c X0.here hx rfl (hb hby at_27) rfl ?_
      exact kt
    · refine ⟨u1, fun target kt => ?_⟩
      show Steps p.tables e below (s₁.setTop (mkF m 18 #[.val (.int p1), .val (.int p2), .val (.int p3), .val (.int p4), .val (.int (own_ch u1)), .val (.int (own_ch u2)), .val (.int (own_ch u3)), .unset, .unset, .unset, .unset, .unset, .unset, .unset, .unset, .unset, .unset, .unset] [(.int (((p4.toUInt32 >>> ((16 : Int32) &&& 31).toUInt32).toInt32) &&& (1 : Int32)))])) _
      refine XS.ifNo X0.here hx rfl (hb hby at_18) rfl ((if0 _ _).trans (feq (hc18 : ¬ ((((p4.toUInt32 >>> ((16 : Int32) &&& 31).toUInt32).toInt32) &&& (1 : Int32)) = (0 : Int32)))).1) ?_
      show Steps p.tables e below (s₁.setTop (mkF m 21 #[.val (.int p1), .val (.int p2), .val (.int p3), .val (.int p4), .val (.int (own_ch u1)), .val (.int (own_ch u2)), .val (.int (own_ch u3)), .unset, .unset, .unset, .unset, .unset, .unset, .unset, .unset, .unset, .unset, .unset] [])) _
      refine XS.iload X0.here hx rfl (hb hby at_21) rfl ?_
      show Steps p.tables e below (s₁.setTop (mkF m 23 #[.val (.int p1), .val (.int p2), .val (.int p3), .val (.int p4), .val (.int (own_ch u1)), .val (.int (own_ch u2)), .val (.int (own_ch u3)), .unset, .unset, .unset, .unset, .unset, .unset, .unset, .unset, .unset, .unset, .unset] [(.int (own_ch u1))])) _
      refine XS.goto X0.here hx rfl (pc0 := 23) (pc' := 28) rfl (hb hby at_23) (by decide) (by decide) ?_
      exact kt
  obtain ⟨_, _, ⟨T2, L2, k2, n2⟩, -, X2, ⟨Lc2, hQ2, l2, y2, z2⟩, st2⟩ := Jvm.LawKit.callS X0 hx (y := (⟨"java/lang/String", "valueOf", "(C)Ljava/lang/String;"⟩ : MethodName)) hown (mvT hZ (hw _ (List.mem_of_getElem? (i := 0) rfl))) (mvT hZ (hw _ (List.mem_of_getElem? (i := 1) rfl))) (mvT hZ (hw _ (List.mem_of_getElem? (i := 2) rfl))) (mvT hZ (hw _ (List.mem_of_getElem? (i := 3) rfl))) (by decide) (backOf (W := 0) (rmf l Z a0 hw [] csx vF u1 h0 n0 Z0 St O0) hZ (hw _ (List.mem_of_getElem? (i := 3) rfl)) (hw _ (List.mem_of_getElem? (i := 2) rfl)) (by decide) (by decide)) (g := (mkF m 32 #[.val (.int p1), .val (.int p2), .val (.int p3), .val (.int p4), .val (.int (own_ch u1)), .val (.int (own_ch u2)), .val (.int (own_ch u3)), .val (.int (own_ch u4)), .unset, .unset, .unset, .unset, .unset, .unset, .unset, .unset, .unset, .unset] [(.int (own_ch u1))])) rfl (by rw [hml]; rfl) (argsL := [(.int (own_ch u1))]) (rest := []) (lenOf pd0_0 rfl) rfl (by show 2 * 0 + _ ≤ _; exact Nat.le_of_eq rfl) (hb hby at_32) (fun _ _ => ⟨rfl, e0, (by decide : 0 + 2 ≤ _), (by decide : 0 + 6 ≤ _)⟩)
  dsimp only [Pt.U, Pt.locs, Pt.cells, Pt.slots] at X2 l2 y2 z2 st2 hQ2
  subst l2 y2 z2
  obtain ⟨Nq2, s2, rfl, sb2, Kc2, hS2⟩ := hQ2
  have N2 := Fr.app N0 Nq2
  have Zs2 : n0 ≤ T2.heap.size := Nat.le_trans Z0 Kc2.1
  have O2 := O0.keep Kc2 all0
  obtain ⟨T3, h3, X3, e3, E3, A3, D3, -, st3⟩ := newO X2 hx hZ hown (hw _ (List.mem_of_getElem? (i := 26) rfl)) (hw _ (List.mem_of_getElem? (i := 10) rfl)) (hw _ (List.mem_of_getElem? (i := 2) rfl)) rfl (g := (mkF m 37 #[.val (.int p1), .val (.int p2), .val (.int p3), .val (.int p4), .val (.int (own_ch u1)), .val (.int (own_ch u2)), .val (.int (own_ch u3)), .val (.int (own_ch u4)), .val (.ref s2), .unset, .unset, .unset, .unset, .unset, .unset, .unset, .unset, .unset] [])) rfl (hb hby at_37) (by decide) (by decide)
  obtain ⟨b3, g3⟩ : ∃ z, z = T2.heap.size := ⟨_, rfl⟩
  rw [← g3] at A3 D3 st3
  have gn_b3 : n0 ≤ b3 := Nat.le_trans Zs2 (Nat.le_of_eq g3.symm)
  have O3 := O2.ext E3
  have Sr_s2_E3 := hS2.ext E3
  have Zs3 : n0 ≤ h3.size := Nat.le_trans Zs2 E3.1
  have Fvalue_b3 : Fld Z h3 b3 "java/lang/String" "value" "[B" .null := D3 (Or.inr (hw _ (List.mem_of_getElem? (i := 23) rfl))) (ty := (.array .byte)) (by decide)
  have Fcoder_b3 : Fld Z h3 b3 "java/lang/String" "coder" "B" (.int (0 : Int32)) := D3 (Or.inr (hw _ (List.mem_of_getElem? (i := 25) rfl))) (ty := .byte) (by decide)
  have gB_b3 : T2.heap.size ≤ b3 := Nat.le_of_eq g3.symm
  obtain ⟨T4, h4, k4, X4, e4, E4, A4, st4⟩ := newP X3 hx hZ (hw _ (List.mem_of_getElem? (i := 27) rfl)) e3 (g := (mkF m 42 #[.val (.int p1), .val (.int p2), .val (.int p3), .val (.int p4), .val (.int (own_ch u1)), .val (.int (own_ch u2)), .val (.int (own_ch u3)), .val (.int (own_ch u4)), .val (.ref s2), .unset, .unset, .unset, .unset, .unset, .unset, .unset, .unset, .unset] [(.int (2 : Int32)), (.ref b3), (.ref b3)])) rfl (hb hby at_42) rfl (by decide) (cap := 2) (by decide) (by decide) (by decide) (by decide)
  obtain ⟨b4, g4⟩ : ∃ z, z = h3.size := ⟨_, rfl⟩
  rw [← g4] at A4 st4
  have gn_b4 : n0 ≤ b4 := Nat.le_trans Zs3 (Nat.le_of_eq g4.symm)
  have ne_b3_b4 : b3 ≠ b4 := Nat.ne_of_lt (Nat.lt_of_lt_of_le A3.lt (Nat.le_of_eq g4.symm))
  have O4 := O3.ext E4
  have Sr_s2_E4 := Sr_s2_E3.ext E4
  have Ex_b3_E4 := A3.ext E4
  have Fvalue_b3_E4 := Fvalue_b3.ext E4
  have Fcoder_b3_E4 := Fcoder_b3.ext E4
  have Zs4 : n0 ≤ h4.size := Nat.le_trans Zs3 E4.1
  have Va_b4 : Arv Z h4 b4 k4 .char (2 : Int32) [(.int (0 : Int32)), (.int (0 : Int32))] (.int (0 : Int32)) := (Arv.new A4 (by decide)).pad (pad_rep [] (.int (0 : Int32)) 2)
  have gB_b4 : T2.heap.size ≤ b4 := Nat.le_trans E3.1 (Nat.le_of_eq g4.symm)
  obtain ⟨cl5, Ar5, q5, Sz5, Nn5, Hs5, Gs5⟩ := Va_b4
  have hin5 : ¬ ((0 : Int32) < 0 ∨ cl5.slots.size ≤ ((0 : Int32)).toNatClampNeg) := inb_of Sz5 ⟨by decide, by decide⟩
  obtain ⟨T6, h6, X6, e6, W6, st6⟩ := stC X4 hx hZ e4 Ar5 (j := (0 : Int32)) hin5 (g := (mkF m 48 #[.val (.int p1), .val (.int p2), .val (.int p3), .val (.int p4), .val (.int (own_ch u1)), .val (.int (own_ch u2)), .val (.int (own_ch u3)), .val (.int (own_ch u4)), .val (.ref s2), .unset, .unset, .unset, .unset, .unset, .unset, .unset, .unset, .unset] [(.int (own_ch u2)), (.int (0 : Int32)), (.ref b4), (.ref b4), (.ref b3), (.ref b3)])) rfl rfl (hb hby at_48)
  have Va_b4_W6 := Arv.set Ar5 q5 Sz5 Nn5 Hs5 Gs5 (fits_nar_char _) W6 0 rfl (Nat.le_of_ble_eq_true rfl)
  have Sr_s2_W6 := Sr_s2_E4.wr W6 gB_b4
  have Ex_b3_W6 := Ex_b3_E4.wr W6
  have Fvalue_b3_W6 := Fvalue_b3_E4.other W6 (Or.inl ne_b3_b4)
  have Fcoder_b3_W6 := Fcoder_b3_E4.other W6 (Or.inl ne_b3_b4)
  have O6 := O4.wr W6 gn_b4
  have N6 := Fr.snoc X6 N2 gn_b4
  have Zs6 : n0 ≤ h6.size := Nat.le_trans Zs4 (Keep.of_wr W6).1
  obtain ⟨cl7, Ar7, q7, Sz7, Nn7, Hs7, Gs7⟩ := Va_b4_W6
  have hin7 : ¬ ((1 : Int32) < 0 ∨ cl7.slots.size ≤ ((1 : Int32)).toNatClampNeg) := inb_of Sz7 ⟨by decide, by decide⟩
  obtain ⟨T8, h8, X8, e8, W8, st8⟩ := stC X6 hx hZ e6 Ar7 (j := (1 : Int32)) hin7 (g := (mkF m 53 #[.val (.int p1), .val (.int p2), .val (.int p3), .val (.int p4), .val (.int (own_ch u1)), .val (.int (own_ch u2)), .val (.int (own_ch u3)), .val (.int (own_ch u4)), .val (.ref s2), .unset, .unset, .unset, .unset, .unset, .unset, .unset, .unset, .unset] [(.int (own_ch u3)), (.int (1 : Int32)), (.ref b4), (.ref b4), (.ref b3), (.ref b3)])) rfl rfl (hb hby at_53)
  have Va_b4_W8 := Arv.set Ar7 q7 Sz7 Nn7 Hs7 Gs7 (fits_nar_char _) W8 1 rfl (Nat.le_of_ble_eq_true rfl)
  have Sr_s2_W8 := Sr_s2_W6.wr W8 gB_b4
  have Ex_b3_W8 := Ex_b3_W6.wr W8
  have Fvalue_b3_W8 := Fvalue_b3_W6.other W8 (Or.inl ne_b3_b4)
  have Fcoder_b3_W8 := Fcoder_b3_W6.other W8 (Or.inl ne_b3_b4)
  have O8 := O6.wr W8 gn_b4
  have N8 := Fr.snoc X8 N6 gn_b4
  have Zs8 : n0 ≤ h8.size := Nat.le_trans Zs6 (Keep.of_wr W8).1
  have Vch : Arv Z h8 b4 k4 .char (2 : Int32) [.int (own_ch u2), .int (own_ch u3)] (.int (0 : Int32)) := by rw [← own_nar_ch u2, ← own_nar_ch u3]; exact Va_b4_W8
  obtain ⟨_, _, ⟨T9, L9, k9, n9⟩, -, X9, ⟨Lc9, hQ9, l9, y9, z9⟩, st9⟩ := X8.specialBack hx (y := (⟨"java/lang/String", "<init>", "([C)V"⟩ : MethodName)) rfl hown (mvT hZ (hw _ (List.mem_of_getElem? (i := 28) rfl))) (mvT hZ (hw _ (List.mem_of_getElem? (i := 29) rfl))) (mvT hZ (hw _ (List.mem_of_getElem? (i := 30) rfl))) (by decide) (backOf (W := 1) (rmp l Z a0 hw [] csx vF b3 b4 k4 u2 u3 h8 n0 Zs8 St O8 Ex_b3_W8 Fvalue_b3_W8 Fcoder_b3_W8 gn_b3 Vch ne_b3_b4) hZ (hw _ (List.mem_of_getElem? (i := 30) rfl)) (hw _ (List.mem_of_getElem? (i := 2) rfl)) (by decide) (by decide)) (g := (mkF m 54 #[.val (.int p1), .val (.int p2), .val (.int p3), .val (.int p4), .val (.int (own_ch u1)), .val (.int (own_ch u2)), .val (.int (own_ch u3)), .val (.int (own_ch u4)), .val (.ref s2), .unset, .unset, .unset, .unset, .unset, .unset, .unset, .unset, .unset] [(.ref b4), (.ref b3), (.ref b3)])) rfl (by rw [hml]; rfl) (Steps.refl _) (a := b3) (argsL := [(.ref b4)]) (rest := [(.ref b3)]) (lenOf pd0_1 rfl) rfl (by show 2 * 0 + _ ≤ _; exact Nat.le_of_eq rfl) (hb hby at_54) (fun _ _ => ⟨rfl, e8, (by decide : 4 + 2 ≤ _), (by decide : 12 + 6 ≤ _)⟩)
  dsimp only [Pt.U, Pt.locs, Pt.cells, Pt.slots] at X9 l9 y9 z9 st9 hQ9
  subst l9 y9 z9
  obtain ⟨rfl, Nq9, Kc9, hS9⟩ := hQ9
  have N9 := Fr.app N8 Nq9
  have Zs9 : n0 ≤ T9.heap.size := Nat.le_trans Zs8 Kc9.1
  have Sr_s2_Kc9 := Sr_s2_W8.keep Kc9 (allS gB_b3 all0)
  have Ex_b3_Kc9 := Ex_b3_W8.keep Kc9
  have Va_b4_Kc9 := Vch.keep Kc9 (ninS (Ne.symm ne_b3_b4) nin0)
  have O9 := O8.keep Kc9 (allS gn_b3 all0)
  obtain ⟨_, _, ⟨T10, L10, k10, n10⟩, -, X10, ⟨Lc10, hQ10, l10, y10, z10⟩, st10⟩ := Jvm.LawKit.callS X9 hx (y := (⟨"java/lang/String", "valueOf", "(C)Ljava/lang/String;"⟩ : MethodName)) hown (mvT hZ (hw _ (List.mem_of_getElem? (i := 0) rfl))) (mvT hZ (hw _ (List.mem_of_getElem? (i := 1) rfl))) (mvT hZ (hw _ (List.mem_of_getElem? (i := 2) rfl))) (mvT hZ (hw _ (List.mem_of_getElem? (i := 3) rfl))) (by decide) (backOf (W := 0) (rmf l Z a0 hw [] csx vF u4 T9.heap n0 Zs9 St O9) hZ (hw _ (List.mem_of_getElem? (i := 3) rfl)) (hw _ (List.mem_of_getElem? (i := 2) rfl)) (by decide) (by decide)) (g := (mkF m 61 #[.val (.int p1), .val (.int p2), .val (.int p3), .val (.int p4), .val (.int (own_ch u1)), .val (.int (own_ch u2)), .val (.int (own_ch u3)), .val (.int (own_ch u4)), .val (.ref s2), .val (.ref b3), .unset, .unset, .unset, .unset, .unset, .unset, .unset, .unset] [(.int (own_ch u4))])) rfl (by rw [hml]; rfl) (argsL := [(.int (own_ch u4))]) (rest := []) (lenOf pd0_0 rfl) rfl (by show 2 * 0 + _ ≤ _; exact Nat.le_of_eq rfl) (hb hby at_61) (fun _ _ => ⟨rfl, rfl, (by decide : 6 + 2 ≤ _), (by decide : 18 + 6 ≤ _)⟩)
  dsimp only [Pt.U, Pt.locs, Pt.cells, Pt.slots] at X10 l10 y10 z10 st10 hQ10
  subst l10 y10 z10
  obtain ⟨Nq10, s10, rfl, sb10, Kc10, hS10⟩ := hQ10
  have N10 := Fr.app N9 Nq10
  have Zs10 : n0 ≤ T10.heap.size := Nat.le_trans Zs9 Kc10.1
  have Sr_s2_Kc10 := Sr_s2_Kc9.keep Kc10 all0
  have Sr_b3_Kc10 := hS9.keep Kc10 all0
  have O10 := O9.keep Kc10 all0
  obtain ⟨B, hB⟩ : ∃ B, B = T10.heap.size := ⟨_, rfl⟩
  have S1 : own_Str Z T10.heap n0 B s2 [u1] := Sr_s2_Kc10.up (by rw [hB]; exact Nat.le_trans (Nat.le_trans (Nat.le_trans (Nat.le_trans (Nat.le_trans (Nat.le_trans (Nat.le_refl _) E3.1) E4.1) (Keep.of_wr W6).1) (Keep.of_wr W8).1) Kc9.1) Kc10.1)
  have S2 : own_Str Z T10.heap n0 B b3 [u2, u3] := Sr_b3_Kc10.up (by rw [hB]; exact Nat.le_trans (Nat.le_refl _) Kc10.1)
  have S4 : own_Str Z T10.heap n0 B s10 [u4] := hS10.up (by rw [hB]; exact Nat.le_refl _)
  have sz0 : B ≤ T10.heap.size := by rw [hB]; exact Nat.le_refl _
  have szB11 : B ≤ T10.heap.size := sz0
  obtain ⟨T12, h12, X12, e12, E12, A12, D12, -, st12⟩ := newO X10 hx hZ hown (hw _ (List.mem_of_getElem? (i := 44) rfl)) (hw _ (List.mem_of_getElem? (i := 45) rfl)) (hw _ (List.mem_of_getElem? (i := 46) rfl)) rfl (g := (mkF m 66 #[.val (.int p1), .val (.int p2), .val (.int p3), .val (.int p4), .val (.int (own_ch u1)), .val (.int (own_ch u2)), .val (.int (own_ch u3)), .val (.int (own_ch u4)), .val (.ref s2), .val (.ref b3), .val (.ref s10), .unset, .unset, .unset, .unset, .unset, .unset, .unset] [])) rfl (hb hby at_66) (by decide) (by decide)
  obtain ⟨b12, g12⟩ : ∃ z, z = T10.heap.size := ⟨_, rfl⟩
  rw [← g12] at A12 D12 st12
  have gn_b12 : n0 ≤ b12 := Nat.le_trans Zs10 (Nat.le_of_eq g12.symm)
  have O12 := O10.ext E12
  have S1_E12 := S1.ext E12
  have S2_E12 := S2.ext E12
  have S4_E12 := S4.ext E12
  have Zs12 : n0 ≤ h12.size := Nat.le_trans Zs10 E12.1
  have Flines_b12 : Fld Z h12 b12 "com/example/keelson/keelson/bench/LineDigest" "lines" "J" (.long (0 : Int64)) := D12 (Or.inl (hw _ (List.mem_of_getElem? (i := 96) rfl))) (ty := .long) (by decide)
  have Ffirst_b12 : Fld Z h12 b12 "com/example/keelson/keelson/bench/LineDigest" "first" "J" (.long (0 : Int64)) := D12 (Or.inl (hw _ (List.mem_of_getElem? (i := 98) rfl))) (ty := .long) (by decide)
  have Fsecond_b12 : Fld Z h12 b12 "com/example/keelson/keelson/bench/LineDigest" "second" "J" (.long (0 : Int64)) := D12 (Or.inl (hw _ (List.mem_of_getElem? (i := 105) rfl))) (ty := .long) (by decide)
  have sBb12 := szB11
  obtain ⟨_, _, ⟨T13, L13, k13, n13⟩, -, X13, ⟨Lc13, hQ13, l13, y13, z13⟩, st13⟩ := X12.specialBack hx (y := (⟨"com/example/keelson/keelson/bench/LineDigest", "<init>", "()V"⟩ : MethodName)) rfl hown (mvT hZ (hw _ (List.mem_of_getElem? (i := 47) rfl))) (mvT hZ (hw _ (List.mem_of_getElem? (i := 48) rfl))) (mvT hZ (hw _ (List.mem_of_getElem? (i := 49) rfl))) (by decide) (backOf (W := 1) (rmC l Z a0 hw [] b12 h12 n0 Zs12) hZ (hw _ (List.mem_of_getElem? (i := 49) rfl)) (hw _ (List.mem_of_getElem? (i := 46) rfl)) (by decide) (by decide)) (g := (mkF m 70 #[.val (.int p1), .val (.int p2), .val (.int p3), .val (.int p4), .val (.int (own_ch u1)), .val (.int (own_ch u2)), .val (.int (own_ch u3)), .val (.int (own_ch u4)), .val (.ref s2), .val (.ref b3), .val (.ref s10), .unset, .unset, .unset, .unset, .unset, .unset, .unset] [(.ref b12), (.ref b12)])) rfl (by rw [hml]; rfl) (Steps.refl _) (a := b12) (argsL := []) (rest := [(.ref b12)]) (lenOf pd0_2 rfl) rfl (by show 2 * 0 + _ ≤ _; exact Nat.le_of_eq rfl) (hb hby at_70) (fun _ _ => ⟨rfl, e12, (by decide : 9 + 0 ≤ _), (by decide : 27 + 0 ≤ _)⟩)
  dsimp only [Pt.U, Pt.locs, Pt.cells, Pt.slots] at X13 l13 y13 z13 st13 hQ13
  subst l13 y13 z13
  obtain ⟨rfl, Nq13, e13⟩ := hQ13
  have N13 := Fr.app N10 Nq13
  have Dg_b12 : own_Dig Z h12 b12 (0 : Int64) (0 : Int64) (0 : Int64) := ⟨A12, Flines_b12, Ffirst_b12, Fsecond_b12⟩
  have gB_b12 : B ≤ b12 := Nat.le_trans sBb12 (Nat.le_of_eq g12.symm)
  have Exd14 := Dg_b12.1
  obtain ⟨cq14, kq14, q14a, q14b, q14c⟩ := isOf hZ e13 Dg_b12.1
  obtain ⟨_, _, ⟨T14, L14, k14, n14⟩, -, X14, ⟨Lc14, hQ14, l14, y14, z14⟩, st14⟩ := X13.virtualBack hx (y := (⟨"com/example/keelson/keelson/bench/LineDigest", "add", "(Ljava/lang/String;)V"⟩ : MethodName)) (z := (⟨"com/example/keelson/keelson/bench/LineDigest", "add", "(Ljava/lang/String;)V"⟩ : MethodName)) hown (mvT hZ (hw _ (List.mem_of_getElem? (i := 51) rfl))) (mvT hZ (hw _ (List.mem_of_getElem? (i := 52) rfl))) (notFace_of_selects (args := #[]) (mvT hZ (hw _ (List.mem_of_getElem? (i := 54) rfl)))) (mvT hZ (hw _ (List.mem_of_getElem? (i := 54) rfl))) (mvT hZ (hw _ (List.mem_of_getElem? (i := 53) rfl))) (by decide) (backOf (W := 0) (rmE l Z a0 hw [] csx vF b12 s2 B [u1] (0 : Int64) (0 : Int64) (0 : Int64) h12 n0 Zs12 St O12 (by simp) S1_E12 Dg_b12 gn_b12 gB_b12) hZ (hw _ (List.mem_of_getElem? (i := 55) rfl)) (hw _ (List.mem_of_getElem? (i := 46) rfl)) (by decide) (by decide)) q14a q14c (g := (mkF m 79 #[.val (.int p1), .val (.int p2), .val (.int p3), .val (.int p4), .val (.int (own_ch u1)), .val (.int (own_ch u2)), .val (.int (own_ch u3)), .val (.int (own_ch u4)), .val (.ref s2), .val (.ref b3), .val (.ref s10), .val (.ref b12), .unset, .unset, .unset, .unset, .unset, .unset] [(.ref s2), (.ref b12)])) rfl (by rw [hml]; rfl) (Steps.refl _) (argsL := [(.ref s2)]) (rest := []) (lenOf pd0_3 rfl) rfl (by show 2 * 0 + _ ≤ _; exact Nat.le_of_eq rfl) (hb hby at_79) (fun _ _ => ⟨rfl, e13, (by decide : 9 + 0 ≤ _), (by decide : 27 + 0 ≤ _)⟩)
  dsimp only [Pt.U, Pt.locs, Pt.cells, Pt.slots] at X14 l14 y14 z14 st14 hQ14
  subst l14 y14 z14
  obtain ⟨rfl, Nq14, Kc14, Dn14⟩ := hQ14
  have N14 := Fr.app N13 Nq14
  have Zs14 : n0 ≤ T14.heap.size := Nat.le_trans Zs12 Kc14.1
  have S1_Kc14 := S1_E12.keep Kc14 (allS gB_b12 all0)
  have S2_Kc14 := S2_E12.keep Kc14 (allS gB_b12 all0)
  have S4_Kc14 := S4_E12.keep Kc14 (allS gB_b12 all0)
  have O14 := O12.keep Kc14 (allS gn_b12 all0)
  have Exd15 := Dn14.1
  obtain ⟨cq15, kq15, q15a, q15b, q15c⟩ := isOf hZ rfl Dn14.1
  obtain ⟨_, _, ⟨T15, L15, k15, n15⟩, -, X15, ⟨Lc15, hQ15, l15, y15, z15⟩, st15⟩ := X14.virtualBack hx (y := (⟨"com/example/keelson/keelson/bench/LineDigest", "add", "(Ljava/lang/String;)V"⟩ : MethodName)) (z := (⟨"com/example/keelson/keelson/bench/LineDigest", "add", "(Ljava/lang/String;)V"⟩ : MethodName)) hown (mvT hZ (hw _ (List.mem_of_getElem? (i := 51) rfl))) (mvT hZ (hw _ (List.mem_of_getElem? (i := 52) rfl))) (notFace_of_selects (args := #[]) (mvT hZ (hw _ (List.mem_of_getElem? (i := 54) rfl)))) (mvT hZ (hw _ (List.mem_of_getElem? (i := 54) rfl))) (mvT hZ (hw _ (List.mem_of_getElem? (i := 53) rfl))) (by decide) (backOf (W := 0) (rmE l Z a0 hw [] csx vF b12 b3 B [u2, u3] ((0 : Int64) + 1) ((0 : Int64) + own_F [u1]) ((0 : Int64) + own_G [u1]) T14.heap n0 Zs14 St O14 (by simp) S2_Kc14 Dn14 gn_b12 gB_b12) hZ (hw _ (List.mem_of_getElem? (i := 55) rfl)) (hw _ (List.mem_of_getElem? (i := 46) rfl)) (by decide) (by decide)) q15a q15c (g := (mkF m 86 #[.val (.int p1), .val (.int p2), .val (.int p3), .val (.int p4), .val (.int (own_ch u1)), .val (.int (own_ch u2)), .val (.int (own_ch u3)), .val (.int (own_ch u4)), .val (.ref s2), .val (.ref b3), .val (.ref s10), .val (.ref b12), .unset, .unset, .unset, .unset, .unset, .unset] [(.ref b3), (.ref b12)])) rfl (by rw [hml]; rfl) (Steps.refl _) (argsL := [(.ref b3)]) (rest := []) (lenOf pd0_3 rfl) rfl (by show 2 * 0 + _ ≤ _; exact Nat.le_of_eq rfl) (hb hby at_86) (fun _ _ => ⟨rfl, rfl, (by decide : 9 + 0 ≤ _), (by decide : 27 + 0 ≤ _)⟩)
  dsimp only [Pt.U, Pt.locs, Pt.cells, Pt.slots] at X15 l15 y15 z15 st15 hQ15
  subst l15 y15 z15
  obtain ⟨rfl, Nq15, Kc15, Dn15⟩ := hQ15
  have N15 := Fr.app N14 Nq15
  have Zs15 : n0 ≤ T15.heap.size := Nat.le_trans Zs14 Kc15.1
  have S1_Kc15 := S1_Kc14.keep Kc15 (allS gB_b12 all0)
  have S2_Kc15 := S2_Kc14.keep Kc15 (allS gB_b12 all0)
  have S4_Kc15 := S4_Kc14.keep Kc15 (allS gB_b12 all0)
  have O15 := O14.keep Kc15 (allS gn_b12 all0)
  have szB16 : B ≤ T15.heap.size := (Nat.le_trans (Nat.le_trans (Nat.le_trans szB11 E12.1) Kc14.1) Kc15.1)
  obtain ⟨T17, h17, X17, e17, E17, A17, D17, -, st17⟩ := newO X15 hx hZ hown (hw _ (List.mem_of_getElem? (i := 44) rfl)) (hw _ (List.mem_of_getElem? (i := 45) rfl)) (hw _ (List.mem_of_getElem? (i := 46) rfl)) rfl (g := (mkF m 89 #[.val (.int p1), .val (.int p2), .val (.int p3), .val (.int p4), .val (.int (own_ch u1)), .val (.int (own_ch u2)), .val (.int (own_ch u3)), .val (.int (own_ch u4)), .val (.ref s2), .val (.ref b3), .val (.ref s10), .val (.ref b12), .unset, .unset, .unset, .unset, .unset, .unset] [])) rfl (hb hby at_89) (by decide) (by decide)
  obtain ⟨b17, g17⟩ : ∃ z, z = T15.heap.size := ⟨_, rfl⟩
  rw [← g17] at A17 D17 st17
  have gn_b17 : n0 ≤ b17 := Nat.le_trans Zs15 (Nat.le_of_eq g17.symm)
  have ne_b12_b17 : b12 ≠ b17 := Nat.ne_of_lt (Nat.lt_of_lt_of_le Dn15.lt (Nat.le_of_eq g17.symm))
  have O17 := O15.ext E17
  have S1_E17 := S1_Kc15.ext E17
  have S2_E17 := S2_Kc15.ext E17
  have S4_E17 := S4_Kc15.ext E17
  have Dg_b12_E17 := Dn15.ext E17
  have Zs17 : n0 ≤ h17.size := Nat.le_trans Zs15 E17.1
  have Flines_b17 : Fld Z h17 b17 "com/example/keelson/keelson/bench/LineDigest" "lines" "J" (.long (0 : Int64)) := D17 (Or.inl (hw _ (List.mem_of_getElem? (i := 96) rfl))) (ty := .long) (by decide)
  have Ffirst_b17 : Fld Z h17 b17 "com/example/keelson/keelson/bench/LineDigest" "first" "J" (.long (0 : Int64)) := D17 (Or.inl (hw _ (List.mem_of_getElem? (i := 98) rfl))) (ty := .long) (by decide)
  have Fsecond_b17 : Fld Z h17 b17 "com/example/keelson/keelson/bench/LineDigest" "second" "J" (.long (0 : Int64)) := D17 (Or.inl (hw _ (List.mem_of_getElem? (i := 105) rfl))) (ty := .long) (by decide)
  have sBb17 := szB16
  obtain ⟨_, _, ⟨T18, L18, k18, n18⟩, -, X18, ⟨Lc18, hQ18, l18, y18, z18⟩, st18⟩ := X17.specialBack hx (y := (⟨"com/example/keelson/keelson/bench/LineDigest", "<init>", "()V"⟩ : MethodName)) rfl hown (mvT hZ (hw _ (List.mem_of_getElem? (i := 47) rfl))) (mvT hZ (hw _ (List.mem_of_getElem? (i := 48) rfl))) (mvT hZ (hw _ (List.mem_of_getElem? (i := 49) rfl))) (by decide) (backOf (W := 1) (rmC l Z a0 hw [] b17 h17 n0 Zs17) hZ (hw _ (List.mem_of_getElem? (i := 49) rfl)) (hw _ (List.mem_of_getElem? (i := 46) rfl)) (by decide) (by decide)) (g := (mkF m 93 #[.val (.int p1), .val (.int p2), .val (.int p3), .val (.int p4), .val (.int (own_ch u1)), .val (.int (own_ch u2)), .val (.int (own_ch u3)), .val (.int (own_ch u4)), .val (.ref s2), .val (.ref b3), .val (.ref s10), .val (.ref b12), .unset, .unset, .unset, .unset, .unset, .unset] [(.ref b17), (.ref b17)])) rfl (by rw [hml]; rfl) (Steps.refl _) (a := b17) (argsL := []) (rest := [(.ref b17)]) (lenOf pd0_2 rfl) rfl (by show 2 * 0 + _ ≤ _; exact Nat.le_of_eq rfl) (hb hby at_93) (fun _ _ => ⟨rfl, e17, (by decide : 10 + 0 ≤ _), (by decide : 30 + 0 ≤ _)⟩)
  dsimp only [Pt.U, Pt.locs, Pt.cells, Pt.slots] at X18 l18 y18 z18 st18 hQ18
  subst l18 y18 z18
  obtain ⟨rfl, Nq18, e18⟩ := hQ18
  have N18 := Fr.app N15 Nq18
  have Dg_b17 : own_Dig Z h17 b17 (0 : Int64) (0 : Int64) (0 : Int64) := ⟨A17, Flines_b17, Ffirst_b17, Fsecond_b17⟩
  have gB_b17 : B ≤ b17 := Nat.le_trans sBb17 (Nat.le_of_eq g17.symm)
  have Exd19 := Dg_b17.1
  obtain ⟨cq19, kq19, q19a, q19b, q19c⟩ := isOf hZ e18 Dg_b17.1
  obtain ⟨_, _, ⟨T19, L19, k19, n19⟩, -, X19, ⟨Lc19, hQ19, l19, y19, z19⟩, st19⟩ := X18.virtualBack hx (y := (⟨"com/example/keelson/keelson/bench/LineDigest", "add", "(Ljava/lang/String;)V"⟩ : MethodName)) (z := (⟨"com/example/keelson/keelson/bench/LineDigest", "add", "(Ljava/lang/String;)V"⟩ : MethodName)) hown (mvT hZ (hw _ (List.mem_of_getElem? (i := 51) rfl))) (mvT hZ (hw _ (List.mem_of_getElem? (i := 52) rfl))) (notFace_of_selects (args := #[]) (mvT hZ (hw _ (List.mem_of_getElem? (i := 54) rfl)))) (mvT hZ (hw _ (List.mem_of_getElem? (i := 54) rfl))) (mvT hZ (hw _ (List.mem_of_getElem? (i := 53) rfl))) (by decide) (backOf (W := 0) (rmE l Z a0 hw [] csx vF b17 b3 B [u2, u3] (0 : Int64) (0 : Int64) (0 : Int64) h17 n0 Zs17 St O17 (by simp) S2_E17 Dg_b17 gn_b17 gB_b17) hZ (hw _ (List.mem_of_getElem? (i := 55) rfl)) (hw _ (List.mem_of_getElem? (i := 46) rfl)) (by decide) (by decide)) q19a q19c (g := (mkF m 102 #[.val (.int p1), .val (.int p2), .val (.int p3), .val (.int p4), .val (.int (own_ch u1)), .val (.int (own_ch u2)), .val (.int (own_ch u3)), .val (.int (own_ch u4)), .val (.ref s2), .val (.ref b3), .val (.ref s10), .val (.ref b12), .val (.ref b17), .unset, .unset, .unset, .unset, .unset] [(.ref b3), (.ref b17)])) rfl (by rw [hml]; rfl) (Steps.refl _) (argsL := [(.ref b3)]) (rest := []) (lenOf pd0_3 rfl) rfl (by show 2 * 0 + _ ≤ _; exact Nat.le_of_eq rfl) (hb hby at_102) (fun _ _ => ⟨rfl, e18, (by decide : 10 + 0 ≤ _), (by decide : 30 + 0 ≤ _)⟩)
  dsimp only [Pt.U, Pt.locs, Pt.cells, Pt.slots] at X19 l19 y19 z19 st19 hQ19
  subst l19 y19 z19
  obtain ⟨rfl, Nq19, Kc19, Dn19⟩ := hQ19
  have N19 := Fr.app N18 Nq19
  have Zs19 : n0 ≤ T19.heap.size := Nat.le_trans Zs17 Kc19.1
  have S1_Kc19 := S1_E17.keep Kc19 (allS gB_b17 all0)
  have S2_Kc19 := S2_E17.keep Kc19 (allS gB_b17 all0)
  have S4_Kc19 := S4_E17.keep Kc19 (allS gB_b17 all0)
  have Dg_b12_Kc19 := Dg_b12_E17.keep Kc19 (ninS ne_b12_b17 nin0)
  have O19 := O17.keep Kc19 (allS gn_b17 all0)
  have Exd20 := Dn19.1
  obtain ⟨cq20, kq20, q20a, q20b, q20c⟩ := isOf hZ rfl Dn19.1
  obtain ⟨_, _, ⟨T20, L20, k20, n20⟩, -, X20, ⟨Lc20, hQ20, l20, y20, z20⟩, st20⟩ := X19.virtualBack hx (y := (⟨"com/example/keelson/keelson/bench/LineDigest", "add", "(Ljava/lang/String;)V"⟩ : MethodName)) (z := (⟨"com/example/keelson/keelson/bench/LineDigest", "add", "(Ljava/lang/String;)V"⟩ : MethodName)) hown (mvT hZ (hw _ (List.mem_of_getElem? (i := 51) rfl))) (mvT hZ (hw _ (List.mem_of_getElem? (i := 52) rfl))) (notFace_of_selects (args := #[]) (mvT hZ (hw _ (List.mem_of_getElem? (i := 54) rfl)))) (mvT hZ (hw _ (List.mem_of_getElem? (i := 54) rfl))) (mvT hZ (hw _ (List.mem_of_getElem? (i := 53) rfl))) (by decide) (backOf (W := 0) (rmE l Z a0 hw [] csx vF b17 s2 B [u1] ((0 : Int64) + 1) ((0 : Int64) + own_F [u2, u3]) ((0 : Int64) + own_G [u2, u3]) T19.heap n0 Zs19 St O19 (by simp) S1_Kc19 Dn19 gn_b17 gB_b17) hZ (hw _ (List.mem_of_getElem? (i := 55) rfl)) (hw _ (List.mem_of_getElem? (i := 46) rfl)) (by decide) (by decide)) q20a q20c (g := (mkF m 109 #[.val (.int p1), .val (.int p2), .val (.int p3), .val (.int p4), .val (.int (own_ch u1)), .val (.int (own_ch u2)), .val (.int (own_ch u3)), .val (.int (own_ch u4)), .val (.ref s2), .val (.ref b3), .val (.ref s10), .val (.ref b12), .val (.ref b17), .unset, .unset, .unset, .unset, .unset] [(.ref s2), (.ref b17)])) rfl (by rw [hml]; rfl) (Steps.refl _) (argsL := [(.ref s2)]) (rest := []) (lenOf pd0_3 rfl) rfl (by show 2 * 0 + _ ≤ _; exact Nat.le_of_eq rfl) (hb hby at_109) (fun _ _ => ⟨rfl, rfl, (by decide : 10 + 0 ≤ _), (by decide : 30 + 0 ≤ _)⟩)
  dsimp only [Pt.U, Pt.locs, Pt.cells, Pt.slots] at X20 l20 y20 z20 st20 hQ20
  subst l20 y20 z20
  obtain ⟨rfl, Nq20, Kc20, Dn20⟩ := hQ20
  have N20 := Fr.app N19 Nq20
  have Zs20 : n0 ≤ T20.heap.size := Nat.le_trans Zs19 Kc20.1
  have S1_Kc20 := S1_Kc19.keep Kc20 (allS gB_b17 all0)
  have S2_Kc20 := S2_Kc19.keep Kc20 (allS gB_b17 all0)
  have S4_Kc20 := S4_Kc19.keep Kc20 (allS gB_b17 all0)
  have Dg_b12_Kc20 := Dg_b12_Kc19.keep Kc20 (ninS ne_b12_b17 nin0)
  have O20 := O19.keep Kc20 (allS gn_b17 all0)
  have szB21 : B ≤ T20.heap.size := (Nat.le_trans (Nat.le_trans (Nat.le_trans szB16 E17.1) Kc19.1) Kc20.1)
  obtain ⟨T22, h22, X22, e22, E22, A22, D22, -, st22⟩ := newO X20 hx hZ hown (hw _ (List.mem_of_getElem? (i := 44) rfl)) (hw _ (List.mem_of_getElem? (i := 45) rfl)) (hw _ (List.mem_of_getElem? (i := 46) rfl)) rfl (g := (mkF m 112 #[.val (.int p1), .val (.int p2), .val (.int p3), .val (.int p4), .val (.int (own_ch u1)), .val (.int (own_ch u2)), .val (.int (own_ch u3)), .val (.int (own_ch u4)), .val (.ref s2), .val (.ref b3), .val (.ref s10), .val (.ref b12), .val (.ref b17), .unset, .unset, .unset, .unset, .unset] [])) rfl (hb hby at_112) (by decide) (by decide)
  obtain ⟨b22, g22⟩ : ∃ z, z = T20.heap.size := ⟨_, rfl⟩
  rw [← g22] at A22 D22 st22
  have gn_b22 : n0 ≤ b22 := Nat.le_trans Zs20 (Nat.le_of_eq g22.symm)
  have ne_b12_b22 : b12 ≠ b22 := Nat.ne_of_lt (Nat.lt_of_lt_of_le Dg_b12_Kc20.lt (Nat.le_of_eq g22.symm))
  have ne_b17_b22 : b17 ≠ b22 := Nat.ne_of_lt (Nat.lt_of_lt_of_le Dn20.lt (Nat.le_of_eq g22.symm))
  have O22 := O20.ext E22
  have S1_E22 := S1_Kc20.ext E22
  have S2_E22 := S2_Kc20.ext E22
  have S4_E22 := S4_Kc20.ext E22
  have Dg_b12_E22 := Dg_b12_Kc20.ext E22
  have Dg_b17_E22 := Dn20.ext E22
  have Zs22 : n0 ≤ h22.size := Nat.le_trans Zs20 E22.1
  have Flines_b22 : Fld Z h22 b22 "com/example/keelson/keelson/bench/LineDigest" "lines" "J" (.long (0 : Int64)) := D22 (Or.inl (hw _ (List.mem_of_getElem? (i := 96) rfl))) (ty := .long) (by decide)
  have Ffirst_b22 : Fld Z h22 b22 "com/example/keelson/keelson/bench/LineDigest" "first" "J" (.long (0 : Int64)) := D22 (Or.inl (hw _ (List.mem_of_getElem? (i := 98) rfl))) (ty := .long) (by decide)
  have Fsecond_b22 : Fld Z h22 b22 "com/example/keelson/keelson/bench/LineDigest" "second" "J" (.long (0 : Int64)) := D22 (Or.inl (hw _ (List.mem_of_getElem? (i := 105) rfl))) (ty := .long) (by decide)
  have sBb22 := szB21
  obtain ⟨_, _, ⟨T23, L23, k23, n23⟩, -, X23, ⟨Lc23, hQ23, l23, y23, z23⟩, st23⟩ := X22.specialBack hx (y := (⟨"com/example/keelson/keelson/bench/LineDigest", "<init>", "()V"⟩ : MethodName)) rfl hown (mvT hZ (hw _ (List.mem_of_getElem? (i := 47) rfl))) (mvT hZ (hw _ (List.mem_of_getElem? (i := 48) rfl))) (mvT hZ (hw _ (List.mem_of_getElem? (i := 49) rfl))) (by decide) (backOf (W := 1) (rmC l Z a0 hw [] b22 h22 n0 Zs22) hZ (hw _ (List.mem_of_getElem? (i := 49) rfl)) (hw _ (List.mem_of_getElem? (i := 46) rfl)) (by decide) (by decide)) (g := (mkF m 116 #[.val (.int p1), .val (.int p2), .val (.int p3), .val (.int p4), .val (.int (own_ch u1)), .val (.int (own_ch u2)), .val (.int (own_ch u3)), .val (.int (own_ch u4)), .val (.ref s2), .val (.ref b3), .val (.ref s10), .val (.ref b12), .val (.ref b17), .unset, .unset, .unset, .unset, .unset] [(.ref b22), (.ref b22)])) rfl (by rw [hml]; rfl) (Steps.refl _) (a := b22) (argsL := []) (rest := [(.ref b22)]) (lenOf pd0_2 rfl) rfl (by show 2 * 0 + _ ≤ _; exact Nat.le_of_eq rfl) (hb hby at_116) (fun _ _ => ⟨rfl, e22, (by decide : 11 + 0 ≤ _), (by decide : 33 + 0 ≤ _)⟩)
  dsimp only [Pt.U, Pt.locs, Pt.cells, Pt.slots] at X23 l23 y23 z23 st23 hQ23
  subst l23 y23 z23
  obtain ⟨rfl, Nq23, e23⟩ := hQ23
  have N23 := Fr.app N20 Nq23
  have Dg_b22 : own_Dig Z h22 b22 (0 : Int64) (0 : Int64) (0 : Int64) := ⟨A22, Flines_b22, Ffirst_b22, Fsecond_b22⟩
  have gB_b22 : B ≤ b22 := Nat.le_trans sBb22 (Nat.le_of_eq g22.symm)
  have Exd24 := Dg_b22.1
  obtain ⟨cq24, kq24, q24a, q24b, q24c⟩ := isOf hZ e23 Dg_b22.1
  obtain ⟨_, _, ⟨T24, L24, k24, n24⟩, -, X24, ⟨Lc24, hQ24, l24, y24, z24⟩, st24⟩ := X23.virtualBack hx (y := (⟨"com/example/keelson/keelson/bench/LineDigest", "add", "(Ljava/lang/String;)V"⟩ : MethodName)) (z := (⟨"com/example/keelson/keelson/bench/LineDigest", "add", "(Ljava/lang/String;)V"⟩ : MethodName)) hown (mvT hZ (hw _ (List.mem_of_getElem? (i := 51) rfl))) (mvT hZ (hw _ (List.mem_of_getElem? (i := 52) rfl))) (notFace_of_selects (args := #[]) (mvT hZ (hw _ (List.mem_of_getElem? (i := 54) rfl)))) (mvT hZ (hw _ (List.mem_of_getElem? (i := 54) rfl))) (mvT hZ (hw _ (List.mem_of_getElem? (i := 53) rfl))) (by decide) (backOf (W := 0) (rmE l Z a0 hw [] csx vF b22 s2 B [u1] (0 : Int64) (0 : Int64) (0 : Int64) h22 n0 Zs22 St O22 (by simp) S1_E22 Dg_b22 gn_b22 gB_b22) hZ (hw _ (List.mem_of_getElem? (i := 55) rfl)) (hw _ (List.mem_of_getElem? (i := 46) rfl)) (by decide) (by decide)) q24a q24c (g := (mkF m 125 #[.val (.int p1), .val (.int p2), .val (.int p3), .val (.int p4), .val (.int (own_ch u1)), .val (.int (own_ch u2)), .val (.int (own_ch u3)), .val (.int (own_ch u4)), .val (.ref s2), .val (.ref b3), .val (.ref s10), .val (.ref b12), .val (.ref b17), .val (.ref b22), .unset, .unset, .unset, .unset] [(.ref s2), (.ref b22)])) rfl (by rw [hml]; rfl) (Steps.refl _) (argsL := [(.ref s2)]) (rest := []) (lenOf pd0_3 rfl) rfl (by show 2 * 0 + _ ≤ _; exact Nat.le_of_eq rfl) (hb hby at_125) (fun _ _ => ⟨rfl, e23, (by decide : 11 + 0 ≤ _), (by decide : 33 + 0 ≤ _)⟩)
  dsimp only [Pt.U, Pt.locs, Pt.cells, Pt.slots] at X24 l24 y24 z24 st24 hQ24
  subst l24 y24 z24
  obtain ⟨rfl, Nq24, Kc24, Dn24⟩ := hQ24
  have N24 := Fr.app N23 Nq24
  have Zs24 : n0 ≤ T24.heap.size := Nat.le_trans Zs22 Kc24.1
  have S1_Kc24 := S1_E22.keep Kc24 (allS gB_b22 all0)
  have S2_Kc24 := S2_E22.keep Kc24 (allS gB_b22 all0)
  have S4_Kc24 := S4_E22.keep Kc24 (allS gB_b22 all0)
  have Dg_b12_Kc24 := Dg_b12_E22.keep Kc24 (ninS ne_b12_b22 nin0)
  have Dg_b17_Kc24 := Dg_b17_E22.keep Kc24 (ninS ne_b17_b22 nin0)
  have O24 := O22.keep Kc24 (allS gn_b22 all0)
  have szB25 : B ≤ T24.heap.size := (Nat.le_trans (Nat.le_trans szB21 E22.1) Kc24.1)
  obtain ⟨T26, h26, X26, e26, E26, A26, D26, -, st26⟩ := newO X24 hx hZ hown (hw _ (List.mem_of_getElem? (i := 44) rfl)) (hw _ (List.mem_of_getElem? (i := 45) rfl)) (hw _ (List.mem_of_getElem? (i := 46) rfl)) rfl (g := (mkF m 128 #[.val (.int p1), .val (.int p2), .val (.int p3), .val (.int p4), .val (.int (own_ch u1)), .val (.int (own_ch u2)), .val (.int (own_ch u3)), .val (.int (own_ch u4)), .val (.ref s2), .val (.ref b3), .val (.ref s10), .val (.ref b12), .val (.ref b17), .val (.ref b22), .unset, .unset, .unset, .unset] [])) rfl (hb hby at_128) (by decide) (by decide)
  obtain ⟨b26, g26⟩ : ∃ z, z = T24.heap.size := ⟨_, rfl⟩
  rw [← g26] at A26 D26 st26
  have gn_b26 : n0 ≤ b26 := Nat.le_trans Zs24 (Nat.le_of_eq g26.symm)
  have ne_b12_b26 : b12 ≠ b26 := Nat.ne_of_lt (Nat.lt_of_lt_of_le Dg_b12_Kc24.lt (Nat.le_of_eq g26.symm))
  have ne_b17_b26 : b17 ≠ b26 := Nat.ne_of_lt (Nat.lt_of_lt_of_le Dg_b17_Kc24.lt (Nat.le_of_eq g26.symm))
  have ne_b22_b26 : b22 ≠ b26 := Nat.ne_of_lt (Nat.lt_of_lt_of_le Dn24.lt (Nat.le_of_eq g26.symm))
  have O26 := O24.ext E26
  have S1_E26 := S1_Kc24.ext E26
  have S2_E26 := S2_Kc24.ext E26
  have S4_E26 := S4_Kc24.ext E26
  have Dg_b12_E26 := Dg_b12_Kc24.ext E26
  have Dg_b17_E26 := Dg_b17_Kc24.ext E26
  have Dg_b22_E26 := Dn24.ext E26
  have Zs26 : n0 ≤ h26.size := Nat.le_trans Zs24 E26.1
  have Flines_b26 : Fld Z h26 b26 "com/example/keelson/keelson/bench/LineDigest" "lines" "J" (.long (0 : Int64)) := D26 (Or.inl (hw _ (List.mem_of_getElem? (i := 96) rfl))) (ty := .long) (by decide)
  have Ffirst_b26 : Fld Z h26 b26 "com/example/keelson/keelson/bench/LineDigest" "first" "J" (.long (0 : Int64)) := D26 (Or.inl (hw _ (List.mem_of_getElem? (i := 98) rfl))) (ty := .long) (by decide)
  have Fsecond_b26 : Fld Z h26 b26 "com/example/keelson/keelson/bench/LineDigest" "second" "J" (.long (0 : Int64)) := D26 (Or.inl (hw _ (List.mem_of_getElem? (i := 105) rfl))) (ty := .long) (by decide)
  have sBb26 := szB25
  obtain ⟨_, _, ⟨T27, L27, k27, n27⟩, -, X27, ⟨Lc27, hQ27, l27, y27, z27⟩, st27⟩ := X26.specialBack hx (y := (⟨"com/example/keelson/keelson/bench/LineDigest", "<init>", "()V"⟩ : MethodName)) rfl hown (mvT hZ (hw _ (List.mem_of_getElem? (i := 47) rfl))) (mvT hZ (hw _ (List.mem_of_getElem? (i := 48) rfl))) (mvT hZ (hw _ (List.mem_of_getElem? (i := 49) rfl))) (by decide) (backOf (W := 1) (rmC l Z a0 hw [] b26 h26 n0 Zs26) hZ (hw _ (List.mem_of_getElem? (i := 49) rfl)) (hw _ (List.mem_of_getElem? (i := 46) rfl)) (by decide) (by decide)) (g := (mkF m 132 #[.val (.int p1), .val (.int p2), .val (.int p3), .val (.int p4), .val (.int (own_ch u1)), .val (.int (own_ch u2)), .val (.int (own_ch u3)), .val (.int (own_ch u4)), .val (.ref s2), .val (.ref b3), .val (.ref s10), .val (.ref b12), .val (.ref b17), .val (.ref b22), .unset, .unset, .unset, .unset] [(.ref b26), (.ref b26)])) rfl (by rw [hml]; rfl) (Steps.refl _) (a := b26) (argsL := []) (rest := [(.ref b26)]) (lenOf pd0_2 rfl) rfl (by show 2 * 0 + _ ≤ _; exact Nat.le_of_eq rfl) (hb hby at_132) (fun _ _ => ⟨rfl, e26, (by decide : 12 + 0 ≤ _), (by decide : 36 + 0 ≤ _)⟩)
  dsimp only [Pt.U, Pt.locs, Pt.cells, Pt.slots] at X27 l27 y27 z27 st27 hQ27
  subst l27 y27 z27
  obtain ⟨rfl, Nq27, e27⟩ := hQ27
  have N27 := Fr.app N24 Nq27
  have Dg_b26 : own_Dig Z h26 b26 (0 : Int64) (0 : Int64) (0 : Int64) := ⟨A26, Flines_b26, Ffirst_b26, Fsecond_b26⟩
  have gB_b26 : B ≤ b26 := Nat.le_trans sBb26 (Nat.le_of_eq g26.symm)
  have Exd28 := Dg_b26.1
  obtain ⟨cq28, kq28, q28a, q28b, q28c⟩ := isOf hZ e27 Dg_b26.1
  obtain ⟨_, _, ⟨T28, L28, k28, n28⟩, -, X28, ⟨Lc28, hQ28, l28, y28, z28⟩, st28⟩ := X27.virtualBack hx (y := (⟨"com/example/keelson/keelson/bench/LineDigest", "add", "(Ljava/lang/String;)V"⟩ : MethodName)) (z := (⟨"com/example/keelson/keelson/bench/LineDigest", "add", "(Ljava/lang/String;)V"⟩ : MethodName)) hown (mvT hZ (hw _ (List.mem_of_getElem? (i := 51) rfl))) (mvT hZ (hw _ (List.mem_of_getElem? (i := 52) rfl))) (notFace_of_selects (args := #[]) (mvT hZ (hw _ (List.mem_of_getElem? (i := 54) rfl)))) (mvT hZ (hw _ (List.mem_of_getElem? (i := 54) rfl))) (mvT hZ (hw _ (List.mem_of_getElem? (i := 53) rfl))) (by decide) (backOf (W := 0) (rmE l Z a0 hw [] csx vF b26 s10 B [u4] (0 : Int64) (0 : Int64) (0 : Int64) h26 n0 Zs26 St O26 (by simp) S4_E26 Dg_b26 gn_b26 gB_b26) hZ (hw _ (List.mem_of_getElem? (i := 55) rfl)) (hw _ (List.mem_of_getElem? (i := 46) rfl)) (by decide) (by decide)) q28a q28c (g := (mkF m 141 #[.val (.int p1), .val (.int p2), .val (.int p3), .val (.int p4), .val (.int (own_ch u1)), .val (.int (own_ch u2)), .val (.int (own_ch u3)), .val (.int (own_ch u4)), .val (.ref s2), .val (.ref b3), .val (.ref s10), .val (.ref b12), .val (.ref b17), .val (.ref b22), .val (.ref b26), .unset, .unset, .unset] [(.ref s10), (.ref b26)])) rfl (by rw [hml]; rfl) (Steps.refl _) (argsL := [(.ref s10)]) (rest := []) (lenOf pd0_3 rfl) rfl (by show 2 * 0 + _ ≤ _; exact Nat.le_of_eq rfl) (hb hby at_141) (fun _ _ => ⟨rfl, e27, (by decide : 12 + 0 ≤ _), (by decide : 36 + 0 ≤ _)⟩)
  dsimp only [Pt.U, Pt.locs, Pt.cells, Pt.slots] at X28 l28 y28 z28 st28 hQ28
  subst l28 y28 z28
  obtain ⟨rfl, Nq28, Kc28, Dn28⟩ := hQ28
  have N28 := Fr.app N27 Nq28
  have Zs28 : n0 ≤ T28.heap.size := Nat.le_trans Zs26 Kc28.1
  have S1_Kc28 := S1_E26.keep Kc28 (allS gB_b26 all0)
  have S2_Kc28 := S2_E26.keep Kc28 (allS gB_b26 all0)
  have S4_Kc28 := S4_E26.keep Kc28 (allS gB_b26 all0)
  have Dg_b12_Kc28 := Dg_b12_E26.keep Kc28 (ninS ne_b12_b26 nin0)
  have Dg_b17_Kc28 := Dg_b17_E26.keep Kc28 (ninS ne_b17_b26 nin0)
  have Dg_b22_Kc28 := Dg_b22_E26.keep Kc28 (ninS ne_b22_b26 nin0)
  have O28 := O26.keep Kc28 (allS gn_b26 all0)
  obtain ⟨cq29, kq29, q29a, q29b, q29c⟩ := isOf hZ rfl Dg_b12_Kc28.1
  obtain ⟨_, _, ⟨T29, L29, k29, n29⟩, -, X29, ⟨Lc29, hQ29, l29, y29, z29⟩, st29⟩ := X28.virtualBack hx (y := (⟨"com/example/keelson/keelson/bench/LineDigest", "sameLines", "(Lcom/example/keelson/keelson/bench/LineDigest;)Z"⟩ : MethodName)) (z := (⟨"com/example/keelson/keelson/bench/LineDigest", "sameLines", "(Lcom/example/keelson/keelson/bench/LineDigest;)Z"⟩ : MethodName)) hown (mvT hZ (hw _ (List.mem_of_getElem? (i := 108) rfl))) (mvT hZ (hw _ (List.mem_of_getElem? (i := 109) rfl))) (notFace_of_selects (args := #[]) (mvT hZ (hw _ (List.mem_of_getElem? (i := 111) rfl)))) (mvT hZ (hw _ (List.mem_of_getElem? (i := 111) rfl))) (mvT hZ (hw _ (List.mem_of_getElem? (i := 110) rfl))) (by decide) (backOf (W := 0) (rmD l Z a0 hw [] b12 b17 (((0 : Int64) + 1) + 1) (((0 : Int64) + own_F [u1]) + own_F [u2, u3]) (((0 : Int64) + own_G [u1]) + own_G [u2, u3]) (((0 : Int64) + 1) + 1) (((0 : Int64) + own_F [u2, u3]) + own_F [u1]) (((0 : Int64) + own_G [u2, u3]) + own_G [u1]) T28.heap n0 Zs28 Dg_b12_Kc28 Dg_b17_Kc28) hZ (hw _ (List.mem_of_getElem? (i := 112) rfl)) (hw _ (List.mem_of_getElem? (i := 46) rfl)) (by decide) (by decide)) q29a q29c (g := (mkF m 148 #[.val (.int p1), .val (.int p2), .val (.int p3), .val (.int p4), .val (.int (own_ch u1)), .val (.int (own_ch u2)), .val (.int (own_ch u3)), .val (.int (own_ch u4)), .val (.ref s2), .val (.ref b3), .val (.ref s10), .val (.ref b12), .val (.ref b17), .val (.ref b22), .val (.ref b26), .unset, .unset, .unset] [(.ref b17), (.ref b12)])) rfl (by rw [hml]; rfl) (Steps.refl _) (argsL := [(.ref b17)]) (rest := []) (lenOf pd0_4 rfl) rfl (by show 2 * 0 + _ ≤ _; exact Nat.le_of_eq rfl) (hb hby at_148) (fun _ _ => ⟨rfl, rfl, (by decide : 12 + 0 ≤ _), (by decide : 36 + 0 ≤ _)⟩)
  dsimp only [Pt.U, Pt.locs, Pt.cells, Pt.slots] at X29 l29 y29 z29 st29 hQ29
  subst l29 y29 z29
  obtain ⟨rfl, Nq29, e29⟩ := hQ29
  have N29 := Fr.app N28 Nq29
  rw [show own_same (((0 : Int64) + 1) + 1) (((0 : Int64) + own_F [u1]) + own_F [u2, u3]) (((0 : Int64) + own_G [u1]) + own_G [u2, u3]) (((0 : Int64) + 1) + 1) (((0 : Int64) + own_F [u2, u3]) + own_F [u1]) (((0 : Int64) + own_G [u2, u3]) + own_G [u1]) = 1 from by rw [own_same, if_pos ⟨rfl, own_cm _ _, own_cm _ _⟩]] at st29
  obtain ⟨cq30, kq30, q30a, q30b, q30c⟩ := isOf hZ e29 Dg_b17_Kc28.1
  obtain ⟨_, _, ⟨T30, L30, k30, n30⟩, -, X30, ⟨Lc30, hQ30, l30, y30, z30⟩, st30⟩ := X29.virtualBack hx (y := (⟨"com/example/keelson/keelson/bench/LineDigest", "sameLines", "(Lcom/example/keelson/keelson/bench/LineDigest;)Z"⟩ : MethodName)) (z := (⟨"com/example/keelson/keelson/bench/LineDigest", "sameLines", "(Lcom/example/keelson/keelson/bench/LineDigest;)Z"⟩ : MethodName)) hown (mvT hZ (hw _ (List.mem_of_getElem? (i := 108) rfl))) (mvT hZ (hw _ (List.mem_of_getElem? (i := 109) rfl))) (notFace_of_selects (args := #[]) (mvT hZ (hw _ (List.mem_of_getElem? (i := 111) rfl)))) (mvT hZ (hw _ (List.mem_of_getElem? (i := 111) rfl))) (mvT hZ (hw _ (List.mem_of_getElem? (i := 110) rfl))) (by decide) (backOf (W := 0) (rmD l Z a0 hw [] b17 b12 (((0 : Int64) + 1) + 1) (((0 : Int64) + own_F [u2, u3]) + own_F [u1]) (((0 : Int64) + own_G [u2, u3]) + own_G [u1]) (((0 : Int64) + 1) + 1) (((0 : Int64) + own_F [u1]) + own_F [u2, u3]) (((0 : Int64) + own_G [u1]) + own_G [u2, u3]) T28.heap n0 Zs28 Dg_b17_Kc28 Dg_b12_Kc28) hZ (hw _ (List.mem_of_getElem? (i := 112) rfl)) (hw _ (List.mem_of_getElem? (i := 46) rfl)) (by decide) (by decide)) q30a q30c (g := (mkF m 158 #[.val (.int p1), .val (.int p2), .val (.int p3), .val (.int p4), .val (.int (own_ch u1)), .val (.int (own_ch u2)), .val (.int (own_ch u3)), .val (.int (own_ch u4)), .val (.ref s2), .val (.ref b3), .val (.ref s10), .val (.ref b12), .val (.ref b17), .val (.ref b22), .val (.ref b26), .unset, .unset, .unset] [(.ref b12), (.ref b17)])) rfl (by rw [hml]; rfl) (Steps.refl _) (argsL := [(.ref b12)]) (rest := []) (lenOf pd0_4 rfl) rfl (by show 2 * 0 + _ ≤ _; exact Nat.le_of_eq rfl) (hb hby at_158) (fun _ _ => ⟨rfl, e29, (by decide : 12 + 0 ≤ _), (by decide : 36 + 0 ≤ _)⟩)
  dsimp only [Pt.U, Pt.locs, Pt.cells, Pt.slots] at X30 l30 y30 z30 st30 hQ30
  subst l30 y30 z30
  obtain ⟨rfl, Nq30, e30⟩ := hQ30
  have N30 := Fr.app N29 Nq30
  rw [show own_same (((0 : Int64) + 1) + 1) (((0 : Int64) + own_F [u2, u3]) + own_F [u1]) (((0 : Int64) + own_G [u2, u3]) + own_G [u1]) (((0 : Int64) + 1) + 1) (((0 : Int64) + own_F [u1]) + own_F [u2, u3]) (((0 : Int64) + own_G [u1]) + own_G [u2, u3]) = 1 from by rw [own_same, if_pos ⟨rfl, own_cm _ _, own_cm _ _⟩]] at st30
  obtain ⟨cq31, kq31, q31a, q31b, q31c⟩ := isOf hZ e30 Dg_b12_Kc28.1
  obtain ⟨_, _, ⟨T31, L31, k31, n31⟩, -, X31, ⟨Lc31, hQ31, l31, y31, z31⟩, st31⟩ := X30.virtualBack hx (y := (⟨"com/example/keelson/keelson/bench/LineDigest", "sameLines", "(Lcom/example/keelson/keelson/bench/LineDigest;)Z"⟩ : MethodName)) (z := (⟨"com/example/keelson/keelson/bench/LineDigest", "sameLines", "(Lcom/example/keelson/keelson/bench/LineDigest;)Z"⟩ : MethodName)) hown (mvT hZ (hw _ (List.mem_of_getElem? (i := 108) rfl))) (mvT hZ (hw _ (List.mem_of_getElem? (i := 109) rfl))) (notFace_of_selects (args := #[]) (mvT hZ (hw _ (List.mem_of_getElem? (i := 111) rfl)))) (mvT hZ (hw _ (List.mem_of_getElem? (i := 111) rfl))) (mvT hZ (hw _ (List.mem_of_getElem? (i := 110) rfl))) (by decide) (backOf (W := 0) (rmD l Z a0 hw [] b12 b22 (((0 : Int64) + 1) + 1) (((0 : Int64) + own_F [u1]) + own_F [u2, u3]) (((0 : Int64) + own_G [u1]) + own_G [u2, u3]) ((0 : Int64) + 1) ((0 : Int64) + own_F [u1]) ((0 : Int64) + own_G [u1]) T28.heap n0 Zs28 Dg_b12_Kc28 Dg_b22_Kc28) hZ (hw _ (List.mem_of_getElem? (i := 112) rfl)) (hw _ (List.mem_of_getElem? (i := 46) rfl)) (by decide) (by decide)) q31a q31c (g := (mkF m 175 #[.val (.int p1), .val (.int p2), .val (.int p3), .val (.int p4), .val (.int (own_ch u1)), .val (.int (own_ch u2)), .val (.int (own_ch u3)), .val (.int (own_ch u4)), .val (.ref s2), .val (.ref b3), .val (.ref s10), .val (.ref b12), .val (.ref b17), .val (.ref b22), .val (.ref b26), .val (.int (1 : Int32)), .unset, .unset] [(.ref b22), (.ref b12)])) rfl (by rw [hml]; rfl) (Steps.refl _) (argsL := [(.ref b22)]) (rest := []) (lenOf pd0_4 rfl) rfl (by show 2 * 0 + _ ≤ _; exact Nat.le_of_eq rfl) (hb hby at_175) (fun _ _ => ⟨rfl, e30, (by decide : 12 + 0 ≤ _), (by decide : 36 + 0 ≤ _)⟩)
  dsimp only [Pt.U, Pt.locs, Pt.cells, Pt.slots] at X31 l31 y31 z31 st31 hQ31
  subst l31 y31 z31
  obtain ⟨rfl, Nq31, e31⟩ := hQ31
  have N31 := Fr.app N30 Nq31
  rw [show own_same (((0 : Int64) + 1) + 1) (((0 : Int64) + own_F [u1]) + own_F [u2, u3]) (((0 : Int64) + own_G [u1]) + own_G [u2, u3]) ((0 : Int64) + 1) ((0 : Int64) + own_F [u1]) ((0 : Int64) + own_G [u1]) = 0 from by rw [own_same, if_neg (fun q => absurd q.1 (by decide))]] at st31
  by_cases hcc : own_ch u1 = own_ch u4
  · have h14 : u1 = u4 := own_ch_inj hcc
    have hF14 : own_F [u1] = own_F [u4] := by rw [h14]
    have hG14 : own_G [u1] = own_G [u4] := by rw [h14]
    obtain ⟨cq32, kq32, q32a, q32b, q32c⟩ := isOf hZ e31 Dg_b22_Kc28.1
    obtain ⟨_, _, ⟨T32, L32, k32, n32⟩, -, X32, ⟨Lc32, hQ32, l32, y32, z32⟩, st32⟩ := X31.virtualBack hx (y := (⟨"com/example/keelson/keelson/bench/LineDigest", "sameLines", "(Lcom/example/keelson/keelson/bench/LineDigest;)Z"⟩ : MethodName)) (z := (⟨"com/example/keelson/keelson/bench/LineDigest", "sameLines", "(Lcom/example/keelson/keelson/bench/LineDigest;)Z"⟩ : MethodName)) hown (mvT hZ (hw _ (List.mem_of_getElem? (i := 108) rfl))) (mvT hZ (hw _ (List.mem_of_getElem? (i := 109) rfl))) (notFace_of_selects (args := #[]) (mvT hZ (hw _ (List.mem_of_getElem? (i := 111) rfl)))) (mvT hZ (hw _ (List.mem_of_getElem? (i := 111) rfl))) (mvT hZ (hw _ (List.mem_of_getElem? (i := 110) rfl))) (by decide) (backOf (W := 0) (rmD l Z a0 hw [] b22 b26 ((0 : Int64) + 1) ((0 : Int64) + own_F [u1]) ((0 : Int64) + own_G [u1]) ((0 : Int64) + 1) ((0 : Int64) + own_F [u4]) ((0 : Int64) + own_G [u4]) T28.heap n0 Zs28 Dg_b22_Kc28 Dn28) hZ (hw _ (List.mem_of_getElem? (i := 112) rfl)) (hw _ (List.mem_of_getElem? (i := 46) rfl)) (by decide) (by decide)) q32a q32c (g := (mkF m 192 #[.val (.int p1), .val (.int p2), .val (.int p3), .val (.int p4), .val (.int (own_ch u1)), .val (.int (own_ch u2)), .val (.int (own_ch u3)), .val (.int (own_ch u4)), .val (.ref s2), .val (.ref b3), .val (.ref s10), .val (.ref b12), .val (.ref b17), .val (.ref b22), .val (.ref b26), .val (.int (1 : Int32)), .val (.int (1 : Int32)), .unset] [(.ref b26), (.ref b22)])) rfl (by rw [hml]; rfl) (Steps.refl _) (argsL := [(.ref b26)]) (rest := []) (lenOf pd0_4 rfl) rfl (by show 2 * 0 + _ ≤ _; exact Nat.le_of_eq rfl) (hb hby at_192) (fun _ _ => ⟨rfl, e31, (by decide : 12 + 0 ≤ _), (by decide : 36 + 0 ≤ _)⟩)
    dsimp only [Pt.U, Pt.locs, Pt.cells, Pt.slots] at X32 l32 y32 z32 st32 hQ32
    subst l32 y32 z32
    obtain ⟨rfl, Nq32, e32⟩ := hQ32
    have N32 := Fr.app N31 Nq32
    rw [show own_same ((0 : Int64) + 1) ((0 : Int64) + own_F [u1]) ((0 : Int64) + own_G [u1]) ((0 : Int64) + 1) ((0 : Int64) + own_F [u4]) ((0 : Int64) + own_G [u4]) = 1 from by rw [own_same, if_pos ⟨rfl, by rw [hF14], by rw [hG14]⟩]] at st32
    obtain ⟨fs, hr, hrun, hended, hW, hsame⟩ := X32.leave (v := some (.int (1 : Int32))) (fun h => by rw [Bd.returns] at h; cases h)
    refine ⟨_, _, pre0 _ ?_, hrun, hended, _, _, rfl, ?_, ⟨_, rfl⟩, hW, hsame.mono (by decide) (by decide)⟩
    · show Steps p.tables e below (s₁.setTop (mkF m 0 #[.val (.int p1), .val (.int p2), .val (.int p3), .val (.int p4), .unset, .unset, .unset, .unset, .unset, .unset, .unset, .unset, .unset, .unset, .unset, .unset, .unset, .unset] [])) _
      refine XS.iloadN X0.here hx rfl (hb hby at_0) rfl ?_
      show Steps p.tables e below (s₁.setTop (mkF m 1 #[.val (.int p1), .val (.int p2), .val (.int p3), .val (.int p4), .unset, .unset, .unset, .unset, .unset, .unset, .unset, .unset, .unset, .unset, .unset, .unset, .unset, .unset] [(.int p1)])) _
      refine XS.i2c X0.here hx rfl (hb hby at_1) rfl ?_
      show Steps p.tables e below (s₁.setTop (mkF m 2 #[.val (.int p1), .val (.int p2), .val (.int p3), .val (.int p4), .unset, .unset, .unset, .unset, .unset, .unset, .unset, .unset, .unset, .unset, .unset, .unset, .unset, .unset] [(.int (p1.toUInt32.toUInt16.toUInt32.toInt32))])) _
      rw [show p1.toUInt32.toUInt16.toUInt32.toInt32 = own_ch u1 from by rw [hu1]; rfl]
      show Steps p.tables e below (s₁.setTop (mkF m 2 #[.val (.int p1), .val (.int p2), .val (.int p3), .val (.int p4), .unset, .unset, .unset, .unset, .unset, .unset, .unset, .unset, .unset, .unset, .unset, .unset, .unset, .unset] [(.int (own_ch u1))])) _
      refine XS.istore X0.here hx rfl (hb hby at_2) rfl (l' := #[.val (.int p1), .val (.int p2), .val (.int p3), .val (.int p4), .val (.int (own_ch u1)), .unset, .unset, .unset, .unset, .unset, .unset, .unset, .unset, .unset, .unset, .unset, .unset, .unset]) rfl ?_
      show Steps p.tables e below (s₁.setTop (mkF m 4 #[.val (.int p1), .val (.int p2), .val (.int p3), .val (.int p4), .val (.int (own_ch u1)), .unset, .unset, .unset, .unset, .unset, .unset, .unset, .unset, .unset, .unset, .unset, .unset, .unset] [])) _
      refine XS.iloadN X0.here hx rfl (hb hby at_4) rfl ?_
      show Steps p.tables e below (s₁.setTop (mkF m 5 #[.val (.int p1), .val (.int p2), .val (.int p3), .val (.int p4), .val (.int (own_ch u1)), .unset, .unset, .unset, .unset, .unset, .unset, .unset, .unset, .unset, .unset, .unset, .unset, .unset] [(.int p2)])) _
      refine XS.i2c X0.here hx rfl (hb hby at_5) rfl ?_
      show Steps p.tables e below (s₁.setTop (mkF m 6 #[.val (.int p1), .val (.int p2), .val (.int p3), .val (.int p4), .val (.int (own_ch u1)), .unset, .unset, .unset, .unset, .unset, .unset, .unset, .unset, .unset, .unset, .unset, .unset, .unset] [(.int (p2.toUInt32.toUInt16.toUInt32.toInt32))])) _
      rw [show p2.toUInt32.toUInt16.toUInt32.toInt32 = own_ch u2 from by rw [hu2]; rfl]
      show Steps p.tables e below (s₁.setTop (mkF m 6 #[.val (.int p1), .val (.int p2), .val (.int p3), .val (.int p4), .val (.int (own_ch u1)), .unset, .unset, .unset, .unset, .unset, .unset, .unset, .unset, .unset, .unset, .unset, .unset, .unset] [(.int (own_ch u2))])) _
      refine XS.istore X0.here hx rfl (hb hby at_6) rfl (l' := #[.val (.int p1), .val (.int p2), .val (.int p3), .val (.int p4), .val (.int (own_ch u1)), .val (.int (own_ch u2)), .unset, .unset, .unset, .unset, .unset, .unset, .unset, .unset, .unset, .unset, .unset, .unset]) rfl ?_
      show Steps p.tables e below (s₁.setTop (mkF m 8 #[.val (.int p1), .val (.int p2), .val (.int p3), .val (.int p4), .val (.int (own_ch u1)), .val (.int (own_ch u2)), .unset, .unset, .unset, .unset, .unset, .unset, .unset, .unset, .unset, .unset, .unset, .unset] [])) _
      refine XS.iloadN X0.here hx rfl (hb hby at_8) rfl ?_
      show Steps p.tables e below (s₁.setTop (mkF m 9 #[.val (.int p1), .val (.int p2), .val (.int p3), .val (.int p4), .val (.int (own_ch u1)), .val (.int (own_ch u2)), .unset, .unset, .unset, .unset, .unset, .unset, .unset, .unset, .unset, .unset, .unset, .unset] [(.int p3)])) _
      refine XS.i2c X0.here hx rfl (hb hby at_9) rfl ?_
      show Steps p.tables e below (s₁.setTop (mkF m 10 #[.val (.int p1), .val (.int p2), .val (.int p3), .val (.int p4), .val (.int (own_ch u1)), .val (.int (own_ch u2)), .unset, .unset, .unset, .unset, .unset, .unset, .unset, .unset, .unset, .unset, .unset, .unset] [(.int (p3.toUInt32.toUInt16.toUInt32.toInt32))])) _
      rw [show p3.toUInt32.toUInt16.toUInt32.toInt32 = own_ch u3 from by rw [hu3]; rfl]
      show Steps p.tables e below (s₁.setTop (mkF m 10 #[.val (.int p1), .val (.int p2), .val (.int p3), .val (.int p4), .val (.int (own_ch u1)), .val (.int (own_ch u2)), .unset, .unset, .unset, .unset, .unset, .unset, .unset, .unset, .unset, .unset, .unset, .unset] [(.int (own_ch u3))])) _
      refine XS.istore X0.here hx rfl (hb hby at_10) rfl (l' := #[.val (.int p1), .val (.int p2), .val (.int p3), .val (.int p4), .val (.int (own_ch u1)), .val (.int (own_ch u2)), .val (.int (own_ch u3)), .unset, .unset, .unset, .unset, .unset, .unset, .unset, .unset, .unset, .unset, .unset]) rfl ?_
      show Steps p.tables e below (s₁.setTop (mkF m 12 #[.val (.int p1), .val (.int p2), .val (.int p3), .val (.int p4), .val (.int (own_ch u1)), .val (.int (own_ch u2)), .val (.int (own_ch u3)), .unset, .unset, .unset, .unset, .unset, .unset, .unset, .unset, .unset, .unset, .unset] [])) _
      refine XS.iloadN X0.here hx rfl (hb hby at_12) rfl ?_
      show Steps p.tables e below (s₁.setTop (mkF m 13 #[.val (.int p1), .val (.int p2), .val (.int p3), .val (.int p4), .val (.int (own_ch u1)), .val (.int (own_ch u2)), .val (.int (own_ch u3)), .unset, .unset, .unset, .unset, .unset, .unset, .unset, .unset, .unset, .unset, .unset] [(.int p4)])) _
      refine XS.bipush X0.here hx rfl (hb hby at_13) ?_
      show Steps p.tables e below (s₁.setTop (mkF m 15 #[.val (.int p1), .val (.int p2), .val (.int p3), .val (.int p4), .val (.int (own_ch u1)), .val (.int (own_ch u2)), .val (.int (own_ch u3)), .unset, .unset, .unset, .unset, .unset, .unset, .unset, .unset, .unset, .unset, .unset] [(.int (16 : Int32)), (.int p4)])) _
      refine XS.iushr X0.here hx rfl (hb hby at_15) rfl ?_
      show Steps p.tables e below (s₁.setTop (mkF m 16 #[.val (.int p1), .val (.int p2), .val (.int p3), .val (.int p4), .val (.int (own_ch u1)), .val (.int (own_ch u2)), .val (.int (own_ch u3)), .unset, .unset, .unset, .unset, .unset, .unset, .unset, .unset, .unset, .unset, .unset] [(.int ((p4.toUInt32 >>> ((16 : Int32) &&& 31).toUInt32).toInt32))])) _
      refine XS.iconst X0.here hx rfl (hb hby at_16) ?_
      show Steps p.tables e below (s₁.setTop (mkF m 17 #[.val (.int p1), .val (.int p2), .val (.int p3), .val (.int p4), .val (.int (own_ch u1)), .val (.int (own_ch u2)), .val (.int (own_ch u3)), .unset, .unset, .unset, .unset, .unset, .unset, .unset, .unset, .unset, .unset, .unset] [(.int (1 : Int32)), (.int ((p4.toUInt32 >>> ((16 : Int32) &&& 31).toUInt32).toInt32))])) _
      refine XS.iand X0.here hx rfl (hb hby at_17) rfl ?_
      show Steps p.tables e below (s₁.setTop (mkF m 18 #[.val (.int p1), .val (.int p2), .val (.int p3), .val (.int p4), .val (.int (own_ch u1)), .val (.int (own_ch u2)), .val (.int (own_ch u3)), .unset, .unset, .unset, .unset, .unset, .unset, .unset, .unset, .unset, .unset, .unset] [(.int (((p4.toUInt32 >>> ((16 : Int32) &&& 31).toUInt32).toInt32) &&& (1 : Int32)))])) _
      refine st1 _ ?_
      show Steps p.tables e below (s₁.setTop (mkF m 28 #[.val (.int p1), .val (.int p2), .val (.int p3), .val (.int p4), .val (.int (own_ch u1)), .val (.int (own_ch u2)), .val (.int (own_ch u3)), .unset, .unset, .unset, .unset, .unset, .unset, .unset, .unset, .unset, .unset, .unset] [(.int (own_ch u4))])) _
      refine XS.istore X0.here hx rfl (hb hby at_28) rfl (l' := #[.val (.int p1), .val (.int p2), .val (.int p3), .val (.int p4), .val (.int (own_ch u1)), .val (.int (own_ch u2)), .val (.int (own_ch u3)), .val (.int (own_ch u4)), .unset, .unset, .unset, .unset, .unset, .unset, .unset, .unset, .unset, .unset]) rfl ?_
      show Steps p.tables e below (s₁.setTop (mkF m 30 #[.val (.int p1), .val (.int p2), .val (.int p3), .val (.int p4), .val (.int (own_ch u1)), .val (.int (own_ch u2)), .val (.int (own_ch u3)), .val (.int (own_ch u4)), .unset, .unset, .unset, .unset, .unset, .unset, .unset, .unset, .unset, .unset] [])) _
      refine XS.iload X0.here hx rfl (hb hby at_30) rfl ?_
      show Steps p.tables e below (s₁.setTop (mkF m 32 #[.val (.int p1), .val (.int p2), .val (.int p3), .val (.int p4), .val (.int (own_ch u1)), .val (.int (own_ch u2)), .val (.int (own_ch u3)), .val (.int (own_ch u4)), .unset, .unset, .unset, .unset, .unset, .unset, .unset, .unset, .unset, .unset] [(.int (own_ch u1))])) _
      refine st2 _ ?_
      show Steps p.tables e below (T2.setTop (mkF m 35 #[.val (.int p1), .val (.int p2), .val (.int p3), .val (.int p4), .val (.int (own_ch u1)), .val (.int (own_ch u2)), .val (.int (own_ch u3)), .val (.int (own_ch u4)), .unset, .unset, .unset, .unset, .unset, .unset, .unset, .unset, .unset, .unset] [(.ref s2)])) _
      refine XS.astore X2.here hx rfl (hb hby at_35) rfl rfl (l' := #[.val (.int p1), .val (.int p2), .val (.int p3), .val (.int p4), .val (.int (own_ch u1)), .val (.int (own_ch u2)), .val (.int (own_ch u3)), .val (.int (own_ch u4)), .val (.ref s2), .unset, .unset, .unset, .unset, .unset, .unset, .unset, .unset, .unset]) rfl ?_
      show Steps p.tables e below (T2.setTop (mkF m 37 #[.val (.int p1), .val (.int p2), .val (.int p3), .val (.int p4), .val (.int (own_ch u1)), .val (.int (own_ch u2)), .val (.int (own_ch u3)), .val (.int (own_ch u4)), .val (.ref s2), .unset, .unset, .unset, .unset, .unset, .unset, .unset, .unset, .unset] [])) _
      refine st3 _ ?_
      show Steps p.tables e below (T3.setTop (mkF m 40 #[.val (.int p1), .val (.int p2), .val (.int p3), .val (.int p4), .val (.int (own_ch u1)), .val (.int (own_ch u2)), .val (.int (own_ch u3)), .val (.int (own_ch u4)), .val (.ref s2), .unset, .unset, .unset, .unset, .unset, .unset, .unset, .unset, .unset] [(.ref b3)])) _
      refine XS.dup X3.here hx rfl (hb hby at_40) rfl rfl ?_
      show Steps p.tables e below (T3.setTop (mkF m 41 #[.val (.int p1), .val (.int p2), .val (.int p3), .val (.int p4), .val (.int (own_ch u1)), .val (.int (own_ch u2)), .val (.int (own_ch u3)), .val (.int (own_ch u4)), .val (.ref s2), .unset, .unset, .unset, .unset, .unset, .unset, .unset, .unset, .unset] [(.ref b3), (.ref b3)])) _
      refine XS.iconst X3.here hx rfl (hb hby at_41) ?_
      show Steps p.tables e below (T3.setTop (mkF m 42 #[.val (.int p1), .val (.int p2), .val (.int p3), .val (.int p4), .val (.int (own_ch u1)), .val (.int (own_ch u2)), .val (.int (own_ch u3)), .val (.int (own_ch u4)), .val (.ref s2), .unset, .unset, .unset, .unset, .unset, .unset, .unset, .unset, .unset] [(.int (2 : Int32)), (.ref b3), (.ref b3)])) _
      refine st4 _ ?_
      show Steps p.tables e below (T4.setTop (mkF m 44 #[.val (.int p1), .val (.int p2), .val (.int p3), .val (.int p4), .val (.int (own_ch u1)), .val (.int (own_ch u2)), .val (.int (own_ch u3)), .val (.int (own_ch u4)), .val (.ref s2), .unset, .unset, .unset, .unset, .unset, .unset, .unset, .unset, .unset] [(.ref b4), (.ref b3), (.ref b3)])) _
      refine XS.dup X4.here hx rfl (hb hby at_44) rfl rfl ?_
      show Steps p.tables e below (T4.setTop (mkF m 45 #[.val (.int p1), .val (.int p2), .val (.int p3), .val (.int p4), .val (.int (own_ch u1)), .val (.int (own_ch u2)), .val (.int (own_ch u3)), .val (.int (own_ch u4)), .val (.ref s2), .unset, .unset, .unset, .unset, .unset, .unset, .unset, .unset, .unset] [(.ref b4), (.ref b4), (.ref b3), (.ref b3)])) _
      refine XS.iconst X4.here hx rfl (hb hby at_45) ?_
      show Steps p.tables e below (T4.setTop (mkF m 46 #[.val (.int p1), .val (.int p2), .val (.int p3), .val (.int p4), .val (.int (own_ch u1)), .val (.int (own_ch u2)), .val (.int (own_ch u3)), .val (.int (own_ch u4)), .val (.ref s2), .unset, .unset, .unset, .unset, .unset, .unset, .unset, .unset, .unset] [(.int (0 : Int32)), (.ref b4), (.ref b4), (.ref b3), (.ref b3)])) _
      refine XS.iload X4.here hx rfl (hb hby at_46) rfl ?_
      show Steps p.tables e below (T4.setTop (mkF m 48 #[.val (.int p1), .val (.int p2), .val (.int p3), .val (.int p4), .val (.int (own_ch u1)), .val (.int (own_ch u2)), .val (.int (own_ch u3)), .val (.int (own_ch u4)), .val (.ref s2), .unset, .unset, .unset, .unset, .unset, .unset, .unset, .unset, .unset] [(.int (own_ch u2)), (.int (0 : Int32)), (.ref b4), (.ref b4), (.ref b3), (.ref b3)])) _
      refine st6 _ ?_
      show Steps p.tables e below (T6.setTop (mkF m 49 #[.val (.int p1), .val (.int p2), .val (.int p3), .val (.int p4), .val (.int (own_ch u1)), .val (.int (own_ch u2)), .val (.int (own_ch u3)), .val (.int (own_ch u4)), .val (.ref s2), .unset, .unset, .unset, .unset, .unset, .unset, .unset, .unset, .unset] [(.ref b4), (.ref b3), (.ref b3)])) _
      refine XS.dup X6.here hx rfl (hb hby at_49) rfl rfl ?_
      show Steps p.tables e below (T6.setTop (mkF m 50 #[.val (.int p1), .val (.int p2), .val (.int p3), .val (.int p4), .val (.int (own_ch u1)), .val (.int (own_ch u2)), .val (.int (own_ch u3)), .val (.int (own_ch u4)), .val (.ref s2), .unset, .unset, .unset, .unset, .unset, .unset, .unset, .unset, .unset] [(.ref b4), (.ref b4), (.ref b3), (.ref b3)])) _
      refine XS.iconst X6.here hx rfl (hb hby at_50) ?_
      show Steps p.tables e below (T6.setTop (mkF m 51 #[.val (.int p1), .val (.int p2), .val (.int p3), .val (.int p4), .val (.int (own_ch u1)), .val (.int (own_ch u2)), .val (.int (own_ch u3)), .val (.int (own_ch u4)), .val (.ref s2), .unset, .unset, .unset, .unset, .unset, .unset, .unset, .unset, .unset] [(.int (1 : Int32)), (.ref b4), (.ref b4), (.ref b3), (.ref b3)])) _
      refine XS.iload X6.here hx rfl (hb hby at_51) rfl ?_
      show Steps p.tables e below (T6.setTop (mkF m 53 #[.val (.int p1), .val (.int p2), .val (.int p3), .val (.int p4), .val (.int (own_ch u1)), .val (.int (own_ch u2)), .val (.int (own_ch u3)), .val (.int (own_ch u4)), .val (.ref s2), .unset, .unset, .unset, .unset, .unset, .unset, .unset, .unset, .unset] [(.int (own_ch u3)), (.int (1 : Int32)), (.ref b4), (.ref b4), (.ref b3), (.ref b3)])) _
      refine st8 _ ?_
      show Steps p.tables e below (T8.setTop (mkF m 54 #[.val (.int p1), .val (.int p2), .val (.int p3), .val (.int p4), .val (.int (own_ch u1)), .val (.int (own_ch u2)), .val (.int (own_ch u3)), .val (.int (own_ch u4)), .val (.ref s2), .unset, .unset, .unset, .unset, .unset, .unset, .unset, .unset, .unset] [(.ref b4), (.ref b3), (.ref b3)])) _
      refine st9.trans ?_
      show Steps p.tables e below (T9.setTop (mkF m 57 #[.val (.int p1), .val (.int p2), .val (.int p3), .val (.int p4), .val (.int (own_ch u1)), .val (.int (own_ch u2)), .val (.int (own_ch u3)), .val (.int (own_ch u4)), .val (.ref s2), .unset, .unset, .unset, .unset, .unset, .unset, .unset, .unset, .unset] [(.ref b3)])) _
      refine XS.astore X9.here hx rfl (hb hby at_57) rfl rfl (l' := #[.val (.int p1), .val (.int p2), .val (.int p3), .val (.int p4), .val (.int (own_ch u1)), .val (.int (own_ch u2)), .val (.int (own_ch u3)), .val (.int (own_ch u4)), .val (.ref s2), .val (.ref b3), .unset, .unset, .unset, .unset, .unset, .unset, .unset, .unset]) rfl ?_
      show Steps p.tables e below (T9.setTop (mkF m 59 #[.val (.int p1), .val (.int p2), .val (.int p3), .val (.int p4), .val (.int (own_ch u1)), .val (.int (own_ch u2)), .val (.int (own_ch u3)), .val (.int (own_ch u4)), .val (.ref s2), .val (.ref b3), .unset, .unset, .unset, .unset, .unset, .unset, .unset, .unset] [])) _
      refine XS.iload X9.here hx rfl (hb hby at_59) rfl ?_
      show Steps p.tables e below (T9.setTop (mkF m 61 #[.val (.int p1), .val (.int p2), .val (.int p3), .val (.int p4), .val (.int (own_ch u1)), .val (.int (own_ch u2)), .val (.int (own_ch u3)), .val (.int (own_ch u4)), .val (.ref s2), .val (.ref b3), .unset, .unset, .unset, .unset, .unset, .unset, .unset, .unset] [(.int (own_ch u4))])) _
      refine st10 _ ?_
      show Steps p.tables e below (T10.setTop (mkF m 64 #[.val (.int p1), .val (.int p2), .val (.int p3), .val (.int p4), .val (.int (own_ch u1)), .val (.int (own_ch u2)), .val (.int (own_ch u3)), .val (.int (own_ch u4)), .val (.ref s2), .val (.ref b3), .unset, .unset, .unset, .unset, .unset, .unset, .unset, .unset] [(.ref s10)])) _
      refine XS.astore X10.here hx rfl (hb hby at_64) rfl rfl (l' := #[.val (.int p1), .val (.int p2), .val (.int p3), .val (.int p4), .val (.int (own_ch u1)), .val (.int (own_ch u2)), .val (.int (own_ch u3)), .val (.int (own_ch u4)), .val (.ref s2), .val (.ref b3), .val (.ref s10), .unset, .unset, .unset, .unset, .unset, .unset, .unset]) rfl ?_
      show Steps p.tables e below (T10.setTop (mkF m 66 #[.val (.int p1), .val (.int p2), .val (.int p3), .val (.int p4), .val (.int (own_ch u1)), .val (.int (own_ch u2)), .val (.int (own_ch u3)), .val (.int (own_ch u4)), .val (.ref s2), .val (.ref b3), .val (.ref s10), .unset, .unset, .unset, .unset, .unset, .unset, .unset] [])) _
      refine st12 _ ?_
      show Steps p.tables e below (T12.setTop (mkF m 69 #[.val (.int p1), .val (.int p2), .val (.int p3), .val (.int p4), .val (.int (own_ch u1)), .val (.int (own_ch u2)), .val (.int (own_ch u3)), .val (.int (own_ch u4)), .val (.ref s2), .val (.ref b3), .val (.ref s10), .unset, .unset, .unset, .unset, .unset, .unset, .unset] [(.ref b12)])) _
      refine XS.dup X12.here hx rfl (hb hby at_69) rfl rfl ?_
      show Steps p.tables e below (T12.setTop (mkF m 70 #[.val (.int p1), .val (.int p2), .val (.int p3), .val (.int p4), .val (.int (own_ch u1)), .val (.int (own_ch u2)), .val (.int (own_ch u3)), .val (.int (own_ch u4)), .val (.ref s2), .val (.ref b3), .val (.ref s10), .unset, .unset, .unset, .unset, .unset, .unset, .unset] [(.ref b12), (.ref b12)])) _
      refine st13.trans ?_
      show Steps p.tables e below (T13.setTop (mkF m 73 #[.val (.int p1), .val (.int p2), .val (.int p3), .val (.int p4), .val (.int (own_ch u1)), .val (.int (own_ch u2)), .val (.int (own_ch u3)), .val (.int (own_ch u4)), .val (.ref s2), .val (.ref b3), .val (.ref s10), .unset, .unset, .unset, .unset, .unset, .unset, .unset] [(.ref b12)])) _
      refine XS.astore X13.here hx rfl (hb hby at_73) rfl rfl (l' := #[.val (.int p1), .val (.int p2), .val (.int p3), .val (.int p4), .val (.int (own_ch u1)), .val (.int (own_ch u2)), .val (.int (own_ch u3)), .val (.int (own_ch u4)), .val (.ref s2), .val (.ref b3), .val (.ref s10), .val (.ref b12), .unset, .unset, .unset, .unset, .unset, .unset]) rfl ?_
      show Steps p.tables e below (T13.setTop (mkF m 75 #[.val (.int p1), .val (.int p2), .val (.int p3), .val (.int p4), .val (.int (own_ch u1)), .val (.int (own_ch u2)), .val (.int (own_ch u3)), .val (.int (own_ch u4)), .val (.ref s2), .val (.ref b3), .val (.ref s10), .val (.ref b12), .unset, .unset, .unset, .unset, .unset, .unset] [])) _
      refine XS.aload X13.here hx rfl (hb hby at_75) rfl rfl ?_
      show Steps p.tables e below (T13.setTop (mkF m 77 #[.val (.int p1), .val (.int p2), .val (.int p3), .val (.int p4), .val (.int (own_ch u1)), .val (.int (own_ch u2)), .val (.int (own_ch u3)), .val (.int (own_ch u4)), .val (.ref s2), .val (.ref b3), .val (.ref s10), .val (.ref b12), .unset, .unset, .unset, .unset, .unset, .unset] [(.ref b12)])) _
      refine XS.aload X13.here hx rfl (hb hby at_77) rfl rfl ?_
      show Steps p.tables e below (T13.setTop (mkF m 79 #[.val (.int p1), .val (.int p2), .val (.int p3), .val (.int p4), .val (.int (own_ch u1)), .val (.int (own_ch u2)), .val (.int (own_ch u3)), .val (.int (own_ch u4)), .val (.ref s2), .val (.ref b3), .val (.ref s10), .val (.ref b12), .unset, .unset, .unset, .unset, .unset, .unset] [(.ref s2), (.ref b12)])) _
      refine st14.trans ?_
      show Steps p.tables e below (T14.setTop (mkF m 82 #[.val (.int p1), .val (.int p2), .val (.int p3), .val (.int p4), .val (.int (own_ch u1)), .val (.int (own_ch u2)), .val (.int (own_ch u3)), .val (.int (own_ch u4)), .val (.ref s2), .val (.ref b3), .val (.ref s10), .val (.ref b12), .unset, .unset, .unset, .unset, .unset, .unset] [])) _
      refine XS.aload X14.here hx rfl (hb hby at_82) rfl rfl ?_
      show Steps p.tables e below (T14.setTop (mkF m 84 #[.val (.int p1), .val (.int p2), .val (.int p3), .val (.int p4), .val (.int (own_ch u1)), .val (.int (own_ch u2)), .val (.int (own_ch u3)), .val (.int (own_ch u4)), .val (.ref s2), .val (.ref b3), .val (.ref s10), .val (.ref b12), .unset, .unset, .unset, .unset, .unset, .unset] [(.ref b12)])) _
      refine XS.aload X14.here hx rfl (hb hby at_84) rfl rfl ?_
      show Steps p.tables e below (T14.setTop (mkF m 86 #[.val (.int p1), .val (.int p2), .val (.int p3), .val (.int p4), .val (.int (own_ch u1)), .val (.int (own_ch u2)), .val (.int (own_ch u3)), .val (.int (own_ch u4)), .val (.ref s2), .val (.ref b3), .val (.ref s10), .val (.ref b12), .unset, .unset, .unset, .unset, .unset, .unset] [(.ref b3), (.ref b12)])) _
      refine st15.trans ?_
      show Steps p.tables e below (T15.setTop (mkF m 89 #[.val (.int p1), .val (.int p2), .val (.int p3), .val (.int p4), .val (.int (own_ch u1)), .val (.int (own_ch u2)), .val (.int (own_ch u3)), .val (.int (own_ch u4)), .val (.ref s2), .val (.ref b3), .val (.ref s10), .val (.ref b12), .unset, .unset, .unset, .unset, .unset, .unset] [])) _
      refine st17 _ ?_
      show Steps p.tables e below (T17.setTop (mkF m 92 #[.val (.int p1), .val (.int p2), .val (.int p3), .val (.int p4), .val (.int (own_ch u1)), .val (.int (own_ch u2)), .val (.int (own_ch u3)), .val (.int (own_ch u4)), .val (.ref s2), .val (.ref b3), .val (.ref s10), .val (.ref b12), .unset, .unset, .unset, .unset, .unset, .unset] [(.ref b17)])) _
      refine XS.dup X17.here hx rfl (hb hby at_92) rfl rfl ?_
      show Steps p.tables e below (T17.setTop (mkF m 93 #[.val (.int p1), .val (.int p2), .val (.int p3), .val (.int p4), .val (.int (own_ch u1)), .val (.int (own_ch u2)), .val (.int (own_ch u3)), .val (.int (own_ch u4)), .val (.ref s2), .val (.ref b3), .val (.ref s10), .val (.ref b12), .unset, .unset, .unset, .unset, .unset, .unset] [(.ref b17), (.ref b17)])) _
      refine st18.trans ?_
      show Steps p.tables e below (T18.setTop (mkF m 96 #[.val (.int p1), .val (.int p2), .val (.int p3), .val (.int p4), .val (.int (own_ch u1)), .val (.int (own_ch u2)), .val (.int (own_ch u3)), .val (.int (own_ch u4)), .val (.ref s2), .val (.ref b3), .val (.ref s10), .val (.ref b12), .unset, .unset, .unset, .unset, .unset, .unset] [(.ref b17)])) _
      refine XS.astore X18.here hx rfl (hb hby at_96) rfl rfl (l' := #[.val (.int p1), .val (.int p2), .val (.int p3), .val (.int p4), .val (.int (own_ch u1)), .val (.int (own_ch u2)), .val (.int (own_ch u3)), .val (.int (own_ch u4)), .val (.ref s2), .val (.ref b3), .val (.ref s10), .val (.ref b12), .val (.ref b17), .unset, .unset, .unset, .unset, .unset]) rfl ?_
      show Steps p.tables e below (T18.setTop (mkF m 98 #[.val (.int p1), .val (.int p2), .val (.int p3), .val (.int p4), .val (.int (own_ch u1)), .val (.int (own_ch u2)), .val (.int (own_ch u3)), .val (.int (own_ch u4)), .val (.ref s2), .val (.ref b3), .val (.ref s10), .val (.ref b12), .val (.ref b17), .unset, .unset, .unset, .unset, .unset] [])) _
      refine XS.aload X18.here hx rfl (hb hby at_98) rfl rfl ?_
      show Steps p.tables e below (T18.setTop (mkF m 100 #[.val (.int p1), .val (.int p2), .val (.int p3), .val (.int p4), .val (.int (own_ch u1)), .val (.int (own_ch u2)), .val (.int (own_ch u3)), .val (.int (own_ch u4)), .val (.ref s2), .val (.ref b3), .val (.ref s10), .val (.ref b12), .val (.ref b17), .unset, .unset, .unset, .unset, .unset] [(.ref b17)])) _
      refine XS.aload X18.here hx rfl (hb hby at_100) rfl rfl ?_
      show Steps p.tables e below (T18.setTop (mkF m 102 #[.val (.int p1), .val (.int p2), .val (.int p3), .val (.int p4), .val (.int (own_ch u1)), .val (.int (own_ch u2)), .val (.int (own_ch u3)), .val (.int (own_ch u4)), .val (.ref s2), .val (.ref b3), .val (.ref s10), .val (.ref b12), .val (.ref b17), .unset, .unset, .unset, .unset, .unset] [(.ref b3), (.ref b17)])) _
      refine st19.trans ?_
      show Steps p.tables e below (T19.setTop (mkF m 105 #[.val (.int p1), .val (.int p2), .val (.int p3), .val (.int p4), .val (.int (own_ch u1)), .val (.int (own_ch u2)), .val (.int (own_ch u3)), .val (.int (own_ch u4)), .val (.ref s2), .val (.ref b3), .val (.ref s10), .val (.ref b12), .val (.ref b17), .unset, .unset, .unset, .unset, .unset] [])) _
      refine XS.aload X19.here hx rfl (hb hby at_105) rfl rfl ?_
      show Steps p.tables e below (T19.setTop (mkF m 107 #[.val (.int p1), .val (.int p2), .val (.int p3), .val (.int p4), .val (.int (own_ch u1)), .val (.int (own_ch u2)), .val (.int (own_ch u3)), .val (.int (own_ch u4)), .val (.ref s2), .val (.ref b3), .val (.ref s10), .val (.ref b12), .val (.ref b17), .unset, .unset, .unset, .unset, .unset] [(.ref b17)])) _
      refine XS.aload X19.here hx rfl (hb hby at_107) rfl rfl ?_
      show Steps p.tables e below (T19.setTop (mkF m 109 #[.val (.int p1), .val (.int p2), .val (.int p3), .val (.int p4), .val (.int (own_ch u1)), .val (.int (own_ch u2)), .val (.int (own_ch u3)), .val (.int (own_ch u4)), .val (.ref s2), .val (.ref b3), .val (.ref s10), .val (.ref b12), .val (.ref b17), .unset, .unset, .unset, .unset, .unset] [(.ref s2), (.ref b17)])) _
      refine st20.trans ?_
      show Steps p.tables e below (T20.setTop (mkF m 112 #[.val (.int p1), .val (.int p2), .val (.int p3), .val (.int p4), .val (.int (own_ch u1)), .val (.int (own_ch u2)), .val (.int (own_ch u3)), .val (.int (own_ch u4)), .val (.ref s2), .val (.ref b3), .val (.ref s10), .val (.ref b12), .val (.ref b17), .unset, .unset, .unset, .unset, .unset] [])) _
      refine st22 _ ?_
      show Steps p.tables e below (T22.setTop (mkF m 115 #[.val (.int p1), .val (.int p2), .val (.int p3), .val (.int p4), .val (.int (own_ch u1)), .val (.int (own_ch u2)), .val (.int (own_ch u3)), .val (.int (own_ch u4)), .val (.ref s2), .val (.ref b3), .val (.ref s10), .val (.ref b12), .val (.ref b17), .unset, .unset, .unset, .unset, .unset] [(.ref b22)])) _
      refine XS.dup X22.here hx rfl (hb hby at_115) rfl rfl ?_
      show Steps p.tables e below (T22.setTop (mkF m 116 #[.val (.int p1), .val (.int p2), .val (.int p3), .val (.int p4), .val (.int (own_ch u1)), .val (.int (own_ch u2)), .val (.int (own_ch u3)), .val (.int (own_ch u4)), .val (.ref s2), .val (.ref b3), .val (.ref s10), .val (.ref b12), .val (.ref b17), .unset, .unset, .unset, .unset, .unset] [(.ref b22), (.ref b22)])) _
      refine st23.trans ?_
      show Steps p.tables e below (T23.setTop (mkF m 119 #[.val (.int p1), .val (.int p2), .val (.int p3), .val (.int p4), .val (.int (own_ch u1)), .val (.int (own_ch u2)), .val (.int (own_ch u3)), .val (.int (own_ch u4)), .val (.ref s2), .val (.ref b3), .val (.ref s10), .val (.ref b12), .val (.ref b17), .unset, .unset, .unset, .unset, .unset] [(.ref b22)])) _
      refine XS.astore X23.here hx rfl (hb hby at_119) rfl rfl (l' := #[.val (.int p1), .val (.int p2), .val (.int p3), .val (.int p4), .val (.int (own_ch u1)), .val (.int (own_ch u2)), .val (.int (own_ch u3)), .val (.int (own_ch u4)), .val (.ref s2), .val (.ref b3), .val (.ref s10), .val (.ref b12), .val (.ref b17), .val (.ref b22), .unset, .unset, .unset, .unset]) rfl ?_
      show Steps p.tables e below (T23.setTop (mkF m 121 #[.val (.int p1), .val (.int p2), .val (.int p3), .val (.int p4), .val (.int (own_ch u1)), .val (.int (own_ch u2)), .val (.int (own_ch u3)), .val (.int (own_ch u4)), .val (.ref s2), .val (.ref b3), .val (.ref s10), .val (.ref b12), .val (.ref b17), .val (.ref b22), .unset, .unset, .unset, .unset] [])) _
      refine XS.aload X23.here hx rfl (hb hby at_121) rfl rfl ?_
      show Steps p.tables e below (T23.setTop (mkF m 123 #[.val (.int p1), .val (.int p2), .val (.int p3), .val (.int p4), .val (.int (own_ch u1)), .val (.int (own_ch u2)), .val (.int (own_ch u3)), .val (.int (own_ch u4)), .val (.ref s2), .val (.ref b3), .val (.ref s10), .val (.ref b12), .val (.ref b17), .val (.ref b22), .unset, .unset, .unset, .unset] [(.ref b22)])) _
      refine XS.aload X23.here hx rfl (hb hby at_123) rfl rfl ?_
      show Steps p.tables e below (T23.setTop (mkF m 125 #[.val (.int p1), .val (.int p2), .val (.int p3), .val (.int p4), .val (.int (own_ch u1)), .val (.int (own_ch u2)), .val (.int (own_ch u3)), .val (.int (own_ch u4)), .val (.ref s2), .val (.ref b3), .val (.ref s10), .val (.ref b12), .val (.ref b17), .val (.ref b22), .unset, .unset, .unset, .unset] [(.ref s2), (.ref b22)])) _
      refine st24.trans ?_
      show Steps p.tables e below (T24.setTop (mkF m 128 #[.val (.int p1), .val (.int p2), .val (.int p3), .val (.int p4), .val (.int (own_ch u1)), .val (.int (own_ch u2)), .val (.int (own_ch u3)), .val (.int (own_ch u4)), .val (.ref s2), .val (.ref b3), .val (.ref s10), .val (.ref b12), .val (.ref b17), .val (.ref b22), .unset, .unset, .unset, .unset] [])) _
      refine st26 _ ?_
      show Steps p.tables e below (T26.setTop (mkF m 131 #[.val (.int p1), .val (.int p2), .val (.int p3), .val (.int p4), .val (.int (own_ch u1)), .val (.int (own_ch u2)), .val (.int (own_ch u3)), .val (.int (own_ch u4)), .val (.ref s2), .val (.ref b3), .val (.ref s10), .val (.ref b12), .val (.ref b17), .val (.ref b22), .unset, .unset, .unset, .unset] [(.ref b26)])) _
      refine XS.dup X26.here hx rfl (hb hby at_131) rfl rfl ?_
      show Steps p.tables e below (T26.setTop (mkF m 132 #[.val (.int p1), .val (.int p2), .val (.int p3), .val (.int p4), .val (.int (own_ch u1)), .val (.int (own_ch u2)), .val (.int (own_ch u3)), .val (.int (own_ch u4)), .val (.ref s2), .val (.ref b3), .val (.ref s10), .val (.ref b12), .val (.ref b17), .val (.ref b22), .unset, .unset, .unset, .unset] [(.ref b26), (.ref b26)])) _
      refine st27.trans ?_
      show Steps p.tables e below (T27.setTop (mkF m 135 #[.val (.int p1), .val (.int p2), .val (.int p3), .val (.int p4), .val (.int (own_ch u1)), .val (.int (own_ch u2)), .val (.int (own_ch u3)), .val (.int (own_ch u4)), .val (.ref s2), .val (.ref b3), .val (.ref s10), .val (.ref b12), .val (.ref b17), .val (.ref b22), .unset, .unset, .unset, .unset] [(.ref b26)])) _
      refine XS.astore X27.here hx rfl (hb hby at_135) rfl rfl (l' := #[.val (.int p1), .val (.int p2), .val (.int p3), .val (.int p4), .val (.int (own_ch u1)), .val (.int (own_ch u2)), .val (.int (own_ch u3)), .val (.int (own_ch u4)), .val (.ref s2), .val (.ref b3), .val (.ref s10), .val (.ref b12), .val (.ref b17), .val (.ref b22), .val (.ref b26), .unset, .unset, .unset]) rfl ?_
      show Steps p.tables e below (T27.setTop (mkF m 137 #[.val (.int p1), .val (.int p2), .val (.int p3), .val (.int p4), .val (.int (own_ch u1)), .val (.int (own_ch u2)), .val (.int (own_ch u3)), .val (.int (own_ch u4)), .val (.ref s2), .val (.ref b3), .val (.ref s10), .val (.ref b12), .val (.ref b17), .val (.ref b22), .val (.ref b26), .unset, .unset, .unset] [])) _
      refine XS.aload X27.here hx rfl (hb hby at_137) rfl rfl ?_
      show Steps p.tables e below (T27.setTop (mkF m 139 #[.val (.int p1), .val (.int p2), .val (.int p3), .val (.int p4), .val (.int (own_ch u1)), .val (.int (own_ch u2)), .val (.int (own_ch u3)), .val (.int (own_ch u4)), .val (.ref s2), .val (.ref b3), .val (.ref s10), .val (.ref b12), .val (.ref b17), .val (.ref b22), .val (.ref b26), .unset, .unset, .unset] [(.ref b26)])) _
      refine XS.aload X27.here hx rfl (hb hby at_139) rfl rfl ?_
      show Steps p.tables e below (T27.setTop (mkF m 141 #[.val (.int p1), .val (.int p2), .val (.int p3), .val (.int p4), .val (.int (own_ch u1)), .val (.int (own_ch u2)), .val (.int (own_ch u3)), .val (.int (own_ch u4)), .val (.ref s2), .val (.ref b3), .val (.ref s10), .val (.ref b12), .val (.ref b17), .val (.ref b22), .val (.ref b26), .unset, .unset, .unset] [(.ref s10), (.ref b26)])) _
      refine st28.trans ?_
      show Steps p.tables e below (T28.setTop (mkF m 144 #[.val (.int p1), .val (.int p2), .val (.int p3), .val (.int p4), .val (.int (own_ch u1)), .val (.int (own_ch u2)), .val (.int (own_ch u3)), .val (.int (own_ch u4)), .val (.ref s2), .val (.ref b3), .val (.ref s10), .val (.ref b12), .val (.ref b17), .val (.ref b22), .val (.ref b26), .unset, .unset, .unset] [])) _
      refine XS.aload X28.here hx rfl (hb hby at_144) rfl rfl ?_
      show Steps p.tables e below (T28.setTop (mkF m 146 #[.val (.int p1), .val (.int p2), .val (.int p3), .val (.int p4), .val (.int (own_ch u1)), .val (.int (own_ch u2)), .val (.int (own_ch u3)), .val (.int (own_ch u4)), .val (.ref s2), .val (.ref b3), .val (.ref s10), .val (.ref b12), .val (.ref b17), .val (.ref b22), .val (.ref b26), .unset, .unset, .unset] [(.ref b12)])) _
      refine XS.aload X28.here hx rfl (hb hby at_146) rfl rfl ?_
      show Steps p.tables e below (T28.setTop (mkF m 148 #[.val (.int p1), .val (.int p2), .val (.int p3), .val (.int p4), .val (.int (own_ch u1)), .val (.int (own_ch u2)), .val (.int (own_ch u3)), .val (.int (own_ch u4)), .val (.ref s2), .val (.ref b3), .val (.ref s10), .val (.ref b12), .val (.ref b17), .val (.ref b22), .val (.ref b26), .unset, .unset, .unset] [(.ref b17), (.ref b12)])) _
      refine st29.trans ?_
      show Steps p.tables e below (T29.setTop (mkF m 151 #[.val (.int p1), .val (.int p2), .val (.int p3), .val (.int p4), .val (.int (own_ch u1)), .val (.int (own_ch u2)), .val (.int (own_ch u3)), .val (.int (own_ch u4)), .val (.ref s2), .val (.ref b3), .val (.ref s10), .val (.ref b12), .val (.ref b17), .val (.ref b22), .val (.ref b26), .unset, .unset, .unset] [(.int (1 : Int32))])) _
      refine XS.ifNo X29.here hx rfl (hb hby at_151) rfl ((if0 _ _).trans (feq ((by decide) : ¬ ((1 : Int32) = (0 : Int32)))).1) ?_
      show Steps p.tables e below (T29.setTop (mkF m 154 #[.val (.int p1), .val (.int p2), .val (.int p3), .val (.int p4), .val (.int (own_ch u1)), .val (.int (own_ch u2)), .val (.int (own_ch u3)), .val (.int (own_ch u4)), .val (.ref s2), .val (.ref b3), .val (.ref s10), .val (.ref b12), .val (.ref b17), .val (.ref b22), .val (.ref b26), .unset, .unset, .unset] [])) _
      refine XS.aload X29.here hx rfl (hb hby at_154) rfl rfl ?_
      show Steps p.tables e below (T29.setTop (mkF m 156 #[.val (.int p1), .val (.int p2), .val (.int p3), .val (.int p4), .val (.int (own_ch u1)), .val (.int (own_ch u2)), .val (.int (own_ch u3)), .val (.int (own_ch u4)), .val (.ref s2), .val (.ref b3), .val (.ref s10), .val (.ref b12), .val (.ref b17), .val (.ref b22), .val (.ref b26), .unset, .unset, .unset] [(.ref b17)])) _
      refine XS.aload X29.here hx rfl (hb hby at_156) rfl rfl ?_
      show Steps p.tables e below (T29.setTop (mkF m 158 #[.val (.int p1), .val (.int p2), .val (.int p3), .val (.int p4), .val (.int (own_ch u1)), .val (.int (own_ch u2)), .val (.int (own_ch u3)), .val (.int (own_ch u4)), .val (.ref s2), .val (.ref b3), .val (.ref s10), .val (.ref b12), .val (.ref b17), .val (.ref b22), .val (.ref b26), .unset, .unset, .unset] [(.ref b12), (.ref b17)])) _
      refine st30.trans ?_
      show Steps p.tables e below (T30.setTop (mkF m 161 #[.val (.int p1), .val (.int p2), .val (.int p3), .val (.int p4), .val (.int (own_ch u1)), .val (.int (own_ch u2)), .val (.int (own_ch u3)), .val (.int (own_ch u4)), .val (.ref s2), .val (.ref b3), .val (.ref s10), .val (.ref b12), .val (.ref b17), .val (.ref b22), .val (.ref b26), .unset, .unset, .unset] [(.int (1 : Int32))])) _
      refine XS.ifNo X30.here hx rfl (hb hby at_161) rfl ((if0 _ _).trans (feq ((by decide) : ¬ ((1 : Int32) = (0 : Int32)))).1) ?_
      show Steps p.tables e below (T30.setTop (mkF m 164 #[.val (.int p1), .val (.int p2), .val (.int p3), .val (.int p4), .val (.int (own_ch u1)), .val (.int (own_ch u2)), .val (.int (own_ch u3)), .val (.int (own_ch u4)), .val (.ref s2), .val (.ref b3), .val (.ref s10), .val (.ref b12), .val (.ref b17), .val (.ref b22), .val (.ref b26), .unset, .unset, .unset] [])) _
      refine XS.iconst X30.here hx rfl (hb hby at_164) ?_
      show Steps p.tables e below (T30.setTop (mkF m 165 #[.val (.int p1), .val (.int p2), .val (.int p3), .val (.int p4), .val (.int (own_ch u1)), .val (.int (own_ch u2)), .val (.int (own_ch u3)), .val (.int (own_ch u4)), .val (.ref s2), .val (.ref b3), .val (.ref s10), .val (.ref b12), .val (.ref b17), .val (.ref b22), .val (.ref b26), .unset, .unset, .unset] [(.int (1 : Int32))])) _
      refine XS.goto X30.here hx rfl (pc0 := 165) (pc' := 169) rfl (hb hby at_165) (by decide) (by decide) ?_
      show Steps p.tables e below (T30.setTop (mkF m 169 #[.val (.int p1), .val (.int p2), .val (.int p3), .val (.int p4), .val (.int (own_ch u1)), .val (.int (own_ch u2)), .val (.int (own_ch u3)), .val (.int (own_ch u4)), .val (.ref s2), .val (.ref b3), .val (.ref s10), .val (.ref b12), .val (.ref b17), .val (.ref b22), .val (.ref b26), .unset, .unset, .unset] [(.int (1 : Int32))])) _
      refine XS.istore X30.here hx rfl (hb hby at_169) rfl (l' := #[.val (.int p1), .val (.int p2), .val (.int p3), .val (.int p4), .val (.int (own_ch u1)), .val (.int (own_ch u2)), .val (.int (own_ch u3)), .val (.int (own_ch u4)), .val (.ref s2), .val (.ref b3), .val (.ref s10), .val (.ref b12), .val (.ref b17), .val (.ref b22), .val (.ref b26), .val (.int (1 : Int32)), .unset, .unset]) rfl ?_
      show Steps p.tables e below (T30.setTop (mkF m 171 #[.val (.int p1), .val (.int p2), .val (.int p3), .val (.int p4), .val (.int (own_ch u1)), .val (.int (own_ch u2)), .val (.int (own_ch u3)), .val (.int (own_ch u4)), .val (.ref s2), .val (.ref b3), .val (.ref s10), .val (.ref b12), .val (.ref b17), .val (.ref b22), .val (.ref b26), .val (.int (1 : Int32)), .unset, .unset] [])) _
      refine XS.aload X30.here hx rfl (hb hby at_171) rfl rfl ?_
      show Steps p.tables e below (T30.setTop (mkF m 173 #[.val (.int p1), .val (.int p2), .val (.int p3), .val (.int p4), .val (.int (own_ch u1)), .val (.int (own_ch u2)), .val (.int (own_ch u3)), .val (.int (own_ch u4)), .val (.ref s2), .val (.ref b3), .val (.ref s10), .val (.ref b12), .val (.ref b17), .val (.ref b22), .val (.ref b26), .val (.int (1 : Int32)), .unset, .unset] [(.ref b12)])) _
      refine XS.aload X30.here hx rfl (hb hby at_173) rfl rfl ?_
      show Steps p.tables e below (T30.setTop (mkF m 175 #[.val (.int p1), .val (.int p2), .val (.int p3), .val (.int p4), .val (.int (own_ch u1)), .val (.int (own_ch u2)), .val (.int (own_ch u3)), .val (.int (own_ch u4)), .val (.ref s2), .val (.ref b3), .val (.ref s10), .val (.ref b12), .val (.ref b17), .val (.ref b22), .val (.ref b26), .val (.int (1 : Int32)), .unset, .unset] [(.ref b22), (.ref b12)])) _
      refine st31.trans ?_
      show Steps p.tables e below (T31.setTop (mkF m 178 #[.val (.int p1), .val (.int p2), .val (.int p3), .val (.int p4), .val (.int (own_ch u1)), .val (.int (own_ch u2)), .val (.int (own_ch u3)), .val (.int (own_ch u4)), .val (.ref s2), .val (.ref b3), .val (.ref s10), .val (.ref b12), .val (.ref b17), .val (.ref b22), .val (.ref b26), .val (.int (1 : Int32)), .unset, .unset] [(.int (0 : Int32))])) _
      refine XS.ifNo X31.here hx rfl (hb hby at_178) rfl ((if0 _ _).trans (teq (rfl : (0 : Int32) = (0 : Int32))).2) ?_
      show Steps p.tables e below (T31.setTop (mkF m 181 #[.val (.int p1), .val (.int p2), .val (.int p3), .val (.int p4), .val (.int (own_ch u1)), .val (.int (own_ch u2)), .val (.int (own_ch u3)), .val (.int (own_ch u4)), .val (.ref s2), .val (.ref b3), .val (.ref s10), .val (.ref b12), .val (.ref b17), .val (.ref b22), .val (.ref b26), .val (.int (1 : Int32)), .unset, .unset] [])) _
      refine XS.iconst X31.here hx rfl (hb hby at_181) ?_
      show Steps p.tables e below (T31.setTop (mkF m 182 #[.val (.int p1), .val (.int p2), .val (.int p3), .val (.int p4), .val (.int (own_ch u1)), .val (.int (own_ch u2)), .val (.int (own_ch u3)), .val (.int (own_ch u4)), .val (.ref s2), .val (.ref b3), .val (.ref s10), .val (.ref b12), .val (.ref b17), .val (.ref b22), .val (.ref b26), .val (.int (1 : Int32)), .unset, .unset] [(.int (1 : Int32))])) _
      refine XS.goto X31.here hx rfl (pc0 := 182) (pc' := 186) rfl (hb hby at_182) (by decide) (by decide) ?_
      show Steps p.tables e below (T31.setTop (mkF m 186 #[.val (.int p1), .val (.int p2), .val (.int p3), .val (.int p4), .val (.int (own_ch u1)), .val (.int (own_ch u2)), .val (.int (own_ch u3)), .val (.int (own_ch u4)), .val (.ref s2), .val (.ref b3), .val (.ref s10), .val (.ref b12), .val (.ref b17), .val (.ref b22), .val (.ref b26), .val (.int (1 : Int32)), .unset, .unset] [(.int (1 : Int32))])) _
      refine XS.istore X31.here hx rfl (hb hby at_186) rfl (l' := #[.val (.int p1), .val (.int p2), .val (.int p3), .val (.int p4), .val (.int (own_ch u1)), .val (.int (own_ch u2)), .val (.int (own_ch u3)), .val (.int (own_ch u4)), .val (.ref s2), .val (.ref b3), .val (.ref s10), .val (.ref b12), .val (.ref b17), .val (.ref b22), .val (.ref b26), .val (.int (1 : Int32)), .val (.int (1 : Int32)), .unset]) rfl ?_
      show Steps p.tables e below (T31.setTop (mkF m 188 #[.val (.int p1), .val (.int p2), .val (.int p3), .val (.int p4), .val (.int (own_ch u1)), .val (.int (own_ch u2)), .val (.int (own_ch u3)), .val (.int (own_ch u4)), .val (.ref s2), .val (.ref b3), .val (.ref s10), .val (.ref b12), .val (.ref b17), .val (.ref b22), .val (.ref b26), .val (.int (1 : Int32)), .val (.int (1 : Int32)), .unset] [])) _
      refine XS.aload X31.here hx rfl (hb hby at_188) rfl rfl ?_
      show Steps p.tables e below (T31.setTop (mkF m 190 #[.val (.int p1), .val (.int p2), .val (.int p3), .val (.int p4), .val (.int (own_ch u1)), .val (.int (own_ch u2)), .val (.int (own_ch u3)), .val (.int (own_ch u4)), .val (.ref s2), .val (.ref b3), .val (.ref s10), .val (.ref b12), .val (.ref b17), .val (.ref b22), .val (.ref b26), .val (.int (1 : Int32)), .val (.int (1 : Int32)), .unset] [(.ref b22)])) _
      refine XS.aload X31.here hx rfl (hb hby at_190) rfl rfl ?_
      show Steps p.tables e below (T31.setTop (mkF m 192 #[.val (.int p1), .val (.int p2), .val (.int p3), .val (.int p4), .val (.int (own_ch u1)), .val (.int (own_ch u2)), .val (.int (own_ch u3)), .val (.int (own_ch u4)), .val (.ref s2), .val (.ref b3), .val (.ref s10), .val (.ref b12), .val (.ref b17), .val (.ref b22), .val (.ref b26), .val (.int (1 : Int32)), .val (.int (1 : Int32)), .unset] [(.ref b26), (.ref b22)])) _
      refine st32.trans ?_
      show Steps p.tables e below (T32.setTop (mkF m 195 #[.val (.int p1), .val (.int p2), .val (.int p3), .val (.int p4), .val (.int (own_ch u1)), .val (.int (own_ch u2)), .val (.int (own_ch u3)), .val (.int (own_ch u4)), .val (.ref s2), .val (.ref b3), .val (.ref s10), .val (.ref b12), .val (.ref b17), .val (.ref b22), .val (.ref b26), .val (.int (1 : Int32)), .val (.int (1 : Int32)), .unset] [(.int (1 : Int32))])) _
      refine XS.iload X32.here hx rfl (hb hby at_195) rfl ?_
      show Steps p.tables e below (T32.setTop (mkF m 197 #[.val (.int p1), .val (.int p2), .val (.int p3), .val (.int p4), .val (.int (own_ch u1)), .val (.int (own_ch u2)), .val (.int (own_ch u3)), .val (.int (own_ch u4)), .val (.ref s2), .val (.ref b3), .val (.ref s10), .val (.ref b12), .val (.ref b17), .val (.ref b22), .val (.ref b26), .val (.int (1 : Int32)), .val (.int (1 : Int32)), .unset] [(.int (own_ch u1)), (.int (1 : Int32))])) _
      refine XS.iload X32.here hx rfl (hb hby at_197) rfl ?_
      show Steps p.tables e below (T32.setTop (mkF m 199 #[.val (.int p1), .val (.int p2), .val (.int p3), .val (.int p4), .val (.int (own_ch u1)), .val (.int (own_ch u2)), .val (.int (own_ch u3)), .val (.int (own_ch u4)), .val (.ref s2), .val (.ref b3), .val (.ref s10), .val (.ref b12), .val (.ref b17), .val (.ref b22), .val (.ref b26), .val (.int (1 : Int32)), .val (.int (1 : Int32)), .unset] [(.int (own_ch u4)), (.int (own_ch u1)), (.int (1 : Int32))])) _
      refine XS.icmpNo X32.here hx rfl (hb hby at_199) rfl (teq (hcc : (own_ch u1) = (own_ch u4))).2 ?_
      show Steps p.tables e below (T32.setTop (mkF m 202 #[.val (.int p1), .val (.int p2), .val (.int p3), .val (.int p4), .val (.int (own_ch u1)), .val (.int (own_ch u2)), .val (.int (own_ch u3)), .val (.int (own_ch u4)), .val (.ref s2), .val (.ref b3), .val (.ref s10), .val (.ref b12), .val (.ref b17), .val (.ref b22), .val (.ref b26), .val (.int (1 : Int32)), .val (.int (1 : Int32)), .unset] [(.int (1 : Int32))])) _
      refine XS.iconst X32.here hx rfl (hb hby at_202) ?_
      show Steps p.tables e below (T32.setTop (mkF m 203 #[.val (.int p1), .val (.int p2), .val (.int p3), .val (.int p4), .val (.int (own_ch u1)), .val (.int (own_ch u2)), .val (.int (own_ch u3)), .val (.int (own_ch u4)), .val (.ref s2), .val (.ref b3), .val (.ref s10), .val (.ref b12), .val (.ref b17), .val (.ref b22), .val (.ref b26), .val (.int (1 : Int32)), .val (.int (1 : Int32)), .unset] [(.int (1 : Int32)), (.int (1 : Int32))])) _
      refine XS.goto X32.here hx rfl (pc0 := 203) (pc' := 207) rfl (hb hby at_203) (by decide) (by decide) ?_
      show Steps p.tables e below (T32.setTop (mkF m 207 #[.val (.int p1), .val (.int p2), .val (.int p3), .val (.int p4), .val (.int (own_ch u1)), .val (.int (own_ch u2)), .val (.int (own_ch u3)), .val (.int (own_ch u4)), .val (.ref s2), .val (.ref b3), .val (.ref s10), .val (.ref b12), .val (.ref b17), .val (.ref b22), .val (.ref b26), .val (.int (1 : Int32)), .val (.int (1 : Int32)), .unset] [(.int (1 : Int32)), (.int (1 : Int32))])) _
      refine XS.icmpNo X32.here hx rfl (hb hby at_207) rfl (teq (rfl : (1 : Int32) = (1 : Int32))).2 ?_
      show Steps p.tables e below (T32.setTop (mkF m 210 #[.val (.int p1), .val (.int p2), .val (.int p3), .val (.int p4), .val (.int (own_ch u1)), .val (.int (own_ch u2)), .val (.int (own_ch u3)), .val (.int (own_ch u4)), .val (.ref s2), .val (.ref b3), .val (.ref s10), .val (.ref b12), .val (.ref b17), .val (.ref b22), .val (.ref b26), .val (.int (1 : Int32)), .val (.int (1 : Int32)), .unset] [])) _
      refine XS.iconst X32.here hx rfl (hb hby at_210) ?_
      show Steps p.tables e below (T32.setTop (mkF m 211 #[.val (.int p1), .val (.int p2), .val (.int p3), .val (.int p4), .val (.int (own_ch u1)), .val (.int (own_ch u2)), .val (.int (own_ch u3)), .val (.int (own_ch u4)), .val (.ref s2), .val (.ref b3), .val (.ref s10), .val (.ref b12), .val (.ref b17), .val (.ref b22), .val (.ref b26), .val (.int (1 : Int32)), .val (.int (1 : Int32)), .unset] [(.int (1 : Int32))])) _
      refine XS.goto X32.here hx rfl (pc0 := 211) (pc' := 215) rfl (hb hby at_211) (by decide) (by decide) ?_
      show Steps p.tables e below (T32.setTop (mkF m 215 #[.val (.int p1), .val (.int p2), .val (.int p3), .val (.int p4), .val (.int (own_ch u1)), .val (.int (own_ch u2)), .val (.int (own_ch u3)), .val (.int (own_ch u4)), .val (.ref s2), .val (.ref b3), .val (.ref s10), .val (.ref b12), .val (.ref b17), .val (.ref b22), .val (.ref b26), .val (.int (1 : Int32)), .val (.int (1 : Int32)), .unset] [(.int (1 : Int32))])) _
      refine XS.istore X32.here hx rfl (hb hby at_215) rfl (l' := #[.val (.int p1), .val (.int p2), .val (.int p3), .val (.int p4), .val (.int (own_ch u1)), .val (.int (own_ch u2)), .val (.int (own_ch u3)), .val (.int (own_ch u4)), .val (.ref s2), .val (.ref b3), .val (.ref s10), .val (.ref b12), .val (.ref b17), .val (.ref b22), .val (.ref b26), .val (.int (1 : Int32)), .val (.int (1 : Int32)), .val (.int (1 : Int32))]) rfl ?_
      show Steps p.tables e below (T32.setTop (mkF m 217 #[.val (.int p1), .val (.int p2), .val (.int p3), .val (.int p4), .val (.int (own_ch u1)), .val (.int (own_ch u2)), .val (.int (own_ch u3)), .val (.int (own_ch u4)), .val (.ref s2), .val (.ref b3), .val (.ref s10), .val (.ref b12), .val (.ref b17), .val (.ref b22), .val (.ref b26), .val (.int (1 : Int32)), .val (.int (1 : Int32)), .val (.int (1 : Int32))] [])) _
      refine XS.iload X32.here hx rfl (hb hby at_217) rfl ?_
      show Steps p.tables e below (T32.setTop (mkF m 219 #[.val (.int p1), .val (.int p2), .val (.int p3), .val (.int p4), .val (.int (own_ch u1)), .val (.int (own_ch u2)), .val (.int (own_ch u3)), .val (.int (own_ch u4)), .val (.ref s2), .val (.ref b3), .val (.ref s10), .val (.ref b12), .val (.ref b17), .val (.ref b22), .val (.ref b26), .val (.int (1 : Int32)), .val (.int (1 : Int32)), .val (.int (1 : Int32))] [(.int (1 : Int32))])) _
      refine XS.ifNo X32.here hx rfl (hb hby at_219) rfl ((if0 _ _).trans (feq ((by decide) : ¬ ((1 : Int32) = (0 : Int32)))).1) ?_
      show Steps p.tables e below (T32.setTop (mkF m 222 #[.val (.int p1), .val (.int p2), .val (.int p3), .val (.int p4), .val (.int (own_ch u1)), .val (.int (own_ch u2)), .val (.int (own_ch u3)), .val (.int (own_ch u4)), .val (.ref s2), .val (.ref b3), .val (.ref s10), .val (.ref b12), .val (.ref b17), .val (.ref b22), .val (.ref b26), .val (.int (1 : Int32)), .val (.int (1 : Int32)), .val (.int (1 : Int32))] [])) _
      refine XS.iload X32.here hx rfl (hb hby at_222) rfl ?_
      show Steps p.tables e below (T32.setTop (mkF m 224 #[.val (.int p1), .val (.int p2), .val (.int p3), .val (.int p4), .val (.int (own_ch u1)), .val (.int (own_ch u2)), .val (.int (own_ch u3)), .val (.int (own_ch u4)), .val (.ref s2), .val (.ref b3), .val (.ref s10), .val (.ref b12), .val (.ref b17), .val (.ref b22), .val (.ref b26), .val (.int (1 : Int32)), .val (.int (1 : Int32)), .val (.int (1 : Int32))] [(.int (1 : Int32))])) _
      refine XS.ifNo X32.here hx rfl (hb hby at_224) rfl ((if0 _ _).trans (feq ((by decide) : ¬ ((1 : Int32) = (0 : Int32)))).1) ?_
      show Steps p.tables e below (T32.setTop (mkF m 227 #[.val (.int p1), .val (.int p2), .val (.int p3), .val (.int p4), .val (.int (own_ch u1)), .val (.int (own_ch u2)), .val (.int (own_ch u3)), .val (.int (own_ch u4)), .val (.ref s2), .val (.ref b3), .val (.ref s10), .val (.ref b12), .val (.ref b17), .val (.ref b22), .val (.ref b26), .val (.int (1 : Int32)), .val (.int (1 : Int32)), .val (.int (1 : Int32))] [])) _
      refine XS.iload X32.here hx rfl (hb hby at_227) rfl ?_
      show Steps p.tables e below (T32.setTop (mkF m 229 #[.val (.int p1), .val (.int p2), .val (.int p3), .val (.int p4), .val (.int (own_ch u1)), .val (.int (own_ch u2)), .val (.int (own_ch u3)), .val (.int (own_ch u4)), .val (.ref s2), .val (.ref b3), .val (.ref s10), .val (.ref b12), .val (.ref b17), .val (.ref b22), .val (.ref b26), .val (.int (1 : Int32)), .val (.int (1 : Int32)), .val (.int (1 : Int32))] [(.int (1 : Int32))])) _
      refine XS.ifNo X32.here hx rfl (hb hby at_229) rfl ((if0 _ _).trans (feq ((by decide) : ¬ ((1 : Int32) = (0 : Int32)))).1) ?_
      show Steps p.tables e below (T32.setTop (mkF m 232 #[.val (.int p1), .val (.int p2), .val (.int p3), .val (.int p4), .val (.int (own_ch u1)), .val (.int (own_ch u2)), .val (.int (own_ch u3)), .val (.int (own_ch u4)), .val (.ref s2), .val (.ref b3), .val (.ref s10), .val (.ref b12), .val (.ref b17), .val (.ref b22), .val (.ref b26), .val (.int (1 : Int32)), .val (.int (1 : Int32)), .val (.int (1 : Int32))] [])) _
      refine XS.iconst X32.here hx rfl (hb hby at_232) ?_
      show Steps p.tables e below (T32.setTop (mkF m 233 #[.val (.int p1), .val (.int p2), .val (.int p3), .val (.int p4), .val (.int (own_ch u1)), .val (.int (own_ch u2)), .val (.int (own_ch u3)), .val (.int (own_ch u4)), .val (.ref s2), .val (.ref b3), .val (.ref s10), .val (.ref b12), .val (.ref b17), .val (.ref b22), .val (.ref b26), .val (.int (1 : Int32)), .val (.int (1 : Int32)), .val (.int (1 : Int32))] [(.int (1 : Int32))])) _
      refine XS.goto X32.here hx rfl (pc0 := 233) (pc' := 237) rfl (hb hby at_233) (by decide) (by decide) ?_
      show Steps p.tables e below (T32.setTop (mkF m 237 #[.val (.int p1), .val (.int p2), .val (.int p3), .val (.int p4), .val (.int (own_ch u1)), .val (.int (own_ch u2)), .val (.int (own_ch u3)), .val (.int (own_ch u4)), .val (.ref s2), .val (.ref b3), .val (.ref s10), .val (.ref b12), .val (.ref b17), .val (.ref b22), .val (.ref b26), .val (.int (1 : Int32)), .val (.int (1 : Int32)), .val (.int (1 : Int32))] [(.int (1 : Int32))])) _
      exact retN X32 hx (t := .boolean) Bd.returns (by simp) (hb hby at_237) hr
    · show Q0 n0 _ T32.heap _
      exact ⟨rfl, N32⟩
  · obtain ⟨cq33, kq33, q33a, q33b, q33c⟩ := isOf hZ e31 Dg_b22_Kc28.1
    obtain ⟨_, _, ⟨T33, L33, k33, n33⟩, -, X33, ⟨Lc33, hQ33, l33, y33, z33⟩, st33⟩ := X31.virtualBack hx (y := (⟨"com/example/keelson/keelson/bench/LineDigest", "sameLines", "(Lcom/example/keelson/keelson/bench/LineDigest;)Z"⟩ : MethodName)) (z := (⟨"com/example/keelson/keelson/bench/LineDigest", "sameLines", "(Lcom/example/keelson/keelson/bench/LineDigest;)Z"⟩ : MethodName)) hown (mvT hZ (hw _ (List.mem_of_getElem? (i := 108) rfl))) (mvT hZ (hw _ (List.mem_of_getElem? (i := 109) rfl))) (notFace_of_selects (args := #[]) (mvT hZ (hw _ (List.mem_of_getElem? (i := 111) rfl)))) (mvT hZ (hw _ (List.mem_of_getElem? (i := 111) rfl))) (mvT hZ (hw _ (List.mem_of_getElem? (i := 110) rfl))) (by decide) (backOf (W := 0) (rmD l Z a0 hw [] b22 b26 ((0 : Int64) + 1) ((0 : Int64) + own_F [u1]) ((0 : Int64) + own_G [u1]) ((0 : Int64) + 1) ((0 : Int64) + own_F [u4]) ((0 : Int64) + own_G [u4]) T28.heap n0 Zs28 Dg_b22_Kc28 Dn28) hZ (hw _ (List.mem_of_getElem? (i := 112) rfl)) (hw _ (List.mem_of_getElem? (i := 46) rfl)) (by decide) (by decide)) q33a q33c (g := (mkF m 192 #[.val (.int p1), .val (.int p2), .val (.int p3), .val (.int p4), .val (.int (own_ch u1)), .val (.int (own_ch u2)), .val (.int (own_ch u3)), .val (.int (own_ch u4)), .val (.ref s2), .val (.ref b3), .val (.ref s10), .val (.ref b12), .val (.ref b17), .val (.ref b22), .val (.ref b26), .val (.int (1 : Int32)), .val (.int (1 : Int32)), .unset] [(.ref b26), (.ref b22)])) rfl (by rw [hml]; rfl) (Steps.refl _) (argsL := [(.ref b26)]) (rest := []) (lenOf pd0_4 rfl) rfl (by show 2 * 0 + _ ≤ _; exact Nat.le_of_eq rfl) (hb hby at_192) (fun _ _ => ⟨rfl, e31, (by decide : 12 + 0 ≤ _), (by decide : 36 + 0 ≤ _)⟩)
    dsimp only [Pt.U, Pt.locs, Pt.cells, Pt.slots] at X33 l33 y33 z33 st33 hQ33
    subst l33 y33 z33
    obtain ⟨rfl, Nq33, e33⟩ := hQ33
    have N33 := Fr.app N31 Nq33
    rw [show own_same ((0 : Int64) + 1) ((0 : Int64) + own_F [u1]) ((0 : Int64) + own_G [u1]) ((0 : Int64) + 1) ((0 : Int64) + own_F [u4]) ((0 : Int64) + own_G [u4]) = 0 from by rw [own_same, if_neg (fun q => hcc (own_F_inj (own_ac q.2.1)))]] at st33
    obtain ⟨fs, hr, hrun, hended, hW, hsame⟩ := X33.leave (v := some (.int (1 : Int32))) (fun h => by rw [Bd.returns] at h; cases h)
    refine ⟨_, _, pre0 _ ?_, hrun, hended, _, _, rfl, ?_, ⟨_, rfl⟩, hW, hsame.mono (by decide) (by decide)⟩
    · show Steps p.tables e below (s₁.setTop (mkF m 0 #[.val (.int p1), .val (.int p2), .val (.int p3), .val (.int p4), .unset, .unset, .unset, .unset, .unset, .unset, .unset, .unset, .unset, .unset, .unset, .unset, .unset, .unset] [])) _
      refine XS.iloadN X0.here hx rfl (hb hby at_0) rfl ?_
      show Steps p.tables e below (s₁.setTop (mkF m 1 #[.val (.int p1), .val (.int p2), .val (.int p3), .val (.int p4), .unset, .unset, .unset, .unset, .unset, .unset, .unset, .unset, .unset, .unset, .unset, .unset, .unset, .unset] [(.int p1)])) _
      refine XS.i2c X0.here hx rfl (hb hby at_1) rfl ?_
      show Steps p.tables e below (s₁.setTop (mkF m 2 #[.val (.int p1), .val (.int p2), .val (.int p3), .val (.int p4), .unset, .unset, .unset, .unset, .unset, .unset, .unset, .unset, .unset, .unset, .unset, .unset, .unset, .unset] [(.int (p1.toUInt32.toUInt16.toUInt32.toInt32))])) _
      rw [show p1.toUInt32.toUInt16.toUInt32.toInt32 = own_ch u1 from by rw [hu1]; rfl]
      show Steps p.tables e below (s₁.setTop (mkF m 2 #[.val (.int p1), .val (.int p2), .val (.int p3), .val (.int p4), .unset, .unset, .unset, .unset, .unset, .unset, .unset, .unset, .unset, .unset, .unset, .unset, .unset, .unset] [(.int (own_ch u1))])) _
      refine XS.istore X0.here hx rfl (hb hby at_2) rfl (l' := #[.val (.int p1), .val (.int p2), .val (.int p3), .val (.int p4), .val (.int (own_ch u1)), .unset, .unset, .unset, .unset, .unset, .unset, .unset, .unset, .unset, .unset, .unset, .unset, .unset]) rfl ?_
      show Steps p.tables e below (s₁.setTop (mkF m 4 #[.val (.int p1), .val (.int p2), .val (.int p3), .val (.int p4), .val (.int (own_ch u1)), .unset, .unset, .unset, .unset, .unset, .unset, .unset, .unset, .unset, .unset, .unset, .unset, .unset] [])) _
      refine XS.iloadN X0.here hx rfl (hb hby at_4) rfl ?_
      show Steps p.tables e below (s₁.setTop (mkF m 5 #[.val (.int p1), .val (.int p2), .val (.int p3), .val (.int p4), .val (.int (own_ch u1)), .unset, .unset, .unset, .unset, .unset, .unset, .unset, .unset, .unset, .unset, .unset, .unset, .unset] [(.int p2)])) _
      refine XS.i2c X0.here hx rfl (hb hby at_5) rfl ?_
      show Steps p.tables e below (s₁.setTop (mkF m 6 #[.val (.int p1), .val (.int p2), .val (.int p3), .val (.int p4), .val (.int (own_ch u1)), .unset, .unset, .unset, .unset, .unset, .unset, .unset, .unset, .unset, .unset, .unset, .unset, .unset] [(.int (p2.toUInt32.toUInt16.toUInt32.toInt32))])) _
      rw [show p2.toUInt32.toUInt16.toUInt32.toInt32 = own_ch u2 from by rw [hu2]; rfl]
      show Steps p.tables e below (s₁.setTop (mkF m 6 #[.val (.int p1), .val (.int p2), .val (.int p3), .val (.int p4), .val (.int (own_ch u1)), .unset, .unset, .unset, .unset, .unset, .unset, .unset, .unset, .unset, .unset, .unset, .unset, .unset] [(.int (own_ch u2))])) _
      refine XS.istore X0.here hx rfl (hb hby at_6) rfl (l' := #[.val (.int p1), .val (.int p2), .val (.int p3), .val (.int p4), .val (.int (own_ch u1)), .val (.int (own_ch u2)), .unset, .unset, .unset, .unset, .unset, .unset, .unset, .unset, .unset, .unset, .unset, .unset]) rfl ?_
      show Steps p.tables e below (s₁.setTop (mkF m 8 #[.val (.int p1), .val (.int p2), .val (.int p3), .val (.int p4), .val (.int (own_ch u1)), .val (.int (own_ch u2)), .unset, .unset, .unset, .unset, .unset, .unset, .unset, .unset, .unset, .unset, .unset, .unset] [])) _
      refine XS.iloadN X0.here hx rfl (hb hby at_8) rfl ?_
      show Steps p.tables e below (s₁.setTop (mkF m 9 #[.val (.int p1), .val (.int p2), .val (.int p3), .val (.int p4), .val (.int (own_ch u1)), .val (.int (own_ch u2)), .unset, .unset, .unset, .unset, .unset, .unset, .unset, .unset, .unset, .unset, .unset, .unset] [(.int p3)])) _
      refine XS.i2c X0.here hx rfl (hb hby at_9) rfl ?_
      show Steps p.tables e below (s₁.setTop (mkF m 10 #[.val (.int p1), .val (.int p2), .val (.int p3), .val (.int p4), .val (.int (own_ch u1)), .val (.int (own_ch u2)), .unset, .unset, .unset, .unset, .unset, .unset, .unset, .unset, .unset, .unset, .unset, .unset] [(.int (p3.toUInt32.toUInt16.toUInt32.toInt32))])) _
      rw [show p3.toUInt32.toUInt16.toUInt32.toInt32 = own_ch u3 from by rw [hu3]; rfl]
      show Steps p.tables e below (s₁.setTop (mkF m 10 #[.val (.int p1), .val (.int p2), .val (.int p3), .val (.int p4), .val (.int (own_ch u1)), .val (.int (own_ch u2)), .unset, .unset, .unset, .unset, .unset, .unset, .unset, .unset, .unset, .unset, .unset, .unset] [(.int (own_ch u3))])) _
      refine XS.istore X0.here hx rfl (hb hby at_10) rfl (l' := #[.val (.int p1), .val (.int p2), .val (.int p3), .val (.int p4), .val (.int (own_ch u1)), .val (.int (own_ch u2)), .val (.int (own_ch u3)), .unset, .unset, .unset, .unset, .unset, .unset, .unset, .unset, .unset, .unset, .unset]) rfl ?_
      show Steps p.tables e below (s₁.setTop (mkF m 12 #[.val (.int p1), .val (.int p2), .val (.int p3), .val (.int p4), .val (.int (own_ch u1)), .val (.int (own_ch u2)), .val (.int (own_ch u3)), .unset, .unset, .unset, .unset, .unset, .unset, .unset, .unset, .unset, .unset, .unset] [])) _
      refine XS.iloadN X0.here hx rfl (hb hby at_12) rfl ?_
      show Steps p.tables e below (s₁.setTop (mkF m 13 #[.val (.int p1), .val (.int p2), .val (.int p3), .val (.int p4), .val (.int (own_ch u1)), .val (.int (own_ch u2)), .val (.int (own_ch u3)), .unset, .unset, .unset, .unset, .unset, .unset, .unset, .unset, .unset, .unset, .unset] [(.int p4)])) _
      refine XS.bipush X0.here hx rfl (hb hby at_13) ?_
      show Steps p.tables e below (s₁.setTop (mkF m 15 #[.val (.int p1), .val (.int p2), .val (.int p3), .val (.int p4), .val (.int (own_ch u1)), .val (.int (own_ch u2)), .val (.int (own_ch u3)), .unset, .unset, .unset, .unset, .unset, .unset, .unset, .unset, .unset, .unset, .unset] [(.int (16 : Int32)), (.int p4)])) _
      refine XS.iushr X0.here hx rfl (hb hby at_15) rfl ?_
      show Steps p.tables e below (s₁.setTop (mkF m 16 #[.val (.int p1), .val (.int p2), .val (.int p3), .val (.int p4), .val (.int (own_ch u1)), .val (.int (own_ch u2)), .val (.int (own_ch u3)), .unset, .unset, .unset, .unset, .unset, .unset, .unset, .unset, .unset, .unset, .unset] [(.int ((p4.toUInt32 >>> ((16 : Int32) &&& 31).toUInt32).toInt32))])) _
      refine XS.iconst X0.here hx rfl (hb hby at_16) ?_
      show Steps p.tables e below (s₁.setTop (mkF m 17 #[.val (.int p1), .val (.int p2), .val (.int p3), .val (.int p4), .val (.int (own_ch u1)), .val (.int (own_ch u2)), .val (.int (own_ch u3)), .unset, .unset, .unset, .unset, .unset, .unset, .unset, .unset, .unset, .unset, .unset] [(.int (1 : Int32)), (.int ((p4.toUInt32 >>> ((16 : Int32) &&& 31).toUInt32).toInt32))])) _
      refine XS.iand X0.here hx rfl (hb hby at_17) rfl ?_
      show Steps p.tables e below (s₁.setTop (mkF m 18 #[.val (.int p1), .val (.int p2), .val (.int p3), .val (.int p4), .val (.int (own_ch u1)), .val (.int (own_ch u2)), .val (.int (own_ch u3)), .unset, .unset, .unset, .unset, .unset, .unset, .unset, .unset, .unset, .unset, .unset] [(.int (((p4.toUInt32 >>> ((16 : Int32) &&& 31).toUInt32).toInt32) &&& (1 : Int32)))])) _
      refine st1 _ ?_
      show Steps p.tables e below (s₁.setTop (mkF m 28 #[.val (.int p1), .val (.int p2), .val (.int p3), .val (.int p4), .val (.int (own_ch u1)), .val (.int (own_ch u2)), .val (.int (own_ch u3)), .unset, .unset, .unset, .unset, .unset, .unset, .unset, .unset, .unset, .unset, .unset] [(.int (own_ch u4))])) _
      refine XS.istore X0.here hx rfl (hb hby at_28) rfl (l' := #[.val (.int p1), .val (.int p2), .val (.int p3), .val (.int p4), .val (.int (own_ch u1)), .val (.int (own_ch u2)), .val (.int (own_ch u3)), .val (.int (own_ch u4)), .unset, .unset, .unset, .unset, .unset, .unset, .unset, .unset, .unset, .unset]) rfl ?_
      show Steps p.tables e below (s₁.setTop (mkF m 30 #[.val (.int p1), .val (.int p2), .val (.int p3), .val (.int p4), .val (.int (own_ch u1)), .val (.int (own_ch u2)), .val (.int (own_ch u3)), .val (.int (own_ch u4)), .unset, .unset, .unset, .unset, .unset, .unset, .unset, .unset, .unset, .unset] [])) _
      refine XS.iload X0.here hx rfl (hb hby at_30) rfl ?_
      show Steps p.tables e below (s₁.setTop (mkF m 32 #[.val (.int p1), .val (.int p2), .val (.int p3), .val (.int p4), .val (.int (own_ch u1)), .val (.int (own_ch u2)), .val (.int (own_ch u3)), .val (.int (own_ch u4)), .unset, .unset, .unset, .unset, .unset, .unset, .unset, .unset, .unset, .unset] [(.int (own_ch u1))])) _
      refine st2 _ ?_
      show Steps p.tables e below (T2.setTop (mkF m 35 #[.val (.int p1), .val (.int p2), .val (.int p3), .val (.int p4), .val (.int (own_ch u1)), .val (.int (own_ch u2)), .val (.int (own_ch u3)), .val (.int (own_ch u4)), .unset, .unset, .unset, .unset, .unset, .unset, .unset, .unset, .unset, .unset] [(.ref s2)])) _
      refine XS.astore X2.here hx rfl (hb hby at_35) rfl rfl (l' := #[.val (.int p1), .val (.int p2), .val (.int p3), .val (.int p4), .val (.int (own_ch u1)), .val (.int (own_ch u2)), .val (.int (own_ch u3)), .val (.int (own_ch u4)), .val (.ref s2), .unset, .unset, .unset, .unset, .unset, .unset, .unset, .unset, .unset]) rfl ?_
      show Steps p.tables e below (T2.setTop (mkF m 37 #[.val (.int p1), .val (.int p2), .val (.int p3), .val (.int p4), .val (.int (own_ch u1)), .val (.int (own_ch u2)), .val (.int (own_ch u3)), .val (.int (own_ch u4)), .val (.ref s2), .unset, .unset, .unset, .unset, .unset, .unset, .unset, .unset, .unset] [])) _
      refine st3 _ ?_
      show Steps p.tables e below (T3.setTop (mkF m 40 #[.val (.int p1), .val (.int p2), .val (.int p3), .val (.int p4), .val (.int (own_ch u1)), .val (.int (own_ch u2)), .val (.int (own_ch u3)), .val (.int (own_ch u4)), .val (.ref s2), .unset, .unset, .unset, .unset, .unset, .unset, .unset, .unset, .unset] [(.ref b3)])) _
      refine XS.dup X3.here hx rfl (hb hby at_40) rfl rfl ?_
      show Steps p.tables e below (T3.setTop (mkF m 41 #[.val (.int p1), .val (.int p2), .val (.int p3), .val (.int p4), .val (.int (own_ch u1)), .val (.int (own_ch u2)), .val (.int (own_ch u3)), .val (.int (own_ch u4)), .val (.ref s2), .unset, .unset, .unset, .unset, .unset, .unset, .unset, .unset, .unset] [(.ref b3), (.ref b3)])) _
      refine XS.iconst X3.here hx rfl (hb hby at_41) ?_
      show Steps p.tables e below (T3.setTop (mkF m 42 #[.val (.int p1), .val (.int p2), .val (.int p3), .val (.int p4), .val (.int (own_ch u1)), .val (.int (own_ch u2)), .val (.int (own_ch u3)), .val (.int (own_ch u4)), .val (.ref s2), .unset, .unset, .unset, .unset, .unset, .unset, .unset, .unset, .unset] [(.int (2 : Int32)), (.ref b3), (.ref b3)])) _
      refine st4 _ ?_
      show Steps p.tables e below (T4.setTop (mkF m 44 #[.val (.int p1), .val (.int p2), .val (.int p3), .val (.int p4), .val (.int (own_ch u1)), .val (.int (own_ch u2)), .val (.int (own_ch u3)), .val (.int (own_ch u4)), .val (.ref s2), .unset, .unset, .unset, .unset, .unset, .unset, .unset, .unset, .unset] [(.ref b4), (.ref b3), (.ref b3)])) _
      refine XS.dup X4.here hx rfl (hb hby at_44) rfl rfl ?_
      show Steps p.tables e below (T4.setTop (mkF m 45 #[.val (.int p1), .val (.int p2), .val (.int p3), .val (.int p4), .val (.int (own_ch u1)), .val (.int (own_ch u2)), .val (.int (own_ch u3)), .val (.int (own_ch u4)), .val (.ref s2), .unset, .unset, .unset, .unset, .unset, .unset, .unset, .unset, .unset] [(.ref b4), (.ref b4), (.ref b3), (.ref b3)])) _
      refine XS.iconst X4.here hx rfl (hb hby at_45) ?_
      show Steps p.tables e below (T4.setTop (mkF m 46 #[.val (.int p1), .val (.int p2), .val (.int p3), .val (.int p4), .val (.int (own_ch u1)), .val (.int (own_ch u2)), .val (.int (own_ch u3)), .val (.int (own_ch u4)), .val (.ref s2), .unset, .unset, .unset, .unset, .unset, .unset, .unset, .unset, .unset] [(.int (0 : Int32)), (.ref b4), (.ref b4), (.ref b3), (.ref b3)])) _
      refine XS.iload X4.here hx rfl (hb hby at_46) rfl ?_
      show Steps p.tables e below (T4.setTop (mkF m 48 #[.val (.int p1), .val (.int p2), .val (.int p3), .val (.int p4), .val (.int (own_ch u1)), .val (.int (own_ch u2)), .val (.int (own_ch u3)), .val (.int (own_ch u4)), .val (.ref s2), .unset, .unset, .unset, .unset, .unset, .unset, .unset, .unset, .unset] [(.int (own_ch u2)), (.int (0 : Int32)), (.ref b4), (.ref b4), (.ref b3), (.ref b3)])) _
      refine st6 _ ?_
      show Steps p.tables e below (T6.setTop (mkF m 49 #[.val (.int p1), .val (.int p2), .val (.int p3), .val (.int p4), .val (.int (own_ch u1)), .val (.int (own_ch u2)), .val (.int (own_ch u3)), .val (.int (own_ch u4)), .val (.ref s2), .unset, .unset, .unset, .unset, .unset, .unset, .unset, .unset, .unset] [(.ref b4), (.ref b3), (.ref b3)])) _
      refine XS.dup X6.here hx rfl (hb hby at_49) rfl rfl ?_
      show Steps p.tables e below (T6.setTop (mkF m 50 #[.val (.int p1), .val (.int p2), .val (.int p3), .val (.int p4), .val (.int (own_ch u1)), .val (.int (own_ch u2)), .val (.int (own_ch u3)), .val (.int (own_ch u4)), .val (.ref s2), .unset, .unset, .unset, .unset, .unset, .unset, .unset, .unset, .unset] [(.ref b4), (.ref b4), (.ref b3), (.ref b3)])) _
      refine XS.iconst X6.here hx rfl (hb hby at_50) ?_
      show Steps p.tables e below (T6.setTop (mkF m 51 #[.val (.int p1), .val (.int p2), .val (.int p3), .val (.int p4), .val (.int (own_ch u1)), .val (.int (own_ch u2)), .val (.int (own_ch u3)), .val (.int (own_ch u4)), .val (.ref s2), .unset, .unset, .unset, .unset, .unset, .unset, .unset, .unset, .unset] [(.int (1 : Int32)), (.ref b4), (.ref b4), (.ref b3), (.ref b3)])) _
      refine XS.iload X6.here hx rfl (hb hby at_51) rfl ?_
      show Steps p.tables e below (T6.setTop (mkF m 53 #[.val (.int p1), .val (.int p2), .val (.int p3), .val (.int p4), .val (.int (own_ch u1)), .val (.int (own_ch u2)), .val (.int (own_ch u3)), .val (.int (own_ch u4)), .val (.ref s2), .unset, .unset, .unset, .unset, .unset, .unset, .unset, .unset, .unset] [(.int (own_ch u3)), (.int (1 : Int32)), (.ref b4), (.ref b4), (.ref b3), (.ref b3)])) _
      refine st8 _ ?_
      show Steps p.tables e below (T8.setTop (mkF m 54 #[.val (.int p1), .val (.int p2), .val (.int p3), .val (.int p4), .val (.int (own_ch u1)), .val (.int (own_ch u2)), .val (.int (own_ch u3)), .val (.int (own_ch u4)), .val (.ref s2), .unset, .unset, .unset, .unset, .unset, .unset, .unset, .unset, .unset] [(.ref b4), (.ref b3), (.ref b3)])) _
      refine st9.trans ?_
      show Steps p.tables e below (T9.setTop (mkF m 57 #[.val (.int p1), .val (.int p2), .val (.int p3), .val (.int p4), .val (.int (own_ch u1)), .val (.int (own_ch u2)), .val (.int (own_ch u3)), .val (.int (own_ch u4)), .val (.ref s2), .unset, .unset, .unset, .unset, .unset, .unset, .unset, .unset, .unset] [(.ref b3)])) _
      refine XS.astore X9.here hx rfl (hb hby at_57) rfl rfl (l' := #[.val (.int p1), .val (.int p2), .val (.int p3), .val (.int p4), .val (.int (own_ch u1)), .val (.int (own_ch u2)), .val (.int (own_ch u3)), .val (.int (own_ch u4)), .val (.ref s2), .val (.ref b3), .unset, .unset, .unset, .unset, .unset, .unset, .unset, .unset]) rfl ?_
      show Steps p.tables e below (T9.setTop (mkF m 59 #[.val (.int p1), .val (.int p2), .val (.int p3), .val (.int p4), .val (.int (own_ch u1)), .val (.int (own_ch u2)), .val (.int (own_ch u3)), .val (.int (own_ch u4)), .val (.ref s2), .val (.ref b3), .unset, .unset, .unset, .unset, .unset, .unset, .unset, .unset] [])) _
      refine XS.iload X9.here hx rfl (hb hby at_59) rfl ?_
      show Steps p.tables e below (T9.setTop (mkF m 61 #[.val (.int p1), .val (.int p2), .val (.int p3), .val (.int p4), .val (.int (own_ch u1)), .val (.int (own_ch u2)), .val (.int (own_ch u3)), .val (.int (own_ch u4)), .val (.ref s2), .val (.ref b3), .unset, .unset, .unset, .unset, .unset, .unset, .unset, .unset] [(.int (own_ch u4))])) _
      refine st10 _ ?_
      show Steps p.tables e below (T10.setTop (mkF m 64 #[.val (.int p1), .val (.int p2), .val (.int p3), .val (.int p4), .val (.int (own_ch u1)), .val (.int (own_ch u2)), .val (.int (own_ch u3)), .val (.int (own_ch u4)), .val (.ref s2), .val (.ref b3), .unset, .unset, .unset, .unset, .unset, .unset, .unset, .unset] [(.ref s10)])) _
      refine XS.astore X10.here hx rfl (hb hby at_64) rfl rfl (l' := #[.val (.int p1), .val (.int p2), .val (.int p3), .val (.int p4), .val (.int (own_ch u1)), .val (.int (own_ch u2)), .val (.int (own_ch u3)), .val (.int (own_ch u4)), .val (.ref s2), .val (.ref b3), .val (.ref s10), .unset, .unset, .unset, .unset, .unset, .unset, .unset]) rfl ?_
      show Steps p.tables e below (T10.setTop (mkF m 66 #[.val (.int p1), .val (.int p2), .val (.int p3), .val (.int p4), .val (.int (own_ch u1)), .val (.int (own_ch u2)), .val (.int (own_ch u3)), .val (.int (own_ch u4)), .val (.ref s2), .val (.ref b3), .val (.ref s10), .unset, .unset, .unset, .unset, .unset, .unset, .unset] [])) _
      refine st12 _ ?_
      show Steps p.tables e below (T12.setTop (mkF m 69 #[.val (.int p1), .val (.int p2), .val (.int p3), .val (.int p4), .val (.int (own_ch u1)), .val (.int (own_ch u2)), .val (.int (own_ch u3)), .val (.int (own_ch u4)), .val (.ref s2), .val (.ref b3), .val (.ref s10), .unset, .unset, .unset, .unset, .unset, .unset, .unset] [(.ref b12)])) _
      refine XS.dup X12.here hx rfl (hb hby at_69) rfl rfl ?_
      show Steps p.tables e below (T12.setTop (mkF m 70 #[.val (.int p1), .val (.int p2), .val (.int p3), .val (.int p4), .val (.int (own_ch u1)), .val (.int (own_ch u2)), .val (.int (own_ch u3)), .val (.int (own_ch u4)), .val (.ref s2), .val (.ref b3), .val (.ref s10), .unset, .unset, .unset, .unset, .unset, .unset, .unset] [(.ref b12), (.ref b12)])) _
      refine st13.trans ?_
      show Steps p.tables e below (T13.setTop (mkF m 73 #[.val (.int p1), .val (.int p2), .val (.int p3), .val (.int p4), .val (.int (own_ch u1)), .val (.int (own_ch u2)), .val (.int (own_ch u3)), .val (.int (own_ch u4)), .val (.ref s2), .val (.ref b3), .val (.ref s10), .unset, .unset, .unset, .unset, .unset, .unset, .unset] [(.ref b12)])) _
      refine XS.astore X13.here hx rfl (hb hby at_73) rfl rfl (l' := #[.val (.int p1), .val (.int p2), .val (.int p3), .val (.int p4), .val (.int (own_ch u1)), .val (.int (own_ch u2)), .val (.int (own_ch u3)), .val (.int (own_ch u4)), .val (.ref s2), .val (.ref b3), .val (.ref s10), .val (.ref b12), .unset, .unset, .unset, .unset, .unset, .unset]) rfl ?_
      show Steps p.tables e below (T13.setTop (mkF m 75 #[.val (.int p1), .val (.int p2), .val (.int p3), .val (.int p4), .val (.int (own_ch u1)), .val (.int (own_ch u2)), .val (.int (own_ch u3)), .val (.int (own_ch u4)), .val (.ref s2), .val (.ref b3), .val (.ref s10), .val (.ref b12), .unset, .unset, .unset, .unset, .unset, .unset] [])) _
      refine XS.aload X13.here hx rfl (hb hby at_75) rfl rfl ?_
      show Steps p.tables e below (T13.setTop (mkF m 77 #[.val (.int p1), .val (.int p2), .val (.int p3), .val (.int p4), .val (.int (own_ch u1)), .val (.int (own_ch u2)), .val (.int (own_ch u3)), .val (.int (own_ch u4)), .val (.ref s2), .val (.ref b3), .val (.ref s10), .val (.ref b12), .unset, .unset, .unset, .unset, .unset, .unset] [(.ref b12)])) _
      refine XS.aload X13.here hx rfl (hb hby at_77) rfl rfl ?_
      show Steps p.tables e below (T13.setTop (mkF m 79 #[.val (.int p1), .val (.int p2), .val (.int p3), .val (.int p4), .val (.int (own_ch u1)), .val (.int (own_ch u2)), .val (.int (own_ch u3)), .val (.int (own_ch u4)), .val (.ref s2), .val (.ref b3), .val (.ref s10), .val (.ref b12), .unset, .unset, .unset, .unset, .unset, .unset] [(.ref s2), (.ref b12)])) _
      refine st14.trans ?_
      show Steps p.tables e below (T14.setTop (mkF m 82 #[.val (.int p1), .val (.int p2), .val (.int p3), .val (.int p4), .val (.int (own_ch u1)), .val (.int (own_ch u2)), .val (.int (own_ch u3)), .val (.int (own_ch u4)), .val (.ref s2), .val (.ref b3), .val (.ref s10), .val (.ref b12), .unset, .unset, .unset, .unset, .unset, .unset] [])) _
      refine XS.aload X14.here hx rfl (hb hby at_82) rfl rfl ?_
      show Steps p.tables e below (T14.setTop (mkF m 84 #[.val (.int p1), .val (.int p2), .val (.int p3), .val (.int p4), .val (.int (own_ch u1)), .val (.int (own_ch u2)), .val (.int (own_ch u3)), .val (.int (own_ch u4)), .val (.ref s2), .val (.ref b3), .val (.ref s10), .val (.ref b12), .unset, .unset, .unset, .unset, .unset, .unset] [(.ref b12)])) _
      refine XS.aload X14.here hx rfl (hb hby at_84) rfl rfl ?_
      show Steps p.tables e below (T14.setTop (mkF m 86 #[.val (.int p1), .val (.int p2), .val (.int p3), .val (.int p4), .val (.int (own_ch u1)), .val (.int (own_ch u2)), .val (.int (own_ch u3)), .val (.int (own_ch u4)), .val (.ref s2), .val (.ref b3), .val (.ref s10), .val (.ref b12), .unset, .unset, .unset, .unset, .unset, .unset] [(.ref b3), (.ref b12)])) _
      refine st15.trans ?_
      show Steps p.tables e below (T15.setTop (mkF m 89 #[.val (.int p1), .val (.int p2), .val (.int p3), .val (.int p4), .val (.int (own_ch u1)), .val (.int (own_ch u2)), .val (.int (own_ch u3)), .val (.int (own_ch u4)), .val (.ref s2), .val (.ref b3), .val (.ref s10), .val (.ref b12), .unset, .unset, .unset, .unset, .unset, .unset] [])) _
      refine st17 _ ?_
      show Steps p.tables e below (T17.setTop (mkF m 92 #[.val (.int p1), .val (.int p2), .val (.int p3), .val (.int p4), .val (.int (own_ch u1)), .val (.int (own_ch u2)), .val (.int (own_ch u3)), .val (.int (own_ch u4)), .val (.ref s2), .val (.ref b3), .val (.ref s10), .val (.ref b12), .unset, .unset, .unset, .unset, .unset, .unset] [(.ref b17)])) _
      refine XS.dup X17.here hx rfl (hb hby at_92) rfl rfl ?_
      show Steps p.tables e below (T17.setTop (mkF m 93 #[.val (.int p1), .val (.int p2), .val (.int p3), .val (.int p4), .val (.int (own_ch u1)), .val (.int (own_ch u2)), .val (.int (own_ch u3)), .val (.int (own_ch u4)), .val (.ref s2), .val (.ref b3), .val (.ref s10), .val (.ref b12), .unset, .unset, .unset, .unset, .unset, .unset] [(.ref b17), (.ref b17)])) _
      refine st18.trans ?_
      show Steps p.tables e below (T18.setTop (mkF m 96 #[.val (.int p1), .val (.int p2), .val (.int p3), .val (.int p4), .val (.int (own_ch u1)), .val (.int (own_ch u2)), .val (.int (own_ch u3)), .val (.int (own_ch u4)), .val (.ref s2), .val (.ref b3), .val (.ref s10), .val (.ref b12), .unset, .unset, .unset, .unset, .unset, .unset] [(.ref b17)])) _
      refine XS.astore X18.here hx rfl (hb hby at_96) rfl rfl (l' := #[.val (.int p1), .val (.int p2), .val (.int p3), .val (.int p4), .val (.int (own_ch u1)), .val (.int (own_ch u2)), .val (.int (own_ch u3)), .val (.int (own_ch u4)), .val (.ref s2), .val (.ref b3), .val (.ref s10), .val (.ref b12), .val (.ref b17), .unset, .unset, .unset, .unset, .unset]) rfl ?_
      show Steps p.tables e below (T18.setTop (mkF m 98 #[.val (.int p1), .val (.int p2), .val (.int p3), .val (.int p4), .val (.int (own_ch u1)), .val (.int (own_ch u2)), .val (.int (own_ch u3)), .val (.int (own_ch u4)), .val (.ref s2), .val (.ref b3), .val (.ref s10), .val (.ref b12), .val (.ref b17), .unset, .unset, .unset, .unset, .unset] [])) _
      refine XS.aload X18.here hx rfl (hb hby at_98) rfl rfl ?_
      show Steps p.tables e below (T18.setTop (mkF m 100 #[.val (.int p1), .val (.int p2), .val (.int p3), .val (.int p4), .val (.int (own_ch u1)), .val (.int (own_ch u2)), .val (.int (own_ch u3)), .val (.int (own_ch u4)), .val (.ref s2), .val (.ref b3), .val (.ref s10), .val (.ref b12), .val (.ref b17), .unset, .unset, .unset, .unset, .unset] [(.ref b17)])) _
      refine XS.aload X18.here hx rfl (hb hby at_100) rfl rfl ?_
      show Steps p.tables e below (T18.setTop (mkF m 102 #[.val (.int p1), .val (.int p2), .val (.int p3), .val (.int p4), .val (.int (own_ch u1)), .val (.int (own_ch u2)), .val (.int (own_ch u3)), .val (.int (own_ch u4)), .val (.ref s2), .val (.ref b3), .val (.ref s10), .val (.ref b12), .val (.ref b17), .unset, .unset, .unset, .unset, .unset] [(.ref b3), (.ref b17)])) _
      refine st19.trans ?_
      show Steps p.tables e below (T19.setTop (mkF m 105 #[.val (.int p1), .val (.int p2), .val (.int p3), .val (.int p4), .val (.int (own_ch u1)), .val (.int (own_ch u2)), .val (.int (own_ch u3)), .val (.int (own_ch u4)), .val (.ref s2), .val (.ref b3), .val (.ref s10), .val (.ref b12), .val (.ref b17), .unset, .unset, .unset, .unset, .unset] [])) _
      refine XS.aload X19.here hx rfl (hb hby at_105) rfl rfl ?_
      show Steps p.tables e below (T19.setTop (mkF m 107 #[.val (.int p1), .val (.int p2), .val (.int p3), .val (.int p4), .val (.int (own_ch u1)), .val (.int (own_ch u2)), .val (.int (own_ch u3)), .val (.int (own_ch u4)), .val (.ref s2), .val (.ref b3), .val (.ref s10), .val (.ref b12), .val (.ref b17), .unset, .unset, .unset, .unset, .unset] [(.ref b17)])) _
      refine XS.aload X19.here hx rfl (hb hby at_107) rfl rfl ?_
      show Steps p.tables e below (T19.setTop (mkF m 109 #[.val (.int p1), .val (.int p2), .val (.int p3), .val (.int p4), .val (.int (own_ch u1)), .val (.int (own_ch u2)), .val (.int (own_ch u3)), .val (.int (own_ch u4)), .val (.ref s2), .val (.ref b3), .val (.ref s10), .val (.ref b12), .val (.ref b17), .unset, .unset, .unset, .unset, .unset] [(.ref s2), (.ref b17)])) _
      refine st20.trans ?_
      show Steps p.tables e below (T20.setTop (mkF m 112 #[.val (.int p1), .val (.int p2), .val (.int p3), .val (.int p4), .val (.int (own_ch u1)), .val (.int (own_ch u2)), .val (.int (own_ch u3)), .val (.int (own_ch u4)), .val (.ref s2), .val (.ref b3), .val (.ref s10), .val (.ref b12), .val (.ref b17), .unset, .unset, .unset, .unset, .unset] [])) _
      refine st22 _ ?_
      show Steps p.tables e below (T22.setTop (mkF m 115 #[.val (.int p1), .val (.int p2), .val (.int p3), .val (.int p4), .val (.int (own_ch u1)), .val (.int (own_ch u2)), .val (.int (own_ch u3)), .val (.int (own_ch u4)), .val (.ref s2), .val (.ref b3), .val (.ref s10), .val (.ref b12), .val (.ref b17), .unset, .unset, .unset, .unset, .unset] [(.ref b22)])) _
      refine XS.dup X22.here hx rfl (hb hby at_115) rfl rfl ?_
      show Steps p.tables e below (T22.setTop (mkF m 116 #[.val (.int p1), .val (.int p2), .val (.int p3), .val (.int p4), .val (.int (own_ch u1)), .val (.int (own_ch u2)), .val (.int (own_ch u3)), .val (.int (own_ch u4)), .val (.ref s2), .val (.ref b3), .val (.ref s10), .val (.ref b12), .val (.ref b17), .unset, .unset, .unset, .unset, .unset] [(.ref b22), (.ref b22)])) _
      refine st23.trans ?_
      show Steps p.tables e below (T23.setTop (mkF m 119 #[.val (.int p1), .val (.int p2), .val (.int p3), .val (.int p4), .val (.int (own_ch u1)), .val (.int (own_ch u2)), .val (.int (own_ch u3)), .val (.int (own_ch u4)), .val (.ref s2), .val (.ref b3), .val (.ref s10), .val (.ref b12), .val (.ref b17), .unset, .unset, .unset, .unset, .unset] [(.ref b22)])) _
      refine XS.astore X23.here hx rfl (hb hby at_119) rfl rfl (l' := #[.val (.int p1), .val (.int p2), .val (.int p3), .val (.int p4), .val (.int (own_ch u1)), .val (.int (own_ch u2)), .val (.int (own_ch u3)), .val (.int (own_ch u4)), .val (.ref s2), .val (.ref b3), .val (.ref s10), .val (.ref b12), .val (.ref b17), .val (.ref b22), .unset, .unset, .unset, .unset]) rfl ?_
      show Steps p.tables e below (T23.setTop (mkF m 121 #[.val (.int p1), .val (.int p2), .val (.int p3), .val (.int p4), .val (.int (own_ch u1)), .val (.int (own_ch u2)), .val (.int (own_ch u3)), .val (.int (own_ch u4)), .val (.ref s2), .val (.ref b3), .val (.ref s10), .val (.ref b12), .val (.ref b17), .val (.ref b22), .unset, .unset, .unset, .unset] [])) _
      refine XS.aload X23.here hx rfl (hb hby at_121) rfl rfl ?_
      show Steps p.tables e below (T23.setTop (mkF m 123 #[.val (.int p1), .val (.int p2), .val (.int p3), .val (.int p4), .val (.int (own_ch u1)), .val (.int (own_ch u2)), .val (.int (own_ch u3)), .val (.int (own_ch u4)), .val (.ref s2), .val (.ref b3), .val (.ref s10), .val (.ref b12), .val (.ref b17), .val (.ref b22), .unset, .unset, .unset, .unset] [(.ref b22)])) _
      refine XS.aload X23.here hx rfl (hb hby at_123) rfl rfl ?_
      show Steps p.tables e below (T23.setTop (mkF m 125 #[.val (.int p1), .val (.int p2), .val (.int p3), .val (.int p4), .val (.int (own_ch u1)), .val (.int (own_ch u2)), .val (.int (own_ch u3)), .val (.int (own_ch u4)), .val (.ref s2), .val (.ref b3), .val (.ref s10), .val (.ref b12), .val (.ref b17), .val (.ref b22), .unset, .unset, .unset, .unset] [(.ref s2), (.ref b22)])) _
      refine st24.trans ?_
      show Steps p.tables e below (T24.setTop (mkF m 128 #[.val (.int p1), .val (.int p2), .val (.int p3), .val (.int p4), .val (.int (own_ch u1)), .val (.int (own_ch u2)), .val (.int (own_ch u3)), .val (.int (own_ch u4)), .val (.ref s2), .val (.ref b3), .val (.ref s10), .val (.ref b12), .val (.ref b17), .val (.ref b22), .unset, .unset, .unset, .unset] [])) _
      refine st26 _ ?_
      show Steps p.tables e below (T26.setTop (mkF m 131 #[.val (.int p1), .val (.int p2), .val (.int p3), .val (.int p4), .val (.int (own_ch u1)), .val (.int (own_ch u2)), .val (.int (own_ch u3)), .val (.int (own_ch u4)), .val (.ref s2), .val (.ref b3), .val (.ref s10), .val (.ref b12), .val (.ref b17), .val (.ref b22), .unset, .unset, .unset, .unset] [(.ref b26)])) _
      refine XS.dup X26.here hx rfl (hb hby at_131) rfl rfl ?_
      show Steps p.tables e below (T26.setTop (mkF m 132 #[.val (.int p1), .val (.int p2), .val (.int p3), .val (.int p4), .val (.int (own_ch u1)), .val (.int (own_ch u2)), .val (.int (own_ch u3)), .val (.int (own_ch u4)), .val (.ref s2), .val (.ref b3), .val (.ref s10), .val (.ref b12), .val (.ref b17), .val (.ref b22), .unset, .unset, .unset, .unset] [(.ref b26), (.ref b26)])) _
      refine st27.trans ?_
      show Steps p.tables e below (T27.setTop (mkF m 135 #[.val (.int p1), .val (.int p2), .val (.int p3), .val (.int p4), .val (.int (own_ch u1)), .val (.int (own_ch u2)), .val (.int (own_ch u3)), .val (.int (own_ch u4)), .val (.ref s2), .val (.ref b3), .val (.ref s10), .val (.ref b12), .val (.ref b17), .val (.ref b22), .unset, .unset, .unset, .unset] [(.ref b26)])) _
      refine XS.astore X27.here hx rfl (hb hby at_135) rfl rfl (l' := #[.val (.int p1), .val (.int p2), .val (.int p3), .val (.int p4), .val (.int (own_ch u1)), .val (.int (own_ch u2)), .val (.int (own_ch u3)), .val (.int (own_ch u4)), .val (.ref s2), .val (.ref b3), .val (.ref s10), .val (.ref b12), .val (.ref b17), .val (.ref b22), .val (.ref b26), .unset, .unset, .unset]) rfl ?_
      show Steps p.tables e below (T27.setTop (mkF m 137 #[.val (.int p1), .val (.int p2), .val (.int p3), .val (.int p4), .val (.int (own_ch u1)), .val (.int (own_ch u2)), .val (.int (own_ch u3)), .val (.int (own_ch u4)), .val (.ref s2), .val (.ref b3), .val (.ref s10), .val (.ref b12), .val (.ref b17), .val (.ref b22), .val (.ref b26), .unset, .unset, .unset] [])) _
      refine XS.aload X27.here hx rfl (hb hby at_137) rfl rfl ?_
      show Steps p.tables e below (T27.setTop (mkF m 139 #[.val (.int p1), .val (.int p2), .val (.int p3), .val (.int p4), .val (.int (own_ch u1)), .val (.int (own_ch u2)), .val (.int (own_ch u3)), .val (.int (own_ch u4)), .val (.ref s2), .val (.ref b3), .val (.ref s10), .val (.ref b12), .val (.ref b17), .val (.ref b22), .val (.ref b26), .unset, .unset, .unset] [(.ref b26)])) _
      refine XS.aload X27.here hx rfl (hb hby at_139) rfl rfl ?_
      show Steps p.tables e below (T27.setTop (mkF m 141 #[.val (.int p1), .val (.int p2), .val (.int p3), .val (.int p4), .val (.int (own_ch u1)), .val (.int (own_ch u2)), .val (.int (own_ch u3)), .val (.int (own_ch u4)), .val (.ref s2), .val (.ref b3), .val (.ref s10), .val (.ref b12), .val (.ref b17), .val (.ref b22), .val (.ref b26), .unset, .unset, .unset] [(.ref s10), (.ref b26)])) _
      refine st28.trans ?_
      show Steps p.tables e below (T28.setTop (mkF m 144 #[.val (.int p1), .val (.int p2), .val (.int p3), .val (.int p4), .val (.int (own_ch u1)), .val (.int (own_ch u2)), .val (.int (own_ch u3)), .val (.int (own_ch u4)), .val (.ref s2), .val (.ref b3), .val (.ref s10), .val (.ref b12), .val (.ref b17), .val (.ref b22), .val (.ref b26), .unset, .unset, .unset] [])) _
      refine XS.aload X28.here hx rfl (hb hby at_144) rfl rfl ?_
      show Steps p.tables e below (T28.setTop (mkF m 146 #[.val (.int p1), .val (.int p2), .val (.int p3), .val (.int p4), .val (.int (own_ch u1)), .val (.int (own_ch u2)), .val (.int (own_ch u3)), .val (.int (own_ch u4)), .val (.ref s2), .val (.ref b3), .val (.ref s10), .val (.ref b12), .val (.ref b17), .val (.ref b22), .val (.ref b26), .unset, .unset, .unset] [(.ref b12)])) _
      refine XS.aload X28.here hx rfl (hb hby at_146) rfl rfl ?_
      show Steps p.tables e below (T28.setTop (mkF m 148 #[.val (.int p1), .val (.int p2), .val (.int p3), .val (.int p4), .val (.int (own_ch u1)), .val (.int (own_ch u2)), .val (.int (own_ch u3)), .val (.int (own_ch u4)), .val (.ref s2), .val (.ref b3), .val (.ref s10), .val (.ref b12), .val (.ref b17), .val (.ref b22), .val (.ref b26), .unset, .unset, .unset] [(.ref b17), (.ref b12)])) _
      refine st29.trans ?_
      show Steps p.tables e below (T29.setTop (mkF m 151 #[.val (.int p1), .val (.int p2), .val (.int p3), .val (.int p4), .val (.int (own_ch u1)), .val (.int (own_ch u2)), .val (.int (own_ch u3)), .val (.int (own_ch u4)), .val (.ref s2), .val (.ref b3), .val (.ref s10), .val (.ref b12), .val (.ref b17), .val (.ref b22), .val (.ref b26), .unset, .unset, .unset] [(.int (1 : Int32))])) _
      refine XS.ifNo X29.here hx rfl (hb hby at_151) rfl ((if0 _ _).trans (feq ((by decide) : ¬ ((1 : Int32) = (0 : Int32)))).1) ?_
      show Steps p.tables e below (T29.setTop (mkF m 154 #[.val (.int p1), .val (.int p2), .val (.int p3), .val (.int p4), .val (.int (own_ch u1)), .val (.int (own_ch u2)), .val (.int (own_ch u3)), .val (.int (own_ch u4)), .val (.ref s2), .val (.ref b3), .val (.ref s10), .val (.ref b12), .val (.ref b17), .val (.ref b22), .val (.ref b26), .unset, .unset, .unset] [])) _
      refine XS.aload X29.here hx rfl (hb hby at_154) rfl rfl ?_
      show Steps p.tables e below (T29.setTop (mkF m 156 #[.val (.int p1), .val (.int p2), .val (.int p3), .val (.int p4), .val (.int (own_ch u1)), .val (.int (own_ch u2)), .val (.int (own_ch u3)), .val (.int (own_ch u4)), .val (.ref s2), .val (.ref b3), .val (.ref s10), .val (.ref b12), .val (.ref b17), .val (.ref b22), .val (.ref b26), .unset, .unset, .unset] [(.ref b17)])) _
      refine XS.aload X29.here hx rfl (hb hby at_156) rfl rfl ?_
      show Steps p.tables e below (T29.setTop (mkF m 158 #[.val (.int p1), .val (.int p2), .val (.int p3), .val (.int p4), .val (.int (own_ch u1)), .val (.int (own_ch u2)), .val (.int (own_ch u3)), .val (.int (own_ch u4)), .val (.ref s2), .val (.ref b3), .val (.ref s10), .val (.ref b12), .val (.ref b17), .val (.ref b22), .val (.ref b26), .unset, .unset, .unset] [(.ref b12), (.ref b17)])) _
      refine st30.trans ?_
      show Steps p.tables e below (T30.setTop (mkF m 161 #[.val (.int p1), .val (.int p2), .val (.int p3), .val (.int p4), .val (.int (own_ch u1)), .val (.int (own_ch u2)), .val (.int (own_ch u3)), .val (.int (own_ch u4)), .val (.ref s2), .val (.ref b3), .val (.ref s10), .val (.ref b12), .val (.ref b17), .val (.ref b22), .val (.ref b26), .unset, .unset, .unset] [(.int (1 : Int32))])) _
      refine XS.ifNo X30.here hx rfl (hb hby at_161) rfl ((if0 _ _).trans (feq ((by decide) : ¬ ((1 : Int32) = (0 : Int32)))).1) ?_
      show Steps p.tables e below (T30.setTop (mkF m 164 #[.val (.int p1), .val (.int p2), .val (.int p3), .val (.int p4), .val (.int (own_ch u1)), .val (.int (own_ch u2)), .val (.int (own_ch u3)), .val (.int (own_ch u4)), .val (.ref s2), .val (.ref b3), .val (.ref s10), .val (.ref b12), .val (.ref b17), .val (.ref b22), .val (.ref b26), .unset, .unset, .unset] [])) _
      refine XS.iconst X30.here hx rfl (hb hby at_164) ?_
      show Steps p.tables e below (T30.setTop (mkF m 165 #[.val (.int p1), .val (.int p2), .val (.int p3), .val (.int p4), .val (.int (own_ch u1)), .val (.int (own_ch u2)), .val (.int (own_ch u3)), .val (.int (own_ch u4)), .val (.ref s2), .val (.ref b3), .val (.ref s10), .val (.ref b12), .val (.ref b17), .val (.ref b22), .val (.ref b26), .unset, .unset, .unset] [(.int (1 : Int32))])) _
      refine XS.goto X30.here hx rfl (pc0 := 165) (pc' := 169) rfl (hb hby at_165) (by decide) (by decide) ?_
      show Steps p.tables e below (T30.setTop (mkF m 169 #[.val (.int p1), .val (.int p2), .val (.int p3), .val (.int p4), .val (.int (own_ch u1)), .val (.int (own_ch u2)), .val (.int (own_ch u3)), .val (.int (own_ch u4)), .val (.ref s2), .val (.ref b3), .val (.ref s10), .val (.ref b12), .val (.ref b17), .val (.ref b22), .val (.ref b26), .unset, .unset, .unset] [(.int (1 : Int32))])) _
      refine XS.istore X30.here hx rfl (hb hby at_169) rfl (l' := #[.val (.int p1), .val (.int p2), .val (.int p3), .val (.int p4), .val (.int (own_ch u1)), .val (.int (own_ch u2)), .val (.int (own_ch u3)), .val (.int (own_ch u4)), .val (.ref s2), .val (.ref b3), .val (.ref s10), .val (.ref b12), .val (.ref b17), .val (.ref b22), .val (.ref b26), .val (.int (1 : Int32)), .unset, .unset]) rfl ?_
      show Steps p.tables e below (T30.setTop (mkF m 171 #[.val (.int p1), .val (.int p2), .val (.int p3), .val (.int p4), .val (.int (own_ch u1)), .val (.int (own_ch u2)), .val (.int (own_ch u3)), .val (.int (own_ch u4)), .val (.ref s2), .val (.ref b3), .val (.ref s10), .val (.ref b12), .val (.ref b17), .val (.ref b22), .val (.ref b26), .val (.int (1 : Int32)), .unset, .unset] [])) _
      refine XS.aload X30.here hx rfl (hb hby at_171) rfl rfl ?_
      show Steps p.tables e below (T30.setTop (mkF m 173 #[.val (.int p1), .val (.int p2), .val (.int p3), .val (.int p4), .val (.int (own_ch u1)), .val (.int (own_ch u2)), .val (.int (own_ch u3)), .val (.int (own_ch u4)), .val (.ref s2), .val (.ref b3), .val (.ref s10), .val (.ref b12), .val (.ref b17), .val (.ref b22), .val (.ref b26), .val (.int (1 : Int32)), .unset, .unset] [(.ref b12)])) _
      refine XS.aload X30.here hx rfl (hb hby at_173) rfl rfl ?_
      show Steps p.tables e below (T30.setTop (mkF m 175 #[.val (.int p1), .val (.int p2), .val (.int p3), .val (.int p4), .val (.int (own_ch u1)), .val (.int (own_ch u2)), .val (.int (own_ch u3)), .val (.int (own_ch u4)), .val (.ref s2), .val (.ref b3), .val (.ref s10), .val (.ref b12), .val (.ref b17), .val (.ref b22), .val (.ref b26), .val (.int (1 : Int32)), .unset, .unset] [(.ref b22), (.ref b12)])) _
      refine st31.trans ?_
      show Steps p.tables e below (T31.setTop (mkF m 178 #[.val (.int p1), .val (.int p2), .val (.int p3), .val (.int p4), .val (.int (own_ch u1)), .val (.int (own_ch u2)), .val (.int (own_ch u3)), .val (.int (own_ch u4)), .val (.ref s2), .val (.ref b3), .val (.ref s10), .val (.ref b12), .val (.ref b17), .val (.ref b22), .val (.ref b26), .val (.int (1 : Int32)), .unset, .unset] [(.int (0 : Int32))])) _
      refine XS.ifNo X31.here hx rfl (hb hby at_178) rfl ((if0 _ _).trans (teq (rfl : (0 : Int32) = (0 : Int32))).2) ?_
      show Steps p.tables e below (T31.setTop (mkF m 181 #[.val (.int p1), .val (.int p2), .val (.int p3), .val (.int p4), .val (.int (own_ch u1)), .val (.int (own_ch u2)), .val (.int (own_ch u3)), .val (.int (own_ch u4)), .val (.ref s2), .val (.ref b3), .val (.ref s10), .val (.ref b12), .val (.ref b17), .val (.ref b22), .val (.ref b26), .val (.int (1 : Int32)), .unset, .unset] [])) _
      refine XS.iconst X31.here hx rfl (hb hby at_181) ?_
      show Steps p.tables e below (T31.setTop (mkF m 182 #[.val (.int p1), .val (.int p2), .val (.int p3), .val (.int p4), .val (.int (own_ch u1)), .val (.int (own_ch u2)), .val (.int (own_ch u3)), .val (.int (own_ch u4)), .val (.ref s2), .val (.ref b3), .val (.ref s10), .val (.ref b12), .val (.ref b17), .val (.ref b22), .val (.ref b26), .val (.int (1 : Int32)), .unset, .unset] [(.int (1 : Int32))])) _
      refine XS.goto X31.here hx rfl (pc0 := 182) (pc' := 186) rfl (hb hby at_182) (by decide) (by decide) ?_
      show Steps p.tables e below (T31.setTop (mkF m 186 #[.val (.int p1), .val (.int p2), .val (.int p3), .val (.int p4), .val (.int (own_ch u1)), .val (.int (own_ch u2)), .val (.int (own_ch u3)), .val (.int (own_ch u4)), .val (.ref s2), .val (.ref b3), .val (.ref s10), .val (.ref b12), .val (.ref b17), .val (.ref b22), .val (.ref b26), .val (.int (1 : Int32)), .unset, .unset] [(.int (1 : Int32))])) _
      refine XS.istore X31.here hx rfl (hb hby at_186) rfl (l' := #[.val (.int p1), .val (.int p2), .val (.int p3), .val (.int p4), .val (.int (own_ch u1)), .val (.int (own_ch u2)), .val (.int (own_ch u3)), .val (.int (own_ch u4)), .val (.ref s2), .val (.ref b3), .val (.ref s10), .val (.ref b12), .val (.ref b17), .val (.ref b22), .val (.ref b26), .val (.int (1 : Int32)), .val (.int (1 : Int32)), .unset]) rfl ?_
      show Steps p.tables e below (T31.setTop (mkF m 188 #[.val (.int p1), .val (.int p2), .val (.int p3), .val (.int p4), .val (.int (own_ch u1)), .val (.int (own_ch u2)), .val (.int (own_ch u3)), .val (.int (own_ch u4)), .val (.ref s2), .val (.ref b3), .val (.ref s10), .val (.ref b12), .val (.ref b17), .val (.ref b22), .val (.ref b26), .val (.int (1 : Int32)), .val (.int (1 : Int32)), .unset] [])) _
      refine XS.aload X31.here hx rfl (hb hby at_188) rfl rfl ?_
      show Steps p.tables e below (T31.setTop (mkF m 190 #[.val (.int p1), .val (.int p2), .val (.int p3), .val (.int p4), .val (.int (own_ch u1)), .val (.int (own_ch u2)), .val (.int (own_ch u3)), .val (.int (own_ch u4)), .val (.ref s2), .val (.ref b3), .val (.ref s10), .val (.ref b12), .val (.ref b17), .val (.ref b22), .val (.ref b26), .val (.int (1 : Int32)), .val (.int (1 : Int32)), .unset] [(.ref b22)])) _
      refine XS.aload X31.here hx rfl (hb hby at_190) rfl rfl ?_
      show Steps p.tables e below (T31.setTop (mkF m 192 #[.val (.int p1), .val (.int p2), .val (.int p3), .val (.int p4), .val (.int (own_ch u1)), .val (.int (own_ch u2)), .val (.int (own_ch u3)), .val (.int (own_ch u4)), .val (.ref s2), .val (.ref b3), .val (.ref s10), .val (.ref b12), .val (.ref b17), .val (.ref b22), .val (.ref b26), .val (.int (1 : Int32)), .val (.int (1 : Int32)), .unset] [(.ref b26), (.ref b22)])) _
      refine st33.trans ?_
      show Steps p.tables e below (T33.setTop (mkF m 195 #[.val (.int p1), .val (.int p2), .val (.int p3), .val (.int p4), .val (.int (own_ch u1)), .val (.int (own_ch u2)), .val (.int (own_ch u3)), .val (.int (own_ch u4)), .val (.ref s2), .val (.ref b3), .val (.ref s10), .val (.ref b12), .val (.ref b17), .val (.ref b22), .val (.ref b26), .val (.int (1 : Int32)), .val (.int (1 : Int32)), .unset] [(.int (0 : Int32))])) _
      refine XS.iload X33.here hx rfl (hb hby at_195) rfl ?_
      show Steps p.tables e below (T33.setTop (mkF m 197 #[.val (.int p1), .val (.int p2), .val (.int p3), .val (.int p4), .val (.int (own_ch u1)), .val (.int (own_ch u2)), .val (.int (own_ch u3)), .val (.int (own_ch u4)), .val (.ref s2), .val (.ref b3), .val (.ref s10), .val (.ref b12), .val (.ref b17), .val (.ref b22), .val (.ref b26), .val (.int (1 : Int32)), .val (.int (1 : Int32)), .unset] [(.int (own_ch u1)), (.int (0 : Int32))])) _
      refine XS.iload X33.here hx rfl (hb hby at_197) rfl ?_
      show Steps p.tables e below (T33.setTop (mkF m 199 #[.val (.int p1), .val (.int p2), .val (.int p3), .val (.int p4), .val (.int (own_ch u1)), .val (.int (own_ch u2)), .val (.int (own_ch u3)), .val (.int (own_ch u4)), .val (.ref s2), .val (.ref b3), .val (.ref s10), .val (.ref b12), .val (.ref b17), .val (.ref b22), .val (.ref b26), .val (.int (1 : Int32)), .val (.int (1 : Int32)), .unset] [(.int (own_ch u4)), (.int (own_ch u1)), (.int (0 : Int32))])) _
      refine XS.icmpYes X33.here hx rfl (pc0 := 199) (pc' := 206) rfl (hb hby at_199) rfl (feq (hcc : ¬ ((own_ch u1) = (own_ch u4)))).2 (by decide) (by decide) ?_
      show Steps p.tables e below (T33.setTop (mkF m 206 #[.val (.int p1), .val (.int p2), .val (.int p3), .val (.int p4), .val (.int (own_ch u1)), .val (.int (own_ch u2)), .val (.int (own_ch u3)), .val (.int (own_ch u4)), .val (.ref s2), .val (.ref b3), .val (.ref s10), .val (.ref b12), .val (.ref b17), .val (.ref b22), .val (.ref b26), .val (.int (1 : Int32)), .val (.int (1 : Int32)), .unset] [(.int (0 : Int32))])) _
      refine XS.iconst X33.here hx rfl (hb hby at_206) ?_
      show Steps p.tables e below (T33.setTop (mkF m 207 #[.val (.int p1), .val (.int p2), .val (.int p3), .val (.int p4), .val (.int (own_ch u1)), .val (.int (own_ch u2)), .val (.int (own_ch u3)), .val (.int (own_ch u4)), .val (.ref s2), .val (.ref b3), .val (.ref s10), .val (.ref b12), .val (.ref b17), .val (.ref b22), .val (.ref b26), .val (.int (1 : Int32)), .val (.int (1 : Int32)), .unset] [(.int (0 : Int32)), (.int (0 : Int32))])) _
      refine XS.icmpNo X33.here hx rfl (hb hby at_207) rfl (teq (rfl : (0 : Int32) = (0 : Int32))).2 ?_
      show Steps p.tables e below (T33.setTop (mkF m 210 #[.val (.int p1), .val (.int p2), .val (.int p3), .val (.int p4), .val (.int (own_ch u1)), .val (.int (own_ch u2)), .val (.int (own_ch u3)), .val (.int (own_ch u4)), .val (.ref s2), .val (.ref b3), .val (.ref s10), .val (.ref b12), .val (.ref b17), .val (.ref b22), .val (.ref b26), .val (.int (1 : Int32)), .val (.int (1 : Int32)), .unset] [])) _
      refine XS.iconst X33.here hx rfl (hb hby at_210) ?_
      show Steps p.tables e below (T33.setTop (mkF m 211 #[.val (.int p1), .val (.int p2), .val (.int p3), .val (.int p4), .val (.int (own_ch u1)), .val (.int (own_ch u2)), .val (.int (own_ch u3)), .val (.int (own_ch u4)), .val (.ref s2), .val (.ref b3), .val (.ref s10), .val (.ref b12), .val (.ref b17), .val (.ref b22), .val (.ref b26), .val (.int (1 : Int32)), .val (.int (1 : Int32)), .unset] [(.int (1 : Int32))])) _
      refine XS.goto X33.here hx rfl (pc0 := 211) (pc' := 215) rfl (hb hby at_211) (by decide) (by decide) ?_
      show Steps p.tables e below (T33.setTop (mkF m 215 #[.val (.int p1), .val (.int p2), .val (.int p3), .val (.int p4), .val (.int (own_ch u1)), .val (.int (own_ch u2)), .val (.int (own_ch u3)), .val (.int (own_ch u4)), .val (.ref s2), .val (.ref b3), .val (.ref s10), .val (.ref b12), .val (.ref b17), .val (.ref b22), .val (.ref b26), .val (.int (1 : Int32)), .val (.int (1 : Int32)), .unset] [(.int (1 : Int32))])) _
      refine XS.istore X33.here hx rfl (hb hby at_215) rfl (l' := #[.val (.int p1), .val (.int p2), .val (.int p3), .val (.int p4), .val (.int (own_ch u1)), .val (.int (own_ch u2)), .val (.int (own_ch u3)), .val (.int (own_ch u4)), .val (.ref s2), .val (.ref b3), .val (.ref s10), .val (.ref b12), .val (.ref b17), .val (.ref b22), .val (.ref b26), .val (.int (1 : Int32)), .val (.int (1 : Int32)), .val (.int (1 : Int32))]) rfl ?_
      show Steps p.tables e below (T33.setTop (mkF m 217 #[.val (.int p1), .val (.int p2), .val (.int p3), .val (.int p4), .val (.int (own_ch u1)), .val (.int (own_ch u2)), .val (.int (own_ch u3)), .val (.int (own_ch u4)), .val (.ref s2), .val (.ref b3), .val (.ref s10), .val (.ref b12), .val (.ref b17), .val (.ref b22), .val (.ref b26), .val (.int (1 : Int32)), .val (.int (1 : Int32)), .val (.int (1 : Int32))] [])) _
      refine XS.iload X33.here hx rfl (hb hby at_217) rfl ?_
      show Steps p.tables e below (T33.setTop (mkF m 219 #[.val (.int p1), .val (.int p2), .val (.int p3), .val (.int p4), .val (.int (own_ch u1)), .val (.int (own_ch u2)), .val (.int (own_ch u3)), .val (.int (own_ch u4)), .val (.ref s2), .val (.ref b3), .val (.ref s10), .val (.ref b12), .val (.ref b17), .val (.ref b22), .val (.ref b26), .val (.int (1 : Int32)), .val (.int (1 : Int32)), .val (.int (1 : Int32))] [(.int (1 : Int32))])) _
      refine XS.ifNo X33.here hx rfl (hb hby at_219) rfl ((if0 _ _).trans (feq ((by decide) : ¬ ((1 : Int32) = (0 : Int32)))).1) ?_
      show Steps p.tables e below (T33.setTop (mkF m 222 #[.val (.int p1), .val (.int p2), .val (.int p3), .val (.int p4), .val (.int (own_ch u1)), .val (.int (own_ch u2)), .val (.int (own_ch u3)), .val (.int (own_ch u4)), .val (.ref s2), .val (.ref b3), .val (.ref s10), .val (.ref b12), .val (.ref b17), .val (.ref b22), .val (.ref b26), .val (.int (1 : Int32)), .val (.int (1 : Int32)), .val (.int (1 : Int32))] [])) _
      refine XS.iload X33.here hx rfl (hb hby at_222) rfl ?_
      show Steps p.tables e below (T33.setTop (mkF m 224 #[.val (.int p1), .val (.int p2), .val (.int p3), .val (.int p4), .val (.int (own_ch u1)), .val (.int (own_ch u2)), .val (.int (own_ch u3)), .val (.int (own_ch u4)), .val (.ref s2), .val (.ref b3), .val (.ref s10), .val (.ref b12), .val (.ref b17), .val (.ref b22), .val (.ref b26), .val (.int (1 : Int32)), .val (.int (1 : Int32)), .val (.int (1 : Int32))] [(.int (1 : Int32))])) _
      refine XS.ifNo X33.here hx rfl (hb hby at_224) rfl ((if0 _ _).trans (feq ((by decide) : ¬ ((1 : Int32) = (0 : Int32)))).1) ?_
      show Steps p.tables e below (T33.setTop (mkF m 227 #[.val (.int p1), .val (.int p2), .val (.int p3), .val (.int p4), .val (.int (own_ch u1)), .val (.int (own_ch u2)), .val (.int (own_ch u3)), .val (.int (own_ch u4)), .val (.ref s2), .val (.ref b3), .val (.ref s10), .val (.ref b12), .val (.ref b17), .val (.ref b22), .val (.ref b26), .val (.int (1 : Int32)), .val (.int (1 : Int32)), .val (.int (1 : Int32))] [])) _
      refine XS.iload X33.here hx rfl (hb hby at_227) rfl ?_
      show Steps p.tables e below (T33.setTop (mkF m 229 #[.val (.int p1), .val (.int p2), .val (.int p3), .val (.int p4), .val (.int (own_ch u1)), .val (.int (own_ch u2)), .val (.int (own_ch u3)), .val (.int (own_ch u4)), .val (.ref s2), .val (.ref b3), .val (.ref s10), .val (.ref b12), .val (.ref b17), .val (.ref b22), .val (.ref b26), .val (.int (1 : Int32)), .val (.int (1 : Int32)), .val (.int (1 : Int32))] [(.int (1 : Int32))])) _
      refine XS.ifNo X33.here hx rfl (hb hby at_229) rfl ((if0 _ _).trans (feq ((by decide) : ¬ ((1 : Int32) = (0 : Int32)))).1) ?_
      show Steps p.tables e below (T33.setTop (mkF m 232 #[.val (.int p1), .val (.int p2), .val (.int p3), .val (.int p4), .val (.int (own_ch u1)), .val (.int (own_ch u2)), .val (.int (own_ch u3)), .val (.int (own_ch u4)), .val (.ref s2), .val (.ref b3), .val (.ref s10), .val (.ref b12), .val (.ref b17), .val (.ref b22), .val (.ref b26), .val (.int (1 : Int32)), .val (.int (1 : Int32)), .val (.int (1 : Int32))] [])) _
      refine XS.iconst X33.here hx rfl (hb hby at_232) ?_
      show Steps p.tables e below (T33.setTop (mkF m 233 #[.val (.int p1), .val (.int p2), .val (.int p3), .val (.int p4), .val (.int (own_ch u1)), .val (.int (own_ch u2)), .val (.int (own_ch u3)), .val (.int (own_ch u4)), .val (.ref s2), .val (.ref b3), .val (.ref s10), .val (.ref b12), .val (.ref b17), .val (.ref b22), .val (.ref b26), .val (.int (1 : Int32)), .val (.int (1 : Int32)), .val (.int (1 : Int32))] [(.int (1 : Int32))])) _
      refine XS.goto X33.here hx rfl (pc0 := 233) (pc' := 237) rfl (hb hby at_233) (by decide) (by decide) ?_
      show Steps p.tables e below (T33.setTop (mkF m 237 #[.val (.int p1), .val (.int p2), .val (.int p3), .val (.int p4), .val (.int (own_ch u1)), .val (.int (own_ch u2)), .val (.int (own_ch u3)), .val (.int (own_ch u4)), .val (.ref s2), .val (.ref b3), .val (.ref s10), .val (.ref b12), .val (.ref b17), .val (.ref b22), .val (.ref b26), .val (.int (1 : Int32)), .val (.int (1 : Int32)), .val (.int (1 : Int32))] [(.int (1 : Int32))])) _
      exact retN X33 hx (t := .boolean) Bd.returns (by simp) (hb hby at_237) hr
    · show Q0 n0 _ T33.heap _
      exact ⟨rfl, N33⟩
set_option maxRecDepth 65536 in
set_option maxHeartbeats 40000000 in
theorem comes_1 {Post : Tables → Env → Array Value → State → Outcome → State → Prop} (hpost : ∀ tb e args s v u, (limb_1_1.after args s (.returned v) u = true ∧ limb_1_2.after args s (.returned v) u = true ∧ True) → FrameEnd s (.returned v) u (Jvm.fieldLocs frame_1_writes args s ++ Jvm.arrayLocs frame_1_arrays args s ++ Jvm.staticLocs frame_1_statics s) 32 192 → Post tb e args s (.returned v) u) :
    ArmFor flags0 classFile x code maxLocals ret World_1 tables_1 room_1 Calls_1 rest_1 Pre_1 Post := by
  intro l hfl _ _ p e ha hc hk s m args below hf hA hF happ hP
  obtain ⟨hcalls, hrest, hpre⟩ := hP
  obtain ⟨-, -, -, hnamed, -, -, -, hat⟩ := (Spec.applies_iff hf).mp happ
  obtain ⟨hg, hn⟩ := and_e (Cond.before_iff.mp (show (Jvm.Cond.and given_1 narrow_1).before args s = true from hpre))
  obtain ⟨u0, u1⟩ := and_e hg
  obtain ⟨v0, u2⟩ := and_e u1
  obtain ⟨v1, u3⟩ := and_e u2
  obtain ⟨v2, u4⟩ := and_e u3
  have v3 := u4
  obtain ⟨w0, w1, w2, w3, rfl⟩ : ∃ w0 w1 w2 w3 : Value, args = #[w0, w1, w2, w3] := by
    have hs : args.size = 4 := by simpa [Cond.value, given_1] using u0
    obtain ⟨L⟩ := args
    match L, hs with
    | [w0, w1, w2, w3], _ => exact ⟨w0, w1, w2, w3, rfl⟩
  have hw := fun d (hd : d ∈ tables_1) => atoms_spec (ws := Jvm.Cond.code x code maxLocals ret :: tables_1) hat d (List.mem_cons_of_mem _ hd)
  obtain ⟨i0, ei0⟩ := is_v v0
  obtain rfl : w0 = (.int i0) := Option.some.inj ei0
  obtain ⟨i1, ei1⟩ := is_v v1
  obtain rfl : w1 = (.int i1) := Option.some.inj ei1
  obtain ⟨i2, ei2⟩ := is_v v2
  obtain rfl : w2 = (.int i2) := Option.some.inj ei2
  obtain ⟨i3, ei3⟩ := is_v v3
  obtain rfl : w3 = (.int i3) := Option.some.inj ei3
  obtain ⟨hsets, hown0⟩ := atoms_of _ (rest_1_c_eq ▸ (show rest_1_c.before _ s = true from hrest))
  have n3 := not_v (Cond.before_iff.mp (hsets _ (List.mem_of_getElem? (i := 2) rfl)))
  obtain ⟨csx, e6⟩ := is_v (Cond.before_iff.mp (hsets _ (List.mem_of_getElem? (i := 1) rfl)))
  obtain ⟨vF, e10, r11⟩ := isR_v (Cond.before_iff.mp (hsets _ (List.mem_of_getElem? (i := 8) rfl)))
  have St : own_St s csx vF := ⟨Sta.start e6 (Or.inl (hsets _ (List.mem_of_getElem? (i := 0) rfl))), gotF (Cond.eq_ints e6 (Term.int_eval (0))) n3, Sta.start e10 (Or.inl (hsets _ (List.mem_of_getElem? (i := 7) rfl))), r11, Sta.start (own_eq_int (Cond.before_iff.mp (hsets _ (List.mem_of_getElem? (i := 12) rfl)))) (Or.inl (hsets _ (List.mem_of_getElem? (i := 11) rfl))), Sta.start (own_eq_int (Cond.before_iff.mp (hsets _ (List.mem_of_getElem? (i := 15) rfl)))) (Or.inl (hsets _ (List.mem_of_getElem? (i := 14) rfl))), Sta.start (own_eq_int (Cond.before_iff.mp (hsets _ (List.mem_of_getElem? (i := 18) rfl)))) (Or.inl (hsets _ (List.mem_of_getElem? (i := 17) rfl)))⟩
  obtain ⟨n, o, h1, h2, h3, _, L, rfl, ⟨rfl, N⟩, hq⟩ := rm0 l s _ hw tables_1 csx vF i0 i1 i2 i3 s.heap s.heap.size (Nat.le_refl _) St (Old.start s) p e ha hc hk s m _ below hf ((Spec.applies_iff_loose hf).mp happ).1 ⟨rfl, State.Warmed39.refl s, rfl⟩ trivial
  refine ⟨n, _, h1, h2, h3, hpost _ _ _ _ _ _ ⟨Cond.after_iff.mpr rfl, Cond.after_iff.mpr (eq_i res_at (Term.int_eval (1)) rfl), trivial⟩ ⟨hq.1, hq.2.1, (hq.2.2.sift fun y hy => Or.inr (N y hy)).mono (by decide) (by decide)⟩⟩
theorem main_1_1 : Claimed_1_1 := comes_1 fun _ _ _ _ _ _ h hF => ⟨h.1, hF⟩
theorem main_1_2 : Claimed_1_2 := comes_1 fun _ _ _ _ _ _ h hF => ⟨h.2.1, hF⟩
end Jvm.Pilot.@@N@@
namespace Jvm.Pilot.@@N@@
open Jvm Jvm.ClassFile Sem Op Lib Jvm.Free Jvm.Stand Jvm.Pilot.@@N@@.Jvm.D
/-! MADE BY PROGRAM (witnessworld.py) out of the Statement's table words and the real class files: 22 classes; the members and pool entries that the words name. The judged class is class 1, her method 1. -/
namespace start1
open Jvm.ClassFile
def u (s : String) : CpInfo := .utf8 (stringToUtf16 s)
/-- a pool by its gaps: so many unusable entries, then the entry; so many at the end -/
def gap : Nat → List CpInfo → List CpInfo
  | 0, r => r
  | n + 1, r => .unusable :: gap n r
def poolList (es : List (Nat × CpInfo)) (last : Nat) : List CpInfo := es.foldr (fun e r => gap e.1 (e.2 :: r)) (gap last [])
def pool (es : List (Nat × CpInfo)) (last : Nat) : Array CpInfo := ⟨poolList es last⟩
def fileOf (pool : Array CpInfo) (this : Nat) (attrs : Array Attribute := #[]) (ms : Array MethodInfo := #[]) (fl : Nat := 33) (sup : Nat := 0) (ifs : Array Nat := #[]) (fds : Array FieldInfo := #[]) : ClassFile where
  minorVersion := 0
  majorVersion := 65
  constantPool := pool
  accessFlags := fl
  thisClass := this
  superClass := sup
  interfaces := ifs
  fields := fds
  methods := ms
  attributes := attrs
def plain (name : String) (sup : Option ClassId) : Class where
  name := name
  kind := .ordinary
  loader := none
  accessFlags := 33
  super := sup
  interfaces := #[]
  cf := none
  fields := #[]
  methods := #[]
  instanceTypes := #[]
  staticTypes := #[]
  resolved := #[]
  callSites := []
  init := .initialized
  statics := none
  mirror := none

def pool0 : Array CpInfo := pool [(5, u "<init>"), (0, u "()V"), (1, .class_ 10), (1, u "java/lang/Object")] 113

def k0c0 : Code := { maxStack := 0, maxLocals := 1, code := object_method_1_code, exceptionTable := #[], attributes := #[] }
def k0m0 : Method := { name := "<init>", desc := "()V", sig := { parameters := [], returnType := none }, accessFlags := 1, code := some k0c0 }
/-- java/lang/Object -/
def k0 : Class := { plain "java/lang/Object" none with
  accessFlags := 33
  interfaces := #[]
  cf := some (fileOf pool0 8 #[] #[{ accessFlags := 1, nameIndex := 5, descriptorIndex := 6, attributes := #[] }] 33 0 #[] #[])
  fields := #[]
  methods := #[k0m0]
  instanceTypes := #[]
  staticTypes := #[]
  resolved := Array.replicate 124 none
  statics := none }

def pool1 : Array CpInfo := pool [(2, .class_ 4), (0, .nameAndType 5 6), (0, u "java/lang/Object"), (0, u "<init>"), (0, u "()V"), (0, .methodref 8 9), (0, .class_ 10), (0, .nameAndType 11 12), (0, u "java/lang/String"), (0, u "valueOf"), (0, u "(C)Ljava/lang/String;"), (0, .methodref 8 14), (0, .nameAndType 5 15), (0, u "([C)V"), (0, .class_ 17), (0, u "com/example/keelson/keelson/bench/LineDigest"), (0, .methodref 16 3), (0, .methodref 16 20), (0, .nameAndType 21 22), (0, u "add"), (0, u "(Ljava/lang/String;)V"), (0, .methodref 16 24), (0, .nameAndType 25 26), (0, u "sameLines"), (0, u "(Lcom/example/keelson/keelson/bench/LineDigest;)Z"), (0, .class_ 28), (0, u "com/example/keelson/keelson/bench/LineDigestSameLinesPinLaw"), (2, u "law"), (0, u "(IIII)Z")] 3

def k1m0 : Method := { name := "<init>", desc := "()V", sig := { parameters := [], returnType := none }, accessFlags := 1, code := none }
def k1c1 : Code := { maxStack := 6, maxLocals := 18, code := code, exceptionTable := #[], attributes := #[] }
def k1m1 : Method := { name := "law", desc := "(IIII)Z", sig := { parameters := [.int, .int, .int, .int], returnType := some .boolean }, accessFlags := 9, code := some k1c1 }
/-- com/example/keelson/keelson/bench/LineDigestSameLinesPinLaw -/
def k1 : Class := { plain "com/example/keelson/keelson/bench/LineDigestSameLinesPinLaw" (some 0) with
  accessFlags := 49
  interfaces := #[]
  cf := some (fileOf pool1 27 #[] #[{ accessFlags := 1, nameIndex := 5, descriptorIndex := 6, attributes := #[] }, { accessFlags := 9, nameIndex := 31, descriptorIndex := 32, attributes := #[] }] 49 2 #[] #[])
  fields := #[]
  methods := #[k1m0, k1m1]
  instanceTypes := #[]
  staticTypes := #[]
  resolved := Array.replicate 36 none
  statics := none }

def pool2 : Array CpInfo := pool [(1, .class_ 2), (0, u "java/io/Serializable"), (0, .class_ 4), (0, u "java/lang/Object")] 2

/-- java/io/Serializable -/
def k2 : Class := { plain "java/io/Serializable" (some 0) with
  accessFlags := 1537
  interfaces := #[]
  cf := some (fileOf pool2 1 #[] #[] 1537 3 #[] #[])
  fields := #[]
  methods := #[]
  instanceTypes := #[]
  staticTypes := #[]
  resolved := Array.replicate 7 none
  statics := none }

def pool3 : Array CpInfo := pool [(1, .class_ 2), (0, u "java/lang/Comparable"), (0, .class_ 4), (0, u "java/lang/Object")] 7

/-- java/lang/Comparable -/
def k3 : Class := { plain "java/lang/Comparable" (some 0) with
  accessFlags := 1537
  interfaces := #[]
  cf := some (fileOf pool3 1 #[] #[] 1537 3 #[] #[])
  fields := #[]
  methods := #[]
  instanceTypes := #[]
  staticTypes := #[]
  resolved := Array.replicate 12 none
  statics := none }

def pool4 : Array CpInfo := pool [(2, .class_ 4), (1, u "java/lang/CharSequence"), (42, .class_ 48), (0, u "java/lang/CharSequence$1CodePointIterator"), (10, .class_ 60), (0, u "java/lang/CharSequence$1CharIterator"), (5, .class_ 67), (0, u "java/lang/Object")] 63

/-- java/lang/CharSequence -/
def k4 : Class := { plain "java/lang/CharSequence" (some 0) with
  accessFlags := 1537
  interfaces := #[]
  cf := some (fileOf pool4 2 #[.nestMembers #[47, 59]] #[] 1537 66 #[] #[])
  fields := #[]
  methods := #[]
  instanceTypes := #[]
  staticTypes := #[]
  resolved := Array.replicate 131 none
  statics := none }

def pool5 : Array CpInfo := pool [(1, .class_ 2), (0, u "java/lang/constant/Constable"), (0, .class_ 4), (0, u "java/lang/Object")] 6

/-- java/lang/constant/Constable -/
def k5 : Class := { plain "java/lang/constant/Constable" (some 0) with
  accessFlags := 1537
  interfaces := #[]
  cf := some (fileOf pool5 1 #[] #[] 1537 3 #[] #[])
  fields := #[]
  methods := #[]
  instanceTypes := #[]
  staticTypes := #[]
  resolved := Array.replicate 11 none
  statics := none }

def pool6 : Array CpInfo := pool [(1, .class_ 2), (0, u "java/lang/constant/ConstantDesc"), (0, .class_ 4), (0, u "java/lang/Object")] 32

/-- java/lang/constant/ConstantDesc -/
def k6 : Class := { plain "java/lang/constant/ConstantDesc" (some 0) with
  accessFlags := 1537
  interfaces := #[]
  cf := some (fileOf pool6 1 #[] #[] 1537 3 #[] #[])
  fields := #[]
  methods := #[]
  instanceTypes := #[]
  staticTypes := #[]
  resolved := Array.replicate 37 none
  statics := none }

def pool7 : Array CpInfo := pool [(1, .methodref 2 3), (0, .class_ 4), (0, .nameAndType 5 6), (0, u "java/lang/Object"), (0, u "<init>"), (0, u "()V"), (2, .fieldref 10 11), (0, .class_ 12), (0, .nameAndType 13 14), (0, u "java/lang/String"), (0, u "value"), (0, u "[B"), (0, .fieldref 10 16), (0, .nameAndType 17 18), (0, u "coder"), (0, u "B"), (2, u "hash"), (0, u "I"), (2, u "hashIsZero"), (0, u "Z"), (0, .methodref 10 28), (0, .nameAndType 5 29), (0, u "([CIILjava/lang/Void;)V"), (8, .fieldref 10 39), (0, .nameAndType 40 26), (0, u "COMPACT_STRINGS"), (1, .class_ 44), (1, u "java/lang/StringUTF16"), (0, u "compress"), (1, .methodref 42 48), (0, .nameAndType 49 50), (0, u "coderFromArrayLen"), (0, u "([BI)B"), (2, u "toBytes"), (53, .class_ 109), (1, u "java/lang/StringLatin1"), (32, u "()Z"), (34, .methodref 42 178), (0, .nameAndType 45 179), (0, u "([CII)[B"), (29, .methodref 10 210), (0, .nameAndType 5 211), (0, u "([BB)V"), (122, u "()I"), (0, .methodref 10 336), (0, .nameAndType 17 337), (0, u "()B"), (25, u "([BI)C"), (5, u "(C)Z"), (21, u "(II)V"), (35, u "(I)C"), (64, .methodref 10 493), (0, .nameAndType 494 142), (0, u "isLatin1"), (0, .methodref 107 496), (0, .nameAndType 497 363), (0, u "charAt"), (0, .methodref 42 496), (2, u "checkIndex"), (5, u "length"), (67, .class_ 576), (0, u "java/lang/CharSequence"), (22, u "CASE_INSENSITIVE_ORDER"), (0, u "Ljava/util/Comparator;"), (181, u "valueOf"), (0, u "(C)Ljava/lang/String;"), (226, u "([C)V"), (4, .methodref 107 1016), (0, .nameAndType 1017 369), (0, u "canEncode"), (0, .methodref 107 1019), (0, .nameAndType 53 1020), (0, u "(C)[B"), (0, .methodref 42 1019), (31, .fieldref 1054 1055), (0, .class_ 1056), (0, .nameAndType 1057 1058), (0, u "jdk/internal/util/Preconditions"), (0, u "SIOOBE_FORMATTER"), (0, u "Ljava/util/function/BiFunction;"), (0, .methodref 1054 1060), (0, .nameAndType 501 1061), (0, u "(IILjava/util/function/BiFunction;)I"), (39, u "serialPersistentFields"), (0, u "[Ljava/io/ObjectStreamField;"), (0, .class_ 1104), (0, u "java/lang/String$CaseInsensitiveComparator"), (1, .class_ 1107), (0, u "java/io/Serializable"), (0, .class_ 1109), (0, u "java/lang/Comparable"), (0, .class_ 1111), (0, u "java/lang/constant/Constable"), (0, .class_ 1113), (0, u "java/lang/constant/ConstantDesc"), (2, u "serialVersionUID"), (0, u "J"), (3, u "REPL"), (0, u "C"), (2, u "LATIN1"), (1, u "UTF16")] 323

def k7m0 : Method := { name := "<init>", desc := "()V", sig := { parameters := [], returnType := none }, accessFlags := 1, code := none }
def k7c1 : Code := { maxStack := 5, maxLocals := 2, code := jdk_42_method_3_code, exceptionTable := #[], attributes := #[] }
def k7m1 : Method := { name := "<init>", desc := "([C)V", sig := { parameters := [(.array .char)], returnType := none }, accessFlags := 1, code := some k7c1 }
def k7c2 : Code := { maxStack := 2, maxLocals := 1, code := jdk_42_method_54_code, exceptionTable := #[], attributes := #[] }
def k7m2 : Method := { name := "length", desc := "()I", sig := { parameters := [], returnType := some .int }, accessFlags := 1, code := some k7c2 }
def k7c3 : Code := { maxStack := 2, maxLocals := 2, code := jdk_42_method_56_code, exceptionTable := #[], attributes := #[] }
def k7m3 : Method := { name := "charAt", desc := "(I)C", sig := { parameters := [.int], returnType := some .char }, accessFlags := 1, code := some k7c3 }
def k7c4 : Code := { maxStack := 4, maxLocals := 1, code := jdk_42_method_139_code, exceptionTable := #[], attributes := #[] }
def k7m4 : Method := { name := "valueOf", desc := "(C)Ljava/lang/String;", sig := { parameters := [.char], returnType := some (.object "java/lang/String") }, accessFlags := 9, code := some k7c4 }
def k7c5 : Code := { maxStack := 4, maxLocals := 6, code := jdk_42_method_149_code, exceptionTable := #[], attributes := #[] }
def k7m5 : Method := { name := "<init>", desc := "([CIILjava/lang/Void;)V", sig := { parameters := [(.array .char), .int, .int, (.object "java/lang/Void")], returnType := none }, accessFlags := 2, code := some k7c5 }
def k7c6 : Code := { maxStack := 2, maxLocals := 3, code := jdk_42_method_151_code, exceptionTable := #[], attributes := #[] }
def k7m6 : Method := { name := "<init>", desc := "([BB)V", sig := { parameters := [(.array .byte), .byte], returnType := none }, accessFlags := 0, code := some k7c6 }
def k7c7 : Code := { maxStack := 1, maxLocals := 1, code := jdk_42_method_152_code, exceptionTable := #[], attributes := #[] }
def k7m7 : Method := { name := "coder", desc := "()B", sig := { parameters := [], returnType := some .byte }, accessFlags := 0, code := some k7c7 }
def k7c8 : Code := { maxStack := 1, maxLocals := 1, code := jdk_42_method_154_code, exceptionTable := #[], attributes := #[] }
def k7m8 : Method := { name := "isLatin1", desc := "()Z", sig := { parameters := [], returnType := some .boolean }, accessFlags := 0, code := some k7c8 }
def k7c9 : Code := { maxStack := 3, maxLocals := 2, code := jdk_42_method_155_code, exceptionTable := #[], attributes := #[] }
def k7m9 : Method := { name := "checkIndex", desc := "(II)V", sig := { parameters := [.int, .int], returnType := none }, accessFlags := 8, code := some k7c9 }
/-- java/lang/String -/
def k7 : Class := { plain "java/lang/String" (some 0) with
  accessFlags := 49
  interfaces := #[2, 3, 4, 5, 6]
  cf := some (fileOf pool7 10 #[.nestMembers #[1103]] #[{ accessFlags := 1, nameIndex := 5, descriptorIndex := 6, attributes := #[] }, { accessFlags := 1, nameIndex := 5, descriptorIndex := 1010, attributes := #[] }, { accessFlags := 1, nameIndex := 507, descriptorIndex := 334, attributes := #[] }, { accessFlags := 1, nameIndex := 497, descriptorIndex := 427, attributes := #[] }, { accessFlags := 9, nameIndex := 782, descriptorIndex := 783, attributes := #[] }, { accessFlags := 2, nameIndex := 5, descriptorIndex := 29, attributes := #[] }, { accessFlags := 0, nameIndex := 5, descriptorIndex := 211, attributes := #[] }, { accessFlags := 0, nameIndex := 17, descriptorIndex := 337, attributes := #[] }, { accessFlags := 0, nameIndex := 494, descriptorIndex := 142, attributes := #[] }, { accessFlags := 8, nameIndex := 501, descriptorIndex := 391, attributes := #[] }] 49 2 #[1106, 1108, 575, 1110, 1112] #[{ accessFlags := 18, nameIndex := 13, descriptorIndex := 14, attributes := #[] }, { accessFlags := 18, nameIndex := 17, descriptorIndex := 18, attributes := #[] }, { accessFlags := 2, nameIndex := 21, descriptorIndex := 22, attributes := #[] }, { accessFlags := 2, nameIndex := 25, descriptorIndex := 26, attributes := #[] }, { accessFlags := 26, nameIndex := 1116, descriptorIndex := 1117, attributes := #[] }, { accessFlags := 24, nameIndex := 40, descriptorIndex := 26, attributes := #[] }, { accessFlags := 26, nameIndex := 1101, descriptorIndex := 1102, attributes := #[] }, { accessFlags := 26, nameIndex := 1121, descriptorIndex := 1122, attributes := #[] }, { accessFlags := 25, nameIndex := 599, descriptorIndex := 600, attributes := #[] }, { accessFlags := 24, nameIndex := 1125, descriptorIndex := 18, attributes := #[] }, { accessFlags := 24, nameIndex := 1127, descriptorIndex := 18, attributes := #[] }])
  fields := #[{ name := "value", type := (.array .byte), accessFlags := 18, slot := 0, constantValue := 0 }, { name := "coder", type := .byte, accessFlags := 18, slot := 1, constantValue := 0 }, { name := "hash", type := .int, accessFlags := 2, slot := 2, constantValue := 0 }, { name := "hashIsZero", type := .boolean, accessFlags := 2, slot := 3, constantValue := 0 }, { name := "serialVersionUID", type := .long, accessFlags := 26, slot := 0, constantValue := 0 }, { name := "COMPACT_STRINGS", type := .boolean, accessFlags := 24, slot := 1, constantValue := 0 }, { name := "serialPersistentFields", type := (.array (.object "java/io/ObjectStreamField")), accessFlags := 26, slot := 2, constantValue := 0 }, { name := "REPL", type := .char, accessFlags := 26, slot := 3, constantValue := 0 }, { name := "CASE_INSENSITIVE_ORDER", type := (.object "java/util/Comparator"), accessFlags := 25, slot := 4, constantValue := 0 }, { name := "LATIN1", type := .byte, accessFlags := 24, slot := 5, constantValue := 0 }, { name := "UTF16", type := .byte, accessFlags := 24, slot := 6, constantValue := 0 }]
  methods := #[k7m0, k7m1, k7m2, k7m3, k7m4, k7m5, k7m6, k7m7, k7m8, k7m9]
  instanceTypes := #[(.array .byte), .byte, .int, .boolean]
  staticTypes := #[.long, .boolean, (.array (.object "java/io/ObjectStreamField")), .char, (.object "java/util/Comparator"), .byte, .byte]
  resolved := Array.replicate 1451 none
  statics := some 0 }

def pool8 : Array CpInfo := pool [(1, .class_ 2), (0, u "java/lang/String"), (1, .class_ 6), (1, u "java/lang/Object"), (0, u "<init>"), (0, u "()V"), (0, .methodref 1 10), (0, .nameAndType 11 12), (0, u "checkIndex"), (0, u "(II)V"), (1, .class_ 16), (1, u "java/lang/StringLatin1"), (36, u "([BI)C"), (36, u "canEncode"), (14, u "(C)Z"), (15, u "$assertionsDisabled"), (0, u "Z"), (98, .class_ 223), (1, u "java/lang/StringLatin1$LinesSpliterator"), (28, u "charAt"), (127, u "toBytes"), (1, u "(C)[B"), (7, .class_ 391), (0, u "java/lang/StringLatin1$CharsSpliterator")] 3

def k8m0 : Method := { name := "<init>", desc := "()V", sig := { parameters := [], returnType := none }, accessFlags := 0, code := none }
def k8c1 : Code := { maxStack := 2, maxLocals := 2, code := jdk_43_method_2_code, exceptionTable := #[], attributes := #[] }
def k8m1 : Method := { name := "charAt", desc := "([BI)C", sig := { parameters := [(.array .byte), .int], returnType := some .char }, accessFlags := 9, code := some k8c1 }
def k8c2 : Code := { maxStack := 2, maxLocals := 1, code := jdk_43_method_3_code, exceptionTable := #[], attributes := #[] }
def k8m2 : Method := { name := "canEncode", desc := "(C)Z", sig := { parameters := [.char], returnType := some .boolean }, accessFlags := 9, code := some k8c2 }
def k8c3 : Code := { maxStack := 4, maxLocals := 1, code := jdk_43_method_46_code, exceptionTable := #[], attributes := #[] }
def k8m3 : Method := { name := "toBytes", desc := "(C)[B", sig := { parameters := [.char], returnType := some (.array .byte) }, accessFlags := 9, code := some k8c3 }
/-- java/lang/StringLatin1 -/
def k8 : Class := { plain "java/lang/StringLatin1" (some 0) with
  accessFlags := 48
  interfaces := #[]
  cf := some (fileOf pool8 14 #[.nestMembers #[390, 221]] #[{ accessFlags := 0, nameIndex := 7, descriptorIndex := 8, attributes := #[] }, { accessFlags := 9, nameIndex := 252, descriptorIndex := 53, attributes := #[] }, { accessFlags := 9, nameIndex := 90, descriptorIndex := 105, attributes := #[] }, { accessFlags := 9, nameIndex := 380, descriptorIndex := 382, attributes := #[] }] 48 4 #[] #[{ accessFlags := 4120, nameIndex := 121, descriptorIndex := 122, attributes := #[] }])
  fields := #[{ name := "$assertionsDisabled", type := .boolean, accessFlags := 4120, slot := 0, constantValue := 0 }]
  methods := #[k8m0, k8m1, k8m2, k8m3]
  instanceTypes := #[]
  staticTypes := #[.boolean]
  resolved := Array.replicate 395 none
  statics := none }

def pool9 : Array CpInfo := pool [(3, .class_ 4), (0, u "java/lang/String"), (1, .class_ 8), (1, u "java/lang/Object"), (0, u "<init>"), (0, u "()V"), (0, .methodref 12 13), (0, .class_ 14), (0, .nameAndType 15 16), (0, u "java/lang/StringUTF16"), (0, u "newBytesLength"), (0, u "(I)I"), (3, .integer 1073741823), (23, .fieldref 12 45), (0, .nameAndType 46 47), (0, u "$assertionsDisabled"), (0, u "Z"), (0, .methodref 12 49), (0, .nameAndType 50 51), (0, u "length"), (0, u "([B)I"), (7, .fieldref 12 60), (0, .nameAndType 61 62), (0, u "HI_BYTE_SHIFT"), (0, u "I"), (0, .fieldref 12 64), (0, .nameAndType 65 62), (0, u "LO_BYTE_SHIFT"), (1, .methodref 12 68), (0, .nameAndType 69 70), (0, u "checkIndex"), (0, u "(I[B)V"), (0, .methodref 12 72), (0, .nameAndType 73 74), (0, u "getChar"), (0, u "([BI)C"), (32, .methodref 12 108), (0, .nameAndType 109 110), (0, u "newBytesFor"), (0, u "(I)[B"), (0, .methodref 12 112), (0, .nameAndType 113 114), (0, u "putChar"), (0, u "([BII)V"), (0, .methodref 12 116), (0, .nameAndType 117 118), (0, u "compress"), (0, u "([CI[BII)I"), (0, .methodref 12 120), (0, .nameAndType 121 122), (0, u "toBytes"), (0, u "([CII)[B"), (138, u "coderFromArrayLen"), (0, u "([BI)B"), (106, .class_ 371), (1, u "java/lang/StringUTF16$LinesSpliterator"), (20, u "charAt"), (21, .methodref 3 415), (0, .nameAndType 69 416), (0, u "(II)V"), (13, u "MAX_LENGTH"), (44, u "(C)[B"), (151, .class_ 628), (0, u "java/lang/StringUTF16$CodePointsSpliterator"), (0, .class_ 630), (0, u "java/lang/StringUTF16$CharsSpliterator")] 4

def k9m0 : Method := { name := "<init>", desc := "()V", sig := { parameters := [], returnType := none }, accessFlags := 0, code := none }
def k9c1 : Code := { maxStack := 1, maxLocals := 1, code := jdk_52_method_2_code, exceptionTable := #[], attributes := #[] }
def k9m1 : Method := { name := "newBytesFor", desc := "(I)[B", sig := { parameters := [.int], returnType := some (.array .byte) }, accessFlags := 9, code := some k9c1 }
def k9c2 : Code := { maxStack := 4, maxLocals := 1, code := jdk_52_method_3_code, exceptionTable := #[], attributes := #[] }
def k9m2 : Method := { name := "newBytesLength", desc := "(I)I", sig := { parameters := [.int], returnType := some .int }, accessFlags := 9, code := some k9c2 }
def k9c3 : Code := { maxStack := 4, maxLocals := 3, code := jdk_52_method_4_code, exceptionTable := #[], attributes := #[] }
def k9m3 : Method := { name := "putChar", desc := "([BII)V", sig := { parameters := [(.array .byte), .int, .int], returnType := none }, accessFlags := 8, code := some k9c3 }
def k9c4 : Code := { maxStack := 3, maxLocals := 2, code := jdk_52_method_5_code, exceptionTable := #[], attributes := #[] }
def k9m4 : Method := { name := "getChar", desc := "([BI)C", sig := { parameters := [(.array .byte), .int], returnType := some .char }, accessFlags := 8, code := some k9c4 }
def k9c5 : Code := { maxStack := 2, maxLocals := 1, code := jdk_52_method_6_code, exceptionTable := #[], attributes := #[] }
def k9m5 : Method := { name := "length", desc := "([B)I", sig := { parameters := [(.array .byte)], returnType := some .int }, accessFlags := 9, code := some k9c5 }
def k9c6 : Code := { maxStack := 4, maxLocals := 5, code := jdk_52_method_14_code, exceptionTable := #[], attributes := #[] }
def k9m6 : Method := { name := "toBytes", desc := "([CII)[B", sig := { parameters := [(.array .char), .int, .int], returnType := some (.array .byte) }, accessFlags := 9, code := some k9c6 }
def k9c7 : Code := { maxStack := 2, maxLocals := 2, code := jdk_52_method_15_code, exceptionTable := #[], attributes := #[] }
def k9m7 : Method := { name := "coderFromArrayLen", desc := "([BI)B", sig := { parameters := [(.array .byte), .int], returnType := some .byte }, accessFlags := 8, code := some k9c7 }
def k9c8 : Code := { maxStack := 5, maxLocals := 6, code := jdk_52_method_16_code, exceptionTable := #[], attributes := #[] }
def k9m8 : Method := { name := "compress", desc := "([CII)[B", sig := { parameters := [(.array .char), .int, .int], returnType := some (.array .byte) }, accessFlags := 9, code := some k9c8 }
def k9c9 : Code := { maxStack := 3, maxLocals := 7, code := jdk_52_method_21_code, exceptionTable := #[], attributes := #[] }
def k9m9 : Method := { name := "compress", desc := "([CI[BII)I", sig := { parameters := [(.array .char), .int, (.array .byte), .int, .int], returnType := some .int }, accessFlags := 9, code := some k9c9 }
def k9c10 : Code := { maxStack := 3, maxLocals := 2, code := jdk_52_method_24_code, exceptionTable := #[], attributes := #[] }
def k9m10 : Method := { name := "toBytes", desc := "(C)[B", sig := { parameters := [.char], returnType := some (.array .byte) }, accessFlags := 9, code := some k9c10 }
def k9c11 : Code := { maxStack := 2, maxLocals := 2, code := jdk_52_method_83_code, exceptionTable := #[], attributes := #[] }
def k9m11 : Method := { name := "charAt", desc := "([BI)C", sig := { parameters := [(.array .byte), .int], returnType := some .char }, accessFlags := 9, code := some k9c11 }
def k9c12 : Code := { maxStack := 2, maxLocals := 2, code := jdk_52_method_91_code, exceptionTable := #[], attributes := #[] }
def k9m12 : Method := { name := "checkIndex", desc := "(I[B)V", sig := { parameters := [.int, (.array .byte)], returnType := none }, accessFlags := 9, code := some k9c12 }
/-- java/lang/StringUTF16 -/
def k9 : Class := { plain "java/lang/StringUTF16" (some 0) with
  accessFlags := 48
  interfaces := #[]
  cf := some (fileOf pool9 12 #[.nestMembers #[627, 629, 369]] #[{ accessFlags := 0, nameIndex := 9, descriptorIndex := 10, attributes := #[] }, { accessFlags := 9, nameIndex := 109, descriptorIndex := 110, attributes := #[] }, { accessFlags := 9, nameIndex := 15, descriptorIndex := 16, attributes := #[] }, { accessFlags := 8, nameIndex := 113, descriptorIndex := 114, attributes := #[] }, { accessFlags := 8, nameIndex := 73, descriptorIndex := 74, attributes := #[] }, { accessFlags := 9, nameIndex := 50, descriptorIndex := 51, attributes := #[] }, { accessFlags := 9, nameIndex := 121, descriptorIndex := 122, attributes := #[] }, { accessFlags := 8, nameIndex := 261, descriptorIndex := 262, attributes := #[] }, { accessFlags := 9, nameIndex := 117, descriptorIndex := 122, attributes := #[] }, { accessFlags := 9, nameIndex := 117, descriptorIndex := 118, attributes := #[] }, { accessFlags := 9, nameIndex := 121, descriptorIndex := 475, attributes := #[] }, { accessFlags := 9, nameIndex := 392, descriptorIndex := 74, attributes := #[] }, { accessFlags := 9, nameIndex := 69, descriptorIndex := 70, attributes := #[] }] 48 6 #[] #[{ accessFlags := 26, nameIndex := 61, descriptorIndex := 62, attributes := #[] }, { accessFlags := 26, nameIndex := 65, descriptorIndex := 62, attributes := #[] }, { accessFlags := 24, nameIndex := 430, descriptorIndex := 62, attributes := #[] }, { accessFlags := 4120, nameIndex := 46, descriptorIndex := 47, attributes := #[] }])
  fields := #[{ name := "HI_BYTE_SHIFT", type := .int, accessFlags := 26, slot := 0, constantValue := 0 }, { name := "LO_BYTE_SHIFT", type := .int, accessFlags := 26, slot := 1, constantValue := 0 }, { name := "MAX_LENGTH", type := .int, accessFlags := 24, slot := 2, constantValue := 0 }, { name := "$assertionsDisabled", type := .boolean, accessFlags := 4120, slot := 3, constantValue := 0 }]
  methods := #[k9m0, k9m1, k9m2, k9m3, k9m4, k9m5, k9m6, k9m7, k9m8, k9m9, k9m10, k9m11, k9m12]
  instanceTypes := #[]
  staticTypes := #[.int, .int, .int, .boolean]
  resolved := Array.replicate 635 none
  statics := some 1 }

def pool10 : Array CpInfo := pool [(1, .methodref 2 3), (0, .class_ 4), (0, .nameAndType 5 6), (0, u "java/lang/Object"), (0, u "<init>"), (0, u "()V"), (0, .long 14695981039346656037), (1, .long 11400714819323198485), (1, .methodref 12 13), (0, .class_ 14), (0, .nameAndType 15 16), (0, u "java/lang/String"), (0, u "length"), (0, u "()I"), (0, .methodref 12 18), (0, .nameAndType 19 20), (0, u "charAt"), (0, u "(I)C"), (0, .long 1099511628211), (1, .long 14029467366897019727), (1, .methodref 26 27), (0, .class_ 28), (0, .nameAndType 29 30), (0, u "java/lang/Long"), (0, u "rotateLeft"), (0, u "(JI)J"), (0, .fieldref 32 33), (0, .class_ 34), (0, .nameAndType 35 36), (0, u "com/example/keelson/keelson/bench/LineDigest"), (0, u "lines"), (0, u "J"), (0, .fieldref 32 38), (0, .nameAndType 39 36), (0, u "first"), (0, .long 18397679294719823053), (1, .long 14181476777654086739), (1, .methodref 32 45), (0, .nameAndType 46 47), (0, u "spread"), (0, u "(JJJ)J"), (0, .fieldref 32 49), (0, .nameAndType 50 36), (0, u "second"), (0, .long 13787848793156543929), (1, .long 10723151780598845931), (3, u "add"), (0, u "(Ljava/lang/String;)V"), (2, u "sameLines"), (0, u "(Lcom/example/keelson/keelson/bench/LineDigest;)Z")] 2

def k10c0 : Code := { maxStack := 1, maxLocals := 1, code := prog_4_method_1_code, exceptionTable := #[], attributes := #[] }
def k10m0 : Method := { name := "<init>", desc := "()V", sig := { parameters := [], returnType := none }, accessFlags := 0, code := some k10c0 }
def k10c1 : Code := { maxStack := 9, maxLocals := 8, code := prog_4_method_2_code, exceptionTable := #[], attributes := #[] }
def k10m1 : Method := { name := "add", desc := "(Ljava/lang/String;)V", sig := { parameters := [(.object "java/lang/String")], returnType := none }, accessFlags := 0, code := some k10c1 }
def k10c2 : Code := { maxStack := 4, maxLocals := 2, code := prog_4_method_4_code, exceptionTable := #[], attributes := #[] }
def k10m2 : Method := { name := "sameLines", desc := "(Lcom/example/keelson/keelson/bench/LineDigest;)Z", sig := { parameters := [(.object "com/example/keelson/keelson/bench/LineDigest")], returnType := some .boolean }, accessFlags := 0, code := some k10c2 }
def k10c3 : Code := { maxStack := 5, maxLocals := 8, code := prog_4_method_5_code, exceptionTable := #[], attributes := #[] }
def k10m3 : Method := { name := "spread", desc := "(JJJ)J", sig := { parameters := [.long, .long, .long], returnType := some .long }, accessFlags := 10, code := some k10c3 }
/-- com/example/keelson/keelson/bench/LineDigest -/
def k10 : Class := { plain "com/example/keelson/keelson/bench/LineDigest" (some 0) with
  accessFlags := 48
  interfaces := #[]
  cf := some (fileOf pool10 32 #[] #[{ accessFlags := 0, nameIndex := 5, descriptorIndex := 6, attributes := #[] }, { accessFlags := 0, nameIndex := 57, descriptorIndex := 58, attributes := #[] }, { accessFlags := 0, nameIndex := 61, descriptorIndex := 62, attributes := #[] }, { accessFlags := 10, nameIndex := 46, descriptorIndex := 47, attributes := #[] }] 48 2 #[] #[{ accessFlags := 2, nameIndex := 35, descriptorIndex := 36, attributes := #[] }, { accessFlags := 2, nameIndex := 39, descriptorIndex := 36, attributes := #[] }, { accessFlags := 2, nameIndex := 50, descriptorIndex := 36, attributes := #[] }])
  fields := #[{ name := "lines", type := .long, accessFlags := 2, slot := 0, constantValue := 0 }, { name := "first", type := .long, accessFlags := 2, slot := 1, constantValue := 0 }, { name := "second", type := .long, accessFlags := 2, slot := 2, constantValue := 0 }]
  methods := #[k10m0, k10m1, k10m2, k10m3]
  instanceTypes := #[.long, .long, .long]
  staticTypes := #[]
  resolved := Array.replicate 65 none
  statics := none }

def pool11 : Array CpInfo := pool [(2, .class_ 4), (1, u "java/lang/Object"), (0, u "<init>"), (0, u "()V"), (17, .class_ 26), (1, u "jdk/internal/util/Preconditions"), (6, u "checkIndex"), (21, .class_ 56), (0, u "jdk/internal/util/Preconditions$4"), (57, .class_ 115), (0, u "jdk/internal/util/Preconditions$1"), (7, u "SIOOBE_FORMATTER"), (0, u "Ljava/util/function/BiFunction;"), (0, .class_ 126), (0, u "jdk/internal/util/Preconditions$2"), (3, u "AIOOBE_FORMATTER"), (0, .class_ 132), (0, u "jdk/internal/util/Preconditions$3"), (3, u "IOOBE_FORMATTER"), (41, u "(IILjava/util/function/BiFunction;)I")] 15

def k11m0 : Method := { name := "<init>", desc := "()V", sig := { parameters := [], returnType := none }, accessFlags := 1, code := none }
def k11c1 : Code := { maxStack := 3, maxLocals := 3, code := jdk_41_method_11_code, exceptionTable := #[], attributes := #[] }
def k11m1 : Method := { name := "checkIndex", desc := "(IILjava/util/function/BiFunction;)I", sig := { parameters := [.int, .int, (.object "java/util/function/BiFunction")], returnType := some .int }, accessFlags := 9, code := some k11c1 }
/-- jdk/internal/util/Preconditions -/
def k11 : Class := { plain "jdk/internal/util/Preconditions" (some 0) with
  accessFlags := 33
  interfaces := #[]
  cf := some (fileOf pool11 24 #[.nestMembers #[55, 131, 125, 114]] #[{ accessFlags := 1, nameIndex := 5, descriptorIndex := 6, attributes := #[] }, { accessFlags := 9, nameIndex := 33, descriptorIndex := 178, attributes := #[] }] 33 2 #[] #[{ accessFlags := 25, nameIndex := 123, descriptorIndex := 124, attributes := #[] }, { accessFlags := 25, nameIndex := 130, descriptorIndex := 124, attributes := #[] }, { accessFlags := 25, nameIndex := 136, descriptorIndex := 124, attributes := #[] }])
  fields := #[{ name := "SIOOBE_FORMATTER", type := (.object "java/util/function/BiFunction"), accessFlags := 25, slot := 0, constantValue := 0 }, { name := "AIOOBE_FORMATTER", type := (.object "java/util/function/BiFunction"), accessFlags := 25, slot := 1, constantValue := 0 }, { name := "IOOBE_FORMATTER", type := (.object "java/util/function/BiFunction"), accessFlags := 25, slot := 2, constantValue := 0 }]
  methods := #[k11m0, k11m1]
  instanceTypes := #[]
  staticTypes := #[(.object "java/util/function/BiFunction"), (.object "java/util/function/BiFunction"), (.object "java/util/function/BiFunction")]
  resolved := Array.replicate 194 none
  statics := some 2 }

def pool12 : Array CpInfo := pool [(2, .class_ 4), (1, u "java/lang/Object"), (0, u "<init>"), (0, u "()V"), (1, .class_ 10), (1, u "java/lang/Number"), (2, .class_ 14), (0, u "java/io/Serializable"), (0, u "serialVersionUID"), (0, u "J")] 20

def k12m0 : Method := { name := "<init>", desc := "()V", sig := { parameters := [], returnType := none }, accessFlags := 1, code := none }
/-- java/lang/Number -/
def k12 : Class := { plain "java/lang/Number" (some 0) with
  accessFlags := 1057
  interfaces := #[2]
  cf := some (fileOf pool12 8 #[] #[{ accessFlags := 1, nameIndex := 5, descriptorIndex := 6, attributes := #[] }] 1057 2 #[13] #[{ accessFlags := 26, nameIndex := 15, descriptorIndex := 16, attributes := #[] }])
  fields := #[{ name := "serialVersionUID", type := .long, accessFlags := 26, slot := 0, constantValue := 0 }]
  methods := #[k12m0]
  instanceTypes := #[]
  staticTypes := #[.long]
  resolved := Array.replicate 37 none
  statics := none }

def pool13 : Array CpInfo := pool [(1, .class_ 2), (0, u "java/lang/Long"), (232, .class_ 237), (1, u "java/lang/Long$LongCache"), (33, .class_ 272), (0, u "java/lang/Number"), (2, u "value"), (0, u "J"), (84, u "TYPE"), (0, u "Ljava/lang/Class;"), (0, .class_ 364), (0, u "java/lang/Comparable"), (0, .class_ 366), (0, u "java/lang/constant/Constable"), (0, .class_ 368), (0, u "java/lang/constant/ConstantDesc"), (0, u "MIN_VALUE"), (1, u "MAX_VALUE"), (4, u "SIZE"), (0, u "I"), (1, u "BYTES"), (1, u "serialVersionUID"), (95, u "rotateLeft"), (0, u "(JI)J")] 45

def k13c0 : Code := { maxStack := 5, maxLocals := 3, code := jdk_35_method_51_code, exceptionTable := #[], attributes := #[] }
def k13m0 : Method := { name := "rotateLeft", desc := "(JI)J", sig := { parameters := [.long, .int], returnType := some .long }, accessFlags := 9, code := some k13c0 }
/-- java/lang/Long -/
def k13 : Class := { plain "java/lang/Long" (some 12) with
  accessFlags := 49
  interfaces := #[3, 5, 6]
  cf := some (fileOf pool13 1 #[.nestMembers #[235]] #[{ accessFlags := 9, nameIndex := 477, descriptorIndex := 478, attributes := #[] }] 49 271 #[363, 365, 367] #[{ accessFlags := 25, nameIndex := 369, descriptorIndex := 276, attributes := #[] }, { accessFlags := 25, nameIndex := 371, descriptorIndex := 276, attributes := #[] }, { accessFlags := 25, nameIndex := 361, descriptorIndex := 362, attributes := #[] }, { accessFlags := 18, nameIndex := 275, descriptorIndex := 276, attributes := #[] }, { accessFlags := 25, nameIndex := 376, descriptorIndex := 377, attributes := #[] }, { accessFlags := 25, nameIndex := 379, descriptorIndex := 377, attributes := #[] }, { accessFlags := 26, nameIndex := 381, descriptorIndex := 276, attributes := #[] }])
  fields := #[{ name := "MIN_VALUE", type := .long, accessFlags := 25, slot := 0, constantValue := 0 }, { name := "MAX_VALUE", type := .long, accessFlags := 25, slot := 1, constantValue := 0 }, { name := "TYPE", type := (.object "java/lang/Class"), accessFlags := 25, slot := 2, constantValue := 0 }, { name := "value", type := .long, accessFlags := 18, slot := 0, constantValue := 0 }, { name := "SIZE", type := .int, accessFlags := 25, slot := 3, constantValue := 0 }, { name := "BYTES", type := .int, accessFlags := 25, slot := 4, constantValue := 0 }, { name := "serialVersionUID", type := .long, accessFlags := 26, slot := 5, constantValue := 0 }]
  methods := #[k13m0]
  instanceTypes := #[.long]
  staticTypes := #[.long, .long, (.object "java/lang/Class"), .int, .int, .long]
  resolved := Array.replicate 524 none
  statics := none }

def pool14 : Array CpInfo := pool [(9, u "<init>"), (6, .class_ 18), (1, u "java/lang/Object"), (0, u "()V"), (1, .class_ 23), (1, u "jdk/internal/util/ArraysSupport"), (0, u "LOG2_ARRAY_LONG_INDEX_SCALE"), (0, u "I"), (2, u "U"), (0, u "Ljdk/internal/misc/Unsafe;"), (8, u "BIG_ENDIAN"), (0, u "Z"), (8, u "LOG2_BYTE_BIT_SIZE"), (4, u "LOG2_ARRAY_INT_INDEX_SCALE"), (54, u "JLA"), (0, u "Ljdk/internal/access/JavaLangAccess;"), (11, u "LOG2_ARRAY_BOOLEAN_INDEX_SCALE"), (9, u "LOG2_ARRAY_BYTE_INDEX_SCALE"), (5, u "LOG2_ARRAY_CHAR_INDEX_SCALE"), (5, u "LOG2_ARRAY_SHORT_INDEX_SCALE"), (18, u "LOG2_ARRAY_FLOAT_INDEX_SCALE"), (24, u "LOG2_ARRAY_DOUBLE_INDEX_SCALE"), (89, u "T_BOOLEAN"), (2, u "T_CHAR"), (1, u "T_FLOAT"), (1, u "T_DOUBLE"), (1, u "T_BYTE"), (1, u "T_SHORT"), (1, u "T_INT"), (1, u "T_LONG"), (1, u "SOFT_MAX_ARRAY_LENGTH")] 83

def k14m0 : Method := { name := "<init>", desc := "()V", sig := { parameters := [], returnType := none }, accessFlags := 2, code := none }
/-- jdk/internal/util/ArraysSupport -/
def k14 : Class := { plain "jdk/internal/util/ArraysSupport" (some 0) with
  accessFlags := 33
  interfaces := #[]
  cf := some (fileOf pool14 21 #[] #[{ accessFlags := 2, nameIndex := 9, descriptorIndex := 19, attributes := #[] }] 33 16 #[] #[{ accessFlags := 24, nameIndex := 28, descriptorIndex := 29, attributes := #[] }, { accessFlags := 26, nameIndex := 38, descriptorIndex := 39, attributes := #[] }, { accessFlags := 25, nameIndex := 121, descriptorIndex := 25, attributes := #[] }, { accessFlags := 25, nameIndex := 131, descriptorIndex := 25, attributes := #[] }, { accessFlags := 25, nameIndex := 137, descriptorIndex := 25, attributes := #[] }, { accessFlags := 25, nameIndex := 143, descriptorIndex := 25, attributes := #[] }, { accessFlags := 25, nameIndex := 53, descriptorIndex := 25, attributes := #[] }, { accessFlags := 25, nameIndex := 24, descriptorIndex := 25, attributes := #[] }, { accessFlags := 25, nameIndex := 162, descriptorIndex := 25, attributes := #[] }, { accessFlags := 25, nameIndex := 187, descriptorIndex := 25, attributes := #[] }, { accessFlags := 26, nameIndex := 48, descriptorIndex := 25, attributes := #[] }, { accessFlags := 25, nameIndex := 277, descriptorIndex := 25, attributes := #[] }, { accessFlags := 25, nameIndex := 280, descriptorIndex := 25, attributes := #[] }, { accessFlags := 25, nameIndex := 282, descriptorIndex := 25, attributes := #[] }, { accessFlags := 25, nameIndex := 284, descriptorIndex := 25, attributes := #[] }, { accessFlags := 25, nameIndex := 286, descriptorIndex := 25, attributes := #[] }, { accessFlags := 25, nameIndex := 288, descriptorIndex := 25, attributes := #[] }, { accessFlags := 25, nameIndex := 290, descriptorIndex := 25, attributes := #[] }, { accessFlags := 25, nameIndex := 292, descriptorIndex := 25, attributes := #[] }, { accessFlags := 26, nameIndex := 108, descriptorIndex := 109, attributes := #[] }, { accessFlags := 25, nameIndex := 294, descriptorIndex := 25, attributes := #[] }])
  fields := #[{ name := "U", type := (.object "jdk/internal/misc/Unsafe"), accessFlags := 24, slot := 0, constantValue := 0 }, { name := "BIG_ENDIAN", type := .boolean, accessFlags := 26, slot := 1, constantValue := 0 }, { name := "LOG2_ARRAY_BOOLEAN_INDEX_SCALE", type := .int, accessFlags := 25, slot := 2, constantValue := 0 }, { name := "LOG2_ARRAY_BYTE_INDEX_SCALE", type := .int, accessFlags := 25, slot := 3, constantValue := 0 }, { name := "LOG2_ARRAY_CHAR_INDEX_SCALE", type := .int, accessFlags := 25, slot := 4, constantValue := 0 }, { name := "LOG2_ARRAY_SHORT_INDEX_SCALE", type := .int, accessFlags := 25, slot := 5, constantValue := 0 }, { name := "LOG2_ARRAY_INT_INDEX_SCALE", type := .int, accessFlags := 25, slot := 6, constantValue := 0 }, { name := "LOG2_ARRAY_LONG_INDEX_SCALE", type := .int, accessFlags := 25, slot := 7, constantValue := 0 }, { name := "LOG2_ARRAY_FLOAT_INDEX_SCALE", type := .int, accessFlags := 25, slot := 8, constantValue := 0 }, { name := "LOG2_ARRAY_DOUBLE_INDEX_SCALE", type := .int, accessFlags := 25, slot := 9, constantValue := 0 }, { name := "LOG2_BYTE_BIT_SIZE", type := .int, accessFlags := 26, slot := 10, constantValue := 0 }, { name := "T_BOOLEAN", type := .int, accessFlags := 25, slot := 11, constantValue := 0 }, { name := "T_CHAR", type := .int, accessFlags := 25, slot := 12, constantValue := 0 }, { name := "T_FLOAT", type := .int, accessFlags := 25, slot := 13, constantValue := 0 }, { name := "T_DOUBLE", type := .int, accessFlags := 25, slot := 14, constantValue := 0 }, { name := "T_BYTE", type := .int, accessFlags := 25, slot := 15, constantValue := 0 }, { name := "T_SHORT", type := .int, accessFlags := 25, slot := 16, constantValue := 0 }, { name := "T_INT", type := .int, accessFlags := 25, slot := 17, constantValue := 0 }, { name := "T_LONG", type := .int, accessFlags := 25, slot := 18, constantValue := 0 }, { name := "JLA", type := (.object "jdk/internal/access/JavaLangAccess"), accessFlags := 26, slot := 19, constantValue := 0 }, { name := "SOFT_MAX_ARRAY_LENGTH", type := .int, accessFlags := 25, slot := 20, constantValue := 0 }]
  methods := #[k14m0]
  instanceTypes := #[]
  staticTypes := #[(.object "jdk/internal/misc/Unsafe"), .boolean, .int, .int, .int, .int, .int, .int, .int, .int, .int, .int, .int, .int, .int, .int, .int, .int, .int, (.object "jdk/internal/access/JavaLangAccess"), .int]
  resolved := Array.replicate 378 none
  statics := none }

def pool15 : Array CpInfo := pool [(1, u "java/lang/Cloneable"), (0, .class_ 1), (0, u "java/lang/Object"), (0, .class_ 3)] 3

/-- java/lang/Cloneable -/
def k15 : Class := { plain "java/lang/Cloneable" (some 0) with
  accessFlags := 1537
  interfaces := #[]
  cf := some (fileOf pool15 2 #[] #[] 1537 4 #[] #[])
  fields := #[]
  methods := #[]
  instanceTypes := #[]
  staticTypes := #[]
  resolved := Array.replicate 8 none
  statics := none }

/-- the primitive byte -/
def k16 : Class := { plain "byte" none with kind := .primitive 'B', accessFlags := 0x411 }
/-- [B -/
def k17 : Class := { plain "[B" (some 0) with kind := .array 16 .byte, interfaces := #[15, 2], accessFlags := 1041 }

/-- the primitive char -/
def k18 : Class := { plain "char" none with kind := .primitive 'C', accessFlags := 0x411 }
/-- [C -/
def k19 : Class := { plain "[C" (some 0) with kind := .array 18 .char, interfaces := #[15, 2], accessFlags := 1041 }

/-- the primitive int -/
def k20 : Class := { plain "int" none with kind := .primitive 'I', accessFlags := 0x411 }
/-- [I -/
def k21 : Class := { plain "[I" (some 0) with kind := .array 20 .int, interfaces := #[15, 2], accessFlags := 1041 }

def heap : Heap := #[{ cls := 7, slots := #[.long 0, .int 1, .null, .int 0, .null, .int 0, .int 0], vm := .statics 7 },
  { cls := 9, slots := #[.int 0, .int 8, .int 0, .int 1], vm := .statics 9 },
  { cls := 11, slots := #[.null, .null, .null], vm := .statics 11 }]
def classes : Array Class := #[k0, k1, k2, k3, k4, k5, k6, k7, k8, k9, k10, k11, k12, k13, k14, k15, k16, k17, k18, k19, k20, k21]
def interned : List (Array UInt16 × Addr) := []
def slotsUsed : Nat := 14
def theMethod : MethodId := ⟨1, 1⟩
def args0 : Array Value := #[.int 65, .int 66, .int 300, .int 67]
def aboutOver (below : List Frame) : State where
  vm := { classes := classes, interned := interned.toArray }
  heap := heap
  slotsUsed := slotsUsed
  threads := #[{ frames := .invoking theMethod args0 :: below }]
def below0 : List Frame := [.native { method := ⟨0, 0⟩, args := #[] }]
def about1 : State := aboutOver below0
def p0 : Program := .bare "" "" ""
def e0 : Env := launch0.env 0 0 0
theorem w_frames : about1.frames = Frame.invoking theMethod args0 :: below0 := rfl
set_option maxRecDepth 65536 in
theorem w_args : argsFit about1.vm theMethod args0 = true := by decide +kernel
set_option maxRecDepth 65536 in
theorem w_heap : heapFits about1 = true := by decide +kernel
set_option maxRecDepth 65536 in
theorem w_runnable : about1.curStatus? = some .runnable := by decide +kernel
set_option maxRecDepth 65536 in
theorem w_alone : about1.alone = true := by decide +kernel
set_option maxRecDepth 65536 in
theorem w_named : about1.methodNamed? x = some theMethod := by decide +kernel
set_option maxRecDepth 65536 in
theorem w_hears : about1.hears theMethod below0 = true := by decide +kernel
set_option maxRecDepth 65536 in
theorem w_ripe : about1.ripe theMethod args0 below0 = true := by decide +kernel
theorem w_running : about1.status = .running := rfl
set_option maxRecDepth 65536 in
theorem w_room : about1.hasRoom e0.platform room_1 = true :=
  launch0.hasRoom_least _ room_1 (by decide +kernel) (by decide +kernel) (by decide +kernel) (by decide +kernel) (by decide +kernel) (by decide +kernel)
theorem allAtoms_all (ts : List Jvm.Cond) (a : Array Jvm.Value) (st : Jvm.State) : (allAtoms ts).before a st = ts.all (fun c => c.before a st) := by
  induction ts with
  | nil => rfl
  | cons c t ih =>
    show (Jvm.Cond.and c (allAtoms t)).before a st = _
    rw [Jvm.Cond.before_and, ih, List.all_cons]
def words1 : List Jvm.Cond := Jvm.Cond.code x code maxLocals ret :: tables_1
/-- a 'code' word, met by the world's own term for the bytes: nothing is compared byte by byte -/
theorem code_word {y : MethodName} {bytes : ByteArray} {mx : Nat} {rt : Option FieldType} {a : Array Value} {s : State} {m : MethodId} {meth : Method} {c : Code} (h1 : s.methodNamed? y = some m) (h2 : s.vm.method? m = some meth) (h3 : meth.code = some c) (h4 : c.code = bytes)
    (h5 : (c.maxLocals == mx && c.exceptionTable.isEmpty && decide (c.maxStack ≤ mostOperands) && decide (meth.sig.returnType = rt) && !meth.locks && decide (parseMethodDescriptor y.desc = some meth.sig)) = true) : (Jvm.Cond.code y bytes mx rt).before a s = true := by
  simp only [Bool.and_eq_true, beq_iff_eq, Bool.not_eq_true', decide_eq_true_eq] at h5
  obtain ⟨⟨⟨⟨⟨g1, g2⟩, g3⟩, g4⟩, g5⟩, g6⟩ := h5
  simp [Cond.before, Cond.holds, Cond.value, h1, h2, h3, h4, g1, g2, g3, g4, g5, g6]
def isCode : Jvm.Cond → Bool
  | .code _ _ _ _ => true
  | _ => false
theorem all_split {L : List Jvm.Cond} {P : Jvm.Cond → Bool} (h1 : L.all (fun c => isCode c || P c) = true) (h2 : ∀ c ∈ L.filter isCode, P c = true) : L.all P = true := by
  refine List.all_eq_true.mpr fun c hc => ?_
  have h := List.all_eq_true.mp h1 c hc
  rcases Bool.eq_false_or_eq_true (isCode c) with hi | hi
  · exact h2 c (List.mem_filter.mpr ⟨hc, hi⟩)
  · simpa [hi] using h
set_option maxRecDepth 65536 in
theorem w_c0 : (Jvm.Cond.code x code maxLocals ret).before args0 about1 = true := code_word (m := ⟨1, 1⟩) (meth := k1m1) (c := k1c1) (by decide +kernel) rfl rfl rfl (by decide +kernel)
set_option maxRecDepth 65536 in
theorem w_c1 : (Jvm.Cond.code ({ cls := "java/lang/String", name := "valueOf", desc := "(C)Ljava/lang/String;" } : Jvm.MethodName) jdk_42_method_139_code (1 : Nat) (Option.some (Jvm.ClassFile.FieldType.object "java/lang/String"))).before args0 about1 = true := code_word (m := ⟨7, 4⟩) (meth := k7m4) (c := k7c4) (by decide +kernel) rfl rfl rfl (by decide +kernel)
set_option maxRecDepth 65536 in
theorem w_c2 : (Jvm.Cond.code ({ cls := "java/lang/StringLatin1", name := "canEncode", desc := "(C)Z" } : Jvm.MethodName) jdk_43_method_3_code (1 : Nat) (Option.some Jvm.ClassFile.FieldType.boolean)).before args0 about1 = true := code_word (m := ⟨8, 2⟩) (meth := k8m2) (c := k8c2) (by decide +kernel) rfl rfl rfl (by decide +kernel)
set_option maxRecDepth 65536 in
theorem w_c3 : (Jvm.Cond.code ({ cls := "java/lang/StringLatin1", name := "toBytes", desc := "(C)[B" } : Jvm.MethodName) jdk_43_method_46_code (1 : Nat) (Option.some (Jvm.ClassFile.FieldType.array Jvm.ClassFile.FieldType.byte))).before args0 about1 = true := code_word (m := ⟨8, 3⟩) (meth := k8m3) (c := k8c3) (by decide +kernel) rfl rfl rfl (by decide +kernel)
set_option maxRecDepth 65536 in
theorem w_c4 : (Jvm.Cond.code ({ cls := "java/lang/String", name := "<init>", desc := "([BB)V" } : Jvm.MethodName) jdk_42_method_151_code (3 : Nat) (Option.none : Option Jvm.ClassFile.FieldType)).before args0 about1 = true := code_word (m := ⟨7, 6⟩) (meth := k7m6) (c := k7c6) (by decide +kernel) rfl rfl rfl (by decide +kernel)
set_option maxRecDepth 65536 in
theorem w_c5 : (Jvm.Cond.code ({ cls := "java/lang/Object", name := "<init>", desc := "()V" } : Jvm.MethodName) object_method_1_code (1 : Nat) (Option.none : Option Jvm.ClassFile.FieldType)).before args0 about1 = true := code_word (m := ⟨0, 0⟩) (meth := k0m0) (c := k0c0) (by decide +kernel) rfl rfl rfl (by decide +kernel)
set_option maxRecDepth 65536 in
theorem w_c6 : (Jvm.Cond.code ({ cls := "java/lang/String", name := "<init>", desc := "([C)V" } : Jvm.MethodName) jdk_42_method_3_code (2 : Nat) (Option.none : Option Jvm.ClassFile.FieldType)).before args0 about1 = true := code_word (m := ⟨7, 1⟩) (meth := k7m1) (c := k7c1) (by decide +kernel) rfl rfl rfl (by decide +kernel)
set_option maxRecDepth 65536 in
theorem w_c7 : (Jvm.Cond.code ({ cls := "java/lang/String", name := "<init>", desc := "([CIILjava/lang/Void;)V" } : Jvm.MethodName) jdk_42_method_149_code (6 : Nat) (Option.none : Option Jvm.ClassFile.FieldType)).before args0 about1 = true := code_word (m := ⟨7, 5⟩) (meth := k7m5) (c := k7c5) (by decide +kernel) rfl rfl rfl (by decide +kernel)
set_option maxRecDepth 65536 in
theorem w_c8 : (Jvm.Cond.code ({ cls := "java/lang/StringUTF16", name := "compress", desc := "([CII)[B" } : Jvm.MethodName) jdk_52_method_16_code (6 : Nat) (Option.some (Jvm.ClassFile.FieldType.array Jvm.ClassFile.FieldType.byte))).before args0 about1 = true := code_word (m := ⟨9, 8⟩) (meth := k9m8) (c := k9c8) (by decide +kernel) rfl rfl rfl (by decide +kernel)
set_option maxRecDepth 65536 in
theorem w_c9 : (Jvm.Cond.code ({ cls := "java/lang/StringUTF16", name := "compress", desc := "([CI[BII)I" } : Jvm.MethodName) jdk_52_method_21_code (7 : Nat) (Option.some Jvm.ClassFile.FieldType.int)).before args0 about1 = true := code_word (m := ⟨9, 9⟩) (meth := k9m9) (c := k9c9) (by decide +kernel) rfl rfl rfl (by decide +kernel)
set_option maxRecDepth 65536 in
theorem w_c10 : (Jvm.Cond.code ({ cls := "java/lang/StringUTF16", name := "coderFromArrayLen", desc := "([BI)B" } : Jvm.MethodName) jdk_52_method_15_code (2 : Nat) (Option.some Jvm.ClassFile.FieldType.byte)).before args0 about1 = true := code_word (m := ⟨9, 7⟩) (meth := k9m7) (c := k9c7) (by decide +kernel) rfl rfl rfl (by decide +kernel)
set_option maxRecDepth 65536 in
theorem w_c11 : (Jvm.Cond.code ({ cls := "com/example/keelson/keelson/bench/LineDigest", name := "<init>", desc := "()V" } : Jvm.MethodName) prog_4_method_1_code (1 : Nat) (Option.none : Option Jvm.ClassFile.FieldType)).before args0 about1 = true := code_word (m := ⟨10, 0⟩) (meth := k10m0) (c := k10c0) (by decide +kernel) rfl rfl rfl (by decide +kernel)
set_option maxRecDepth 65536 in
theorem w_c12 : (Jvm.Cond.code ({ cls := "com/example/keelson/keelson/bench/LineDigest", name := "add", desc := "(Ljava/lang/String;)V" } : Jvm.MethodName) prog_4_method_2_code (8 : Nat) (Option.none : Option Jvm.ClassFile.FieldType)).before args0 about1 = true := code_word (m := ⟨10, 1⟩) (meth := k10m1) (c := k10c1) (by decide +kernel) rfl rfl rfl (by decide +kernel)
set_option maxRecDepth 65536 in
theorem w_c13 : (Jvm.Cond.code ({ cls := "java/lang/String", name := "length", desc := "()I" } : Jvm.MethodName) jdk_42_method_54_code (1 : Nat) (Option.some Jvm.ClassFile.FieldType.int)).before args0 about1 = true := code_word (m := ⟨7, 2⟩) (meth := k7m2) (c := k7c2) (by decide +kernel) rfl rfl rfl (by decide +kernel)
set_option maxRecDepth 65536 in
theorem w_c14 : (Jvm.Cond.code ({ cls := "java/lang/String", name := "coder", desc := "()B" } : Jvm.MethodName) jdk_42_method_152_code (1 : Nat) (Option.some Jvm.ClassFile.FieldType.byte)).before args0 about1 = true := code_word (m := ⟨7, 7⟩) (meth := k7m7) (c := k7c7) (by decide +kernel) rfl rfl rfl (by decide +kernel)
set_option maxRecDepth 65536 in
theorem w_c15 : (Jvm.Cond.code ({ cls := "java/lang/String", name := "charAt", desc := "(I)C" } : Jvm.MethodName) jdk_42_method_56_code (2 : Nat) (Option.some Jvm.ClassFile.FieldType.char)).before args0 about1 = true := code_word (m := ⟨7, 3⟩) (meth := k7m3) (c := k7c3) (by decide +kernel) rfl rfl rfl (by decide +kernel)
set_option maxRecDepth 65536 in
theorem w_c16 : (Jvm.Cond.code ({ cls := "java/lang/String", name := "isLatin1", desc := "()Z" } : Jvm.MethodName) jdk_42_method_154_code (1 : Nat) (Option.some Jvm.ClassFile.FieldType.boolean)).before args0 about1 = true := code_word (m := ⟨7, 8⟩) (meth := k7m8) (c := k7c8) (by decide +kernel) rfl rfl rfl (by decide +kernel)
set_option maxRecDepth 65536 in
theorem w_c17 : (Jvm.Cond.code ({ cls := "java/lang/StringLatin1", name := "charAt", desc := "([BI)C" } : Jvm.MethodName) jdk_43_method_2_code (2 : Nat) (Option.some Jvm.ClassFile.FieldType.char)).before args0 about1 = true := code_word (m := ⟨8, 1⟩) (meth := k8m1) (c := k8c1) (by decide +kernel) rfl rfl rfl (by decide +kernel)
set_option maxRecDepth 65536 in
theorem w_c18 : (Jvm.Cond.code ({ cls := "java/lang/String", name := "checkIndex", desc := "(II)V" } : Jvm.MethodName) jdk_42_method_155_code (2 : Nat) (Option.none : Option Jvm.ClassFile.FieldType)).before args0 about1 = true := code_word (m := ⟨7, 9⟩) (meth := k7m9) (c := k7c9) (by decide +kernel) rfl rfl rfl (by decide +kernel)
set_option maxRecDepth 65536 in
theorem w_c19 : (Jvm.Cond.code ({ cls := "jdk/internal/util/Preconditions", name := "checkIndex", desc := "(IILjava/util/function/BiFunction;)I" } : Jvm.MethodName) jdk_41_method_11_code (3 : Nat) (Option.some Jvm.ClassFile.FieldType.int)).before args0 about1 = true := code_word (m := ⟨11, 1⟩) (meth := k11m1) (c := k11c1) (by decide +kernel) rfl rfl rfl (by decide +kernel)
set_option maxRecDepth 65536 in
theorem w_c20 : (Jvm.Cond.code ({ cls := "java/lang/Long", name := "rotateLeft", desc := "(JI)J" } : Jvm.MethodName) jdk_35_method_51_code (3 : Nat) (Option.some Jvm.ClassFile.FieldType.long)).before args0 about1 = true := code_word (m := ⟨13, 0⟩) (meth := k13m0) (c := k13c0) (by decide +kernel) rfl rfl rfl (by decide +kernel)
set_option maxRecDepth 65536 in
theorem w_c21 : (Jvm.Cond.code ({ cls := "com/example/keelson/keelson/bench/LineDigest", name := "spread", desc := "(JJJ)J" } : Jvm.MethodName) prog_4_method_5_code (8 : Nat) (Option.some Jvm.ClassFile.FieldType.long)).before args0 about1 = true := code_word (m := ⟨10, 3⟩) (meth := k10m3) (c := k10c3) (by decide +kernel) rfl rfl rfl (by decide +kernel)
set_option maxRecDepth 65536 in
theorem w_c22 : (Jvm.Cond.code ({ cls := "com/example/keelson/keelson/bench/LineDigest", name := "sameLines", desc := "(Lcom/example/keelson/keelson/bench/LineDigest;)Z" } : Jvm.MethodName) prog_4_method_4_code (2 : Nat) (Option.some Jvm.ClassFile.FieldType.boolean)).before args0 about1 = true := code_word (m := ⟨10, 2⟩) (meth := k10m2) (c := k10c2) (by decide +kernel) rfl rfl rfl (by decide +kernel)
set_option maxRecDepth 65536 in
theorem w_c23 : (Jvm.Cond.code ({ cls := "java/lang/StringUTF16", name := "toBytes", desc := "(C)[B" } : Jvm.MethodName) jdk_52_method_24_code (2 : Nat) (Option.some (Jvm.ClassFile.FieldType.array Jvm.ClassFile.FieldType.byte))).before args0 about1 = true := code_word (m := ⟨9, 10⟩) (meth := k9m10) (c := k9c10) (by decide +kernel) rfl rfl rfl (by decide +kernel)
set_option maxRecDepth 65536 in
theorem w_c24 : (Jvm.Cond.code ({ cls := "java/lang/StringUTF16", name := "putChar", desc := "([BII)V" } : Jvm.MethodName) jdk_52_method_4_code (3 : Nat) (Option.none : Option Jvm.ClassFile.FieldType)).before args0 about1 = true := code_word (m := ⟨9, 3⟩) (meth := k9m3) (c := k9c3) (by decide +kernel) rfl rfl rfl (by decide +kernel)
set_option maxRecDepth 65536 in
theorem w_c25 : (Jvm.Cond.code ({ cls := "java/lang/StringUTF16", name := "toBytes", desc := "([CII)[B" } : Jvm.MethodName) jdk_52_method_14_code (5 : Nat) (Option.some (Jvm.ClassFile.FieldType.array Jvm.ClassFile.FieldType.byte))).before args0 about1 = true := code_word (m := ⟨9, 6⟩) (meth := k9m6) (c := k9c6) (by decide +kernel) rfl rfl rfl (by decide +kernel)
set_option maxRecDepth 65536 in
theorem w_c26 : (Jvm.Cond.code ({ cls := "java/lang/StringUTF16", name := "newBytesFor", desc := "(I)[B" } : Jvm.MethodName) jdk_52_method_2_code (1 : Nat) (Option.some (Jvm.ClassFile.FieldType.array Jvm.ClassFile.FieldType.byte))).before args0 about1 = true := code_word (m := ⟨9, 1⟩) (meth := k9m1) (c := k9c1) (by decide +kernel) rfl rfl rfl (by decide +kernel)
set_option maxRecDepth 65536 in
theorem w_c27 : (Jvm.Cond.code ({ cls := "java/lang/StringUTF16", name := "newBytesLength", desc := "(I)I" } : Jvm.MethodName) jdk_52_method_3_code (1 : Nat) (Option.some Jvm.ClassFile.FieldType.int)).before args0 about1 = true := code_word (m := ⟨9, 2⟩) (meth := k9m2) (c := k9c2) (by decide +kernel) rfl rfl rfl (by decide +kernel)
set_option maxRecDepth 65536 in
theorem w_c28 : (Jvm.Cond.code ({ cls := "java/lang/StringUTF16", name := "getChar", desc := "([BI)C" } : Jvm.MethodName) jdk_52_method_5_code (2 : Nat) (Option.some Jvm.ClassFile.FieldType.char)).before args0 about1 = true := code_word (m := ⟨9, 4⟩) (meth := k9m4) (c := k9c4) (by decide +kernel) rfl rfl rfl (by decide +kernel)
set_option maxRecDepth 65536 in
theorem w_c29 : (Jvm.Cond.code ({ cls := "java/lang/StringUTF16", name := "charAt", desc := "([BI)C" } : Jvm.MethodName) jdk_52_method_83_code (2 : Nat) (Option.some Jvm.ClassFile.FieldType.char)).before args0 about1 = true := code_word (m := ⟨9, 11⟩) (meth := k9m11) (c := k9c11) (by decide +kernel) rfl rfl rfl (by decide +kernel)
set_option maxRecDepth 65536 in
theorem w_c30 : (Jvm.Cond.code ({ cls := "java/lang/StringUTF16", name := "checkIndex", desc := "(I[B)V" } : Jvm.MethodName) jdk_52_method_91_code (2 : Nat) (Option.none : Option Jvm.ClassFile.FieldType)).before args0 about1 = true := code_word (m := ⟨9, 12⟩) (meth := k9m12) (c := k9c12) (by decide +kernel) rfl rfl rfl (by decide +kernel)
set_option maxRecDepth 65536 in
theorem w_c31 : (Jvm.Cond.code ({ cls := "java/lang/StringUTF16", name := "length", desc := "([B)I" } : Jvm.MethodName) jdk_52_method_6_code (1 : Nat) (Option.some Jvm.ClassFile.FieldType.int)).before args0 about1 = true := code_word (m := ⟨9, 5⟩) (meth := k9m5) (c := k9c5) (by decide +kernel) rfl rfl rfl (by decide +kernel)
def codes1 : List Jvm.Cond := [Jvm.Cond.code x code maxLocals ret, Jvm.Cond.code ({ cls := "java/lang/String", name := "valueOf", desc := "(C)Ljava/lang/String;" } : Jvm.MethodName) jdk_42_method_139_code (1 : Nat) (Option.some (Jvm.ClassFile.FieldType.object "java/lang/String")), Jvm.Cond.code ({ cls := "java/lang/StringLatin1", name := "canEncode", desc := "(C)Z" } : Jvm.MethodName) jdk_43_method_3_code (1 : Nat) (Option.some Jvm.ClassFile.FieldType.boolean), Jvm.Cond.code ({ cls := "java/lang/StringLatin1", name := "toBytes", desc := "(C)[B" } : Jvm.MethodName) jdk_43_method_46_code (1 : Nat) (Option.some (Jvm.ClassFile.FieldType.array Jvm.ClassFile.FieldType.byte)), Jvm.Cond.code ({ cls := "java/lang/String", name := "<init>", desc := "([BB)V" } : Jvm.MethodName) jdk_42_method_151_code (3 : Nat) (Option.none : Option Jvm.ClassFile.FieldType), Jvm.Cond.code ({ cls := "java/lang/Object", name := "<init>", desc := "()V" } : Jvm.MethodName) object_method_1_code (1 : Nat) (Option.none : Option Jvm.ClassFile.FieldType), Jvm.Cond.code ({ cls := "java/lang/String", name := "<init>", desc := "([C)V" } : Jvm.MethodName) jdk_42_method_3_code (2 : Nat) (Option.none : Option Jvm.ClassFile.FieldType), Jvm.Cond.code ({ cls := "java/lang/String", name := "<init>", desc := "([CIILjava/lang/Void;)V" } : Jvm.MethodName) jdk_42_method_149_code (6 : Nat) (Option.none : Option Jvm.ClassFile.FieldType), Jvm.Cond.code ({ cls := "java/lang/StringUTF16", name := "compress", desc := "([CII)[B" } : Jvm.MethodName) jdk_52_method_16_code (6 : Nat) (Option.some (Jvm.ClassFile.FieldType.array Jvm.ClassFile.FieldType.byte)), Jvm.Cond.code ({ cls := "java/lang/StringUTF16", name := "compress", desc := "([CI[BII)I" } : Jvm.MethodName) jdk_52_method_21_code (7 : Nat) (Option.some Jvm.ClassFile.FieldType.int), Jvm.Cond.code ({ cls := "java/lang/StringUTF16", name := "coderFromArrayLen", desc := "([BI)B" } : Jvm.MethodName) jdk_52_method_15_code (2 : Nat) (Option.some Jvm.ClassFile.FieldType.byte), Jvm.Cond.code ({ cls := "com/example/keelson/keelson/bench/LineDigest", name := "<init>", desc := "()V" } : Jvm.MethodName) prog_4_method_1_code (1 : Nat) (Option.none : Option Jvm.ClassFile.FieldType), Jvm.Cond.code ({ cls := "com/example/keelson/keelson/bench/LineDigest", name := "add", desc := "(Ljava/lang/String;)V" } : Jvm.MethodName) prog_4_method_2_code (8 : Nat) (Option.none : Option Jvm.ClassFile.FieldType), Jvm.Cond.code ({ cls := "java/lang/String", name := "length", desc := "()I" } : Jvm.MethodName) jdk_42_method_54_code (1 : Nat) (Option.some Jvm.ClassFile.FieldType.int), Jvm.Cond.code ({ cls := "java/lang/String", name := "coder", desc := "()B" } : Jvm.MethodName) jdk_42_method_152_code (1 : Nat) (Option.some Jvm.ClassFile.FieldType.byte), Jvm.Cond.code ({ cls := "java/lang/String", name := "charAt", desc := "(I)C" } : Jvm.MethodName) jdk_42_method_56_code (2 : Nat) (Option.some Jvm.ClassFile.FieldType.char), Jvm.Cond.code ({ cls := "java/lang/String", name := "isLatin1", desc := "()Z" } : Jvm.MethodName) jdk_42_method_154_code (1 : Nat) (Option.some Jvm.ClassFile.FieldType.boolean), Jvm.Cond.code ({ cls := "java/lang/StringLatin1", name := "charAt", desc := "([BI)C" } : Jvm.MethodName) jdk_43_method_2_code (2 : Nat) (Option.some Jvm.ClassFile.FieldType.char), Jvm.Cond.code ({ cls := "java/lang/String", name := "checkIndex", desc := "(II)V" } : Jvm.MethodName) jdk_42_method_155_code (2 : Nat) (Option.none : Option Jvm.ClassFile.FieldType), Jvm.Cond.code ({ cls := "jdk/internal/util/Preconditions", name := "checkIndex", desc := "(IILjava/util/function/BiFunction;)I" } : Jvm.MethodName) jdk_41_method_11_code (3 : Nat) (Option.some Jvm.ClassFile.FieldType.int), Jvm.Cond.code ({ cls := "java/lang/Long", name := "rotateLeft", desc := "(JI)J" } : Jvm.MethodName) jdk_35_method_51_code (3 : Nat) (Option.some Jvm.ClassFile.FieldType.long), Jvm.Cond.code ({ cls := "com/example/keelson/keelson/bench/LineDigest", name := "spread", desc := "(JJJ)J" } : Jvm.MethodName) prog_4_method_5_code (8 : Nat) (Option.some Jvm.ClassFile.FieldType.long), Jvm.Cond.code ({ cls := "com/example/keelson/keelson/bench/LineDigest", name := "sameLines", desc := "(Lcom/example/keelson/keelson/bench/LineDigest;)Z" } : Jvm.MethodName) prog_4_method_4_code (2 : Nat) (Option.some Jvm.ClassFile.FieldType.boolean), Jvm.Cond.code ({ cls := "java/lang/StringUTF16", name := "toBytes", desc := "(C)[B" } : Jvm.MethodName) jdk_52_method_24_code (2 : Nat) (Option.some (Jvm.ClassFile.FieldType.array Jvm.ClassFile.FieldType.byte)), Jvm.Cond.code ({ cls := "java/lang/StringUTF16", name := "putChar", desc := "([BII)V" } : Jvm.MethodName) jdk_52_method_4_code (3 : Nat) (Option.none : Option Jvm.ClassFile.FieldType), Jvm.Cond.code ({ cls := "java/lang/StringUTF16", name := "toBytes", desc := "([CII)[B" } : Jvm.MethodName) jdk_52_method_14_code (5 : Nat) (Option.some (Jvm.ClassFile.FieldType.array Jvm.ClassFile.FieldType.byte)), Jvm.Cond.code ({ cls := "java/lang/StringUTF16", name := "newBytesFor", desc := "(I)[B" } : Jvm.MethodName) jdk_52_method_2_code (1 : Nat) (Option.some (Jvm.ClassFile.FieldType.array Jvm.ClassFile.FieldType.byte)), Jvm.Cond.code ({ cls := "java/lang/StringUTF16", name := "newBytesLength", desc := "(I)I" } : Jvm.MethodName) jdk_52_method_3_code (1 : Nat) (Option.some Jvm.ClassFile.FieldType.int), Jvm.Cond.code ({ cls := "java/lang/StringUTF16", name := "getChar", desc := "([BI)C" } : Jvm.MethodName) jdk_52_method_5_code (2 : Nat) (Option.some Jvm.ClassFile.FieldType.char), Jvm.Cond.code ({ cls := "java/lang/StringUTF16", name := "charAt", desc := "([BI)C" } : Jvm.MethodName) jdk_52_method_83_code (2 : Nat) (Option.some Jvm.ClassFile.FieldType.char), Jvm.Cond.code ({ cls := "java/lang/StringUTF16", name := "checkIndex", desc := "(I[B)V" } : Jvm.MethodName) jdk_52_method_91_code (2 : Nat) (Option.none : Option Jvm.ClassFile.FieldType), Jvm.Cond.code ({ cls := "java/lang/StringUTF16", name := "length", desc := "([B)I" } : Jvm.MethodName) jdk_52_method_6_code (1 : Nat) (Option.some Jvm.ClassFile.FieldType.int)]
set_option maxRecDepth 65536 in
theorem codes_eq : words1.filter isCode = codes1 := rfl
theorem w_codes : ∀ c ∈ words1.filter isCode, c.before args0 about1 = true := by
  rw [codes_eq]
  intro c hc
  simp only [codes1, List.mem_cons, List.not_mem_nil, or_false] at hc
  rcases hc with rfl | rfl | rfl | rfl | rfl | rfl | rfl | rfl | rfl | rfl | rfl | rfl | rfl | rfl | rfl | rfl | rfl | rfl | rfl | rfl | rfl | rfl | rfl | rfl | rfl | rfl | rfl | rfl | rfl | rfl | rfl | rfl
  · exact w_c0
  · exact w_c1
  · exact w_c2
  · exact w_c3
  · exact w_c4
  · exact w_c5
  · exact w_c6
  · exact w_c7
  · exact w_c8
  · exact w_c9
  · exact w_c10
  · exact w_c11
  · exact w_c12
  · exact w_c13
  · exact w_c14
  · exact w_c15
  · exact w_c16
  · exact w_c17
  · exact w_c18
  · exact w_c19
  · exact w_c20
  · exact w_c21
  · exact w_c22
  · exact w_c23
  · exact w_c24
  · exact w_c25
  · exact w_c26
  · exact w_c27
  · exact w_c28
  · exact w_c29
  · exact w_c30
  · exact w_c31
set_option maxRecDepth 65536 in
theorem w_t1 : (words1.take 24).all (fun c => isCode c || c.before args0 about1) = true := by decide +kernel
set_option maxRecDepth 65536 in
theorem w_t2 : ((words1.drop 24).take 24).all (fun c => isCode c || c.before args0 about1) = true := by decide +kernel
set_option maxRecDepth 65536 in
theorem w_t3 : (((words1.drop 24).drop 24).take 24).all (fun c => isCode c || c.before args0 about1) = true := by decide +kernel
set_option maxRecDepth 65536 in
theorem w_t4 : ((((words1.drop 24).drop 24).drop 24).take 24).all (fun c => isCode c || c.before args0 about1) = true := by decide +kernel
set_option maxRecDepth 65536 in
theorem w_t5 : (((((words1.drop 24).drop 24).drop 24).drop 24).take 24).all (fun c => isCode c || c.before args0 about1) = true := by decide +kernel
set_option maxRecDepth 65536 in
theorem w_t6 : ((((((words1.drop 24).drop 24).drop 24).drop 24).drop 24).take 24).all (fun c => isCode c || c.before args0 about1) = true := by decide +kernel
set_option maxRecDepth 65536 in
theorem w_t7 : ((((((words1.drop 24).drop 24).drop 24).drop 24).drop 24).drop 24).all (fun c => isCode c || c.before args0 about1) = true := by decide +kernel
theorem w_tables : (allAtoms (Jvm.Cond.code x code maxLocals ret :: tables_1)).before args0 about1 = true := by
  rw [allAtoms_all]
  show words1.all (fun c => c.before args0 about1) = true
  refine all_split ?_ w_codes
  rw [← List.take_append_drop 24 words1, List.all_append, w_t1, ← List.take_append_drop 24 (words1.drop 24), List.all_append, w_t2, ← List.take_append_drop 24 ((words1.drop 24).drop 24), List.all_append, w_t3, ← List.take_append_drop 24 (((words1.drop 24).drop 24).drop 24), List.all_append, w_t4, ← List.take_append_drop 24 ((((words1.drop 24).drop 24).drop 24).drop 24), List.all_append, w_t5, ← List.take_append_drop 24 (((((words1.drop 24).drop 24).drop 24).drop 24).drop 24), List.all_append, w_t6, w_t7]
  rfl
set_option maxRecDepth 65536 in
theorem w_rest : rest_1_c.before args0 about1 = true := by decide +kernel
set_option maxRecDepth 65536 in
theorem w_case : (Jvm.Cond.and given_1 narrow_1).before args0 about1 = true := by decide +kernel
theorem w_applies : (headSpec (Jvm.Cond.code x code maxLocals ret :: tables_1) room_1).applies x e0.platform about1 = true :=
  (Spec.applies_iff w_frames).mpr ⟨w_running, w_runnable, w_alone, w_named, w_hears, w_ripe, w_room, w_tables⟩
theorem atStart : AtStart classFile x code maxLocals ret World_1 tables_1 room_1 Calls_1 rest_1 Pre_1 launch0 p0 e0 about1 theMethod args0 below0 :=
  ⟨lists_1, trivial, launch0.admits_env _ _ _, launch0.least_env, fairChoices_fair.cas, fairChoices_fair.clock, w_frames, w_args, w_heap, w_applies, trivial, w_rest, w_case⟩
end start1
theorem witness_1 : WitnessClaimed_1 := ⟨start1.p0, start1.e0, start1.about1, start1.theMethod, start1.args0, start1.below0, start1.atStart⟩
end Jvm.Pilot.@@N@@
