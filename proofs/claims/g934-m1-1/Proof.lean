import JvmDerived
import JvmDerived.Pilot.@@N@@Statement
import JvmDerived.Pilot.@@N@@Code
set_option linter.unusedVariables false
set_option linter.unusedSimpArgs false
namespace Jvm.RoadKit
open Sem ClassFile Op Lib Jvm.Stand Jvm.Free Jvm.LawKit
section New
variable {p : Program} {l : Launch} {e : Env} {R : Room} {s : State} {m : MethodId} {args : Array Value} {below : List Frame} {meth : Method} {c : Code} {T : State} {locs : List Loc} {cells slots : Nat}
theorem retI (X : Stand p l e R s m args below meth c T locs cells slots) (hx : p.tables.exec = Jvm.exec) {pc : Nat} {Ls : Array Slot} {z : Int32} {rest : List Value} (hret : meth.sig.returnType = some .int) (hd : decode c.code pc = .ok (.ireturn, 1)) {fs : List Frame}
    (hl : ∀ (f : JFrame) (acts : List Action), f.method = m → f.locked = none → f.entered = [] → (doReturn e (T.setTop f) acts (some (.int z))).1 = T.setFrames fs) : Steps p.tables e below (T.setTop (mkF m pc Ls (.int z :: rest))) (T.setFrames fs) := by
  have hm' : T.vm.method? m = some meth := X.method'
  have hn : narrow .int (.int z) = .int z := rfl
  show Steps p.tables e below (T.setTop { method := m, pc := pc, locals := Ls, stack := _ :: rest, locked := none }) _
  jvm_step X.here [X.here.top, hx, hd, hm', hret, hn]
  first | (intro acts; rw [hl _ acts rfl rfl rfl]) | rw [hl _ _ rfl rfl rfl]
  exact Steps.refl _
end New
end Jvm.RoadKit
namespace Jvm.Pilot.@@N@@
open Jvm Jvm.ClassFile Sem Op Lib Jvm.Free Jvm.Stand Jvm.LawKit Jvm.RoadKit Bundle Jvm.Pilot.@@N@@.Jvm.D
theorem own_n32 : ∀ n, n < 9 → (Int32.ofNat n).toNatClampNeg = n := by decide
theorem own_nn : ∀ n, n < 9 → ¬ Int32.ofNat n < 0 := by decide
theorem own_pl : ∀ k, k < 8 → (Int32.ofNat (k + 1) - (1 : Int32)).toNatClampNeg = k := by decide
theorem own_pn : ∀ k, k < 8 → ¬ (Int32.ofNat (k + 1) - (1 : Int32)) < (0 : Int32) := by decide
theorem own_dec (k : Nat) : (Int32.ofNat (k + 1) - (1 : Int32)) + (-1 : Int32) = Int32.ofNat k - (1 : Int32) := by
  rw [Int32.ofNat_add]
  have : Int32.ofNat 1 = 1 := rfl
  rw [this, Int32.add_sub_cancel, Int32.sub_eq_add_neg]
theorem own_lt : ∀ n, n < 9 → ∀ i, i < 8 → (Int32.ofNat i < Int32.ofNat n → i < n) := by decide
theorem own_mask (x : Int32) : ∃ n : Nat, 1 ≤ n ∧ n < 9 ∧ (x &&& (7 : Int32)) + (1 : Int32) = Int32.ofNat n := by
  refine ⟨(x &&& 7).toBitVec.toNat + 1, by omega, ?_, ?_⟩
  · have : (x &&& 7).toBitVec.toNat ≤ 7 := by
      simp only [Int32.toBitVec_and, BitVec.toNat_and]
      exact Nat.and_le_right
    omega
  · rw [Int32.ofNat_add]
    congr 1
    apply Int32.toBitVec_inj.mp
    show _ = BitVec.ofNat 32 _
    rw [BitVec.ofNat_toNat]; simp
/-- the long behind t turns of the loop -/
def own_sh (v : Int64) : Nat → Int64
  | 0 => v
  | t + 1 => own_sh v t >>> ((8 : Int32) &&& 0x3f).toInt64
theorem own_sh_bv (v : Int64) (t : Nat) : (own_sh v t).toBitVec = v.toBitVec.sshiftRight (8 * t) := by
  induction t with
  | zero => simp [own_sh]
  | succ t ih =>
    have e : ((8 : Int32) &&& 0x3f).toInt64 = 8 := by decide
    have e2 : (8 : Int64).toBitVec.smod 64 = 8#64 := by decide
    rw [own_sh, e, Int64.toBitVec_shiftRight, ih, e2, BitVec.sshiftRight_eq', Nat.mul_succ, BitVec.sshiftRight_add]
    rfl
/-- the byte t places from the end -/
def own_f (v : Int64) (t : Nat) : Int32 := nar .byte ((own_sh v t).toInt32.toInt8.toInt32)
def own_vals (v : Int64) (n t : Nat) : List Value := (List.range n).map fun j => .int (if n ≤ j + t then own_f v (n - 1 - j) else 0)
theorem own_vals_zero (v : Int64) (n : Nat) : own_vals v n 0 = [] ++ List.replicate n (.int (0 : Int32)) := by
  apply List.ext_getElem
  · simp [own_vals]
  · intro i h1 h2
    simp [own_vals] at h1 h2
    have : ¬ n ≤ i := by omega
    simp [own_vals, this]
theorem own_vals_len (v : Int64) (n t : Nat) : (own_vals v n t).length = n := by simp [own_vals]
theorem own_vals_set (v : Int64) (n t k : Nat) (h : k + 1 + t = n) : (own_vals v n t).set k (.int (nar .byte ((own_sh v t).toInt32.toInt8.toInt32))) = own_vals v n (t + 1) := by
  apply List.ext_getElem
  · simp [own_vals]
  · intro i h1 h2
    rw [List.getElem_set]
    simp [own_vals] at h1 h2
    by_cases q : k = i
    · subst q
      have a1 : n ≤ k + (t + 1) := by omega
      have a2 : n - 1 - k = t := by omega
      simp [own_vals, a1, a2, own_f]
    · rw [if_neg q]
      by_cases r : n ≤ i + t
      · have a1 : n ≤ i + (t + 1) := by omega
        simp [own_vals, r, a1]
      · have a1 : ¬ n ≤ i + (t + 1) := by omega
        simp [own_vals, r, a1]
theorem own_vals_at (v : Int64) (n i : Nat) (h : i < n) (d : Value) : (own_vals v n n).getD i d = .int (own_f v (n - 1 - i)) := by
  simp [own_vals, List.getD_eq_getElem?_getD, h]
/-- what the law compares the byte with -/
def own_c (v : Int64) (i n : Int32) : Int32 := (((v.toUInt64 >>> (((8 : Int32) * ((n - (1 : Int32)) - i)) &&& 0x3f).toInt64.toUInt64).toInt64).toInt32).toInt8.toInt32
theorem own_low (a b : Int64) (h : ∀ j, j < 8 → a.toBitVec.getLsbD j = b.toBitVec.getLsbD j) : a.toInt32.toInt8.toInt32 = b.toInt32.toInt8.toInt32 := by
  congr 1
  apply Int8.toBitVec_inj.mp
  rw [Int32.toBitVec_toInt8, Int32.toBitVec_toInt8, Int64.toBitVec_toInt32, Int64.toBitVec_toInt32]
  apply BitVec.eq_of_getLsbD_eq
  intro j hj
  have h1 : j < 32 := by omega
  have h2 : j < 64 := by omega
  simp only [BitVec.getLsbD_signExtend, hj, h1, h2, decide_true, Bool.true_and, if_true, h j hj]
theorem own_amt : ∀ n, n < 9 → ∀ i, i < n → (((8 : Int32) * ((Int32.ofNat n - (1 : Int32)) - Int32.ofNat i)) &&& 0x3f).toInt64.toUInt64.toBitVec = BitVec.ofNat 64 (8 * (n - 1 - i)) := by decide
theorem own_eq (v : Int64) {n i : Nat} (hn : n < 9) (hi : i < n) : own_f v (n - 1 - i) = own_c v (Int32.ofNat i) (Int32.ofNat n) := by
  show ((own_sh v (n - 1 - i)).toInt32.toInt8.toInt32).toInt8.toInt32 = _
  have e : ∀ y : Int32, (y.toInt8.toInt32).toInt8.toInt32 = y.toInt8.toInt32 := fun y => by simp
  rw [e]
  unfold own_c
  apply own_low
  intro j hj
  rw [own_sh_bv]
  show _ = (v.toUInt64 >>> (((8 : Int32) * ((Int32.ofNat n - (1 : Int32)) - Int32.ofNat i)) &&& 0x3f).toInt64.toUInt64).toBitVec.getLsbD j
  rw [UInt64.toBitVec_shiftRight, own_amt n hn i hi]
  have em : (BitVec.ofNat 64 (8 * (n - 1 - i)) % 64) = BitVec.ofNat 64 (8 * (n - 1 - i)) := by
    apply BitVec.eq_of_toNat_eq
    rw [BitVec.toNat_umod, BitVec.toNat_ofNat]
    show (8 * (n - 1 - i)) % 2 ^ 64 % 64 = _
    omega
  rw [em, BitVec.ushiftRight_eq', BitVec.getLsbD_ushiftRight, BitVec.getLsbD_sshiftRight, BitVec.toNat_ofNat]
  have e3 : 8 * (n - 1 - i) % 2 ^ 64 = 8 * (n - 1 - i) := by omega
  have e4 : ¬ 64 ≤ j := by omega
  have e5 : 8 * (n - 1 - i) + j < 64 := by omega
  rw [e3]
  simp only [e4, e5, decide_false, Bool.not_false, Bool.true_and, if_true]
  rfl
theorem d2_0 : decode method_3_code 0 = .ok (.iload_n 1, 1) := by decide +kernel
theorem d2_1 : decode method_3_code 1 = .ok (.iload 4, 2) := by decide +kernel
theorem d2_3 : decode method_3_code 3 = .ok (.if_icmp .lt 5, 3) := by decide +kernel
theorem d2_6 : decode method_3_code 6 = .ok (.iconst 1, 1) := by decide +kernel
theorem d2_7 : decode method_3_code 7 = .ok (.ireturn, 1) := by decide +kernel
theorem d2_8 : decode method_3_code 8 = .ok (.bipush 8, 2) := by decide +kernel
theorem d2_10 : decode method_3_code 10 = .ok (.iload 4, 2) := by decide +kernel
theorem d2_12 : decode method_3_code 12 = .ok (.iconst 1, 1) := by decide +kernel
theorem d2_13 : decode method_3_code 13 = .ok (.isub, 1) := by decide +kernel
theorem d2_14 : decode method_3_code 14 = .ok (.iload_n 1, 1) := by decide +kernel
theorem d2_15 : decode method_3_code 15 = .ok (.isub, 1) := by decide +kernel
theorem d2_16 : decode method_3_code 16 = .ok (.imul, 1) := by decide +kernel
theorem d2_17 : decode method_3_code 17 = .ok (.istore 5, 2) := by decide +kernel
theorem d2_19 : decode method_3_code 19 = .ok (.aload_n 0, 1) := by decide +kernel
theorem d2_20 : decode method_3_code 20 = .ok (.iload_n 1, 1) := by decide +kernel
theorem d2_21 : decode method_3_code 21 = .ok (.baload, 1) := by decide +kernel
theorem d2_22 : decode method_3_code 22 = .ok (.lload_n 2, 1) := by decide +kernel
theorem d2_23 : decode method_3_code 23 = .ok (.iload 5, 2) := by decide +kernel
theorem d2_25 : decode method_3_code 25 = .ok (.lushr, 1) := by decide +kernel
theorem d2_26 : decode method_3_code 26 = .ok (.l2i, 1) := by decide +kernel
theorem d2_27 : decode method_3_code 27 = .ok (.i2b, 1) := by decide +kernel
theorem d2_28 : decode method_3_code 28 = .ok (.if_icmp .ne 7, 3) := by decide +kernel
theorem d2_31 : decode method_3_code 31 = .ok (.iconst 1, 1) := by decide +kernel
theorem d2_32 : decode method_3_code 32 = .ok (.goto 4, 3) := by decide +kernel
theorem d2_36 : decode method_3_code 36 = .ok (.ireturn, 1) := by decide +kernel
def Q2 (h0 : Heap) (n0 : Nat) (v : Option Value) (h : Heap) (L : List Loc) : Prop := v = some (.int (1 : Int32)) ∧ Fr n0 L ∧ h = h0
theorem pn2 : plainName "com/example/fatrow/fatrow/engine/FixedIntegerCodecEncodePinLaw" = true := by first | (simp [plainName, overriddenIn]; done) | decide +kernel
theorem ef2 (m : MethodId) (x0 : Addr) (x1 : Int32) (x2 : Int64) (x3 : Int32) : entryFrame m #[(.ref x0), (.int x1), (.long x2), (.int x3)] 6 = mkF m 0 #[.val (.ref x0), .val (.int x1), .val (.long x2), .second, .val (.int x3), .unset] [] := by first | (simp [entryFrame, mkF, argsToLocals, Value.category]; done) | rfl
set_option maxRecDepth 65536 in
set_option maxHeartbeats 40000000 in
theorem rm2 (l : Launch) (Z : State) (a0 : Array Value) (hw : ∀ d ∈ tables_1, d.before a0 Z = true) (ws : List Jvm.Cond) (a1 : Addr) (p2 : Int32) (q3 : Int64) (p4 : Int32) (h0 : Heap) (n0 : Nat) (Z0 : n0 ≤ h0.size) (hyp : p2 < p4 → ∃ (cl : Cell) (w : Int32), Arr Z h0 a1 cl .byte ∧ ¬ (p2 < 0 ∨ cl.slots.size ≤ p2.toNatClampNeg) ∧ cl.slots[p2.toNatClampNeg]? = some (.int w) ∧ w = own_c q3 p2 p4) :
    MetFree l (⟨"com/example/fatrow/fatrow/engine/FixedIntegerCodecEncodePinLaw", "at", "([BIJI)Z"⟩ : MethodName) (head1 (Jvm.Cond.code (⟨"com/example/fatrow/fatrow/engine/FixedIntegerCodecEncodePinLaw", "at", "([BIJI)Z"⟩ : MethodName) method_3_code 6 (some .boolean) :: ws) ({ frames := 0, cells := 0, slots := 0, locals := 0 } : Room)) (fun a U => a = #[(.ref a1), (.int p2), (.long q3), (.int p4)] ∧ Z.Warmed39 U.vm ∧ U.heap = h0) (fun _ _ _ _ _ => True) (fun _ U o U' => ∃ v L, o = .returned v ∧ Q2 h0 n0 v U'.heap L ∧ FrameEnd U o U' L ({ frames := 0, cells := 0, slots := 0, locals := 0 } : Room).cells ({ frames := 0, cells := 0, slots := 0, locals := 0 } : Room).slots) := by
  refine MetFree.of_bodySF (plainFor_of_name pn2) hisR ?_
  intro p e s m args below meth c s₁ Bd hml0 hP hK
  obtain ⟨rfl, hZ, hh⟩ := hP
  have hx := Bd.exec
  have hby := Bd.bytes
  have hml : c.maxLocals = 6 := hml0
  have hown : s.vm.findClass "com/example/fatrow/fatrow/engine/FixedIntegerCodecEncodePinLaw" = some m.cls := findClass_of_methodNamed Bd.named
  have hnm := (name_of_methodNamed Bd.named Bd.method).1
  have X0 : Stand p l e ({ frames := 0, cells := 0, slots := 0, locals := 0 } : Room) s m #[(.ref a1), (.int p2), (.long q3), (.int p4)] below meth c s₁ [] 0 0 := Stand.of_body Bd
  have e0 : s₁.heap = h0 := by rw [← hh, Bd.state]; rfl
  have N0 := Fr.nil n0
  have pre0 : ∀ t, Steps p.tables e below (s₁.setTop (mkF m 0 #[.val (.ref a1), .val (.int p2), .val (.long q3), .second, .val (.int p4), .unset] [])) t → Steps p.tables e below (s₁.setTop (entryFrame m #[(.ref a1), (.int p2), (.long q3), (.int p4)] 6)) t := fun t k => castTop (ef2 m a1 p2 q3 p4) k
  by_cases hc3 : p2 < p4
  · obtain ⟨cl, w, Ar, hin, hat, hw'⟩ := hyp hc3
    obtain ⟨fs, hr, hrun, hended, hW, hsame⟩ := X0.leave (v := some (.int (1 : Int32))) (fun h => by rw [Bd.returns] at h; cases h)
    refine ⟨_, _, pre0 _ ?_, hrun, hended, _, _, rfl, ?_, ⟨_, rfl⟩, hW, hsame.mono (by decide) (by decide)⟩
    · show Steps p.tables e below (s₁.setTop (mkF m 0 #[.val (.ref a1), .val (.int p2), .val (.long q3), .second, .val (.int p4), .unset] [])) _
      refine XS.iloadN X0.here hx rfl (hb hby d2_0) rfl ?_
      show Steps p.tables e below (s₁.setTop (mkF m 1 #[.val (.ref a1), .val (.int p2), .val (.long q3), .second, .val (.int p4), .unset] [(.int p2)])) _
      refine XS.iload X0.here hx rfl (hb hby d2_1) rfl ?_
      show Steps p.tables e below (s₁.setTop (mkF m 3 #[.val (.ref a1), .val (.int p2), .val (.long q3), .second, .val (.int p4), .unset] [(.int p4), (.int p2)])) _
      refine XS.icmpYes X0.here hx rfl (pc0 := 3) (pc' := 8) rfl (hb hby d2_3) rfl (tlt (hc3 : p2 < p4)).1 (by decide) (by decide) ?_
      show Steps p.tables e below (s₁.setTop (mkF m 8 #[.val (.ref a1), .val (.int p2), .val (.long q3), .second, .val (.int p4), .unset] [])) _
      refine XS.bipush X0.here hx rfl (hb hby d2_8) ?_
      show Steps p.tables e below (s₁.setTop (mkF m 10 #[.val (.ref a1), .val (.int p2), .val (.long q3), .second, .val (.int p4), .unset] [(.int (8 : Int32))])) _
      refine XS.iload X0.here hx rfl (hb hby d2_10) rfl ?_
      show Steps p.tables e below (s₁.setTop (mkF m 12 #[.val (.ref a1), .val (.int p2), .val (.long q3), .second, .val (.int p4), .unset] [(.int p4), (.int (8 : Int32))])) _
      refine XS.iconst X0.here hx rfl (hb hby d2_12) ?_
      show Steps p.tables e below (s₁.setTop (mkF m 13 #[.val (.ref a1), .val (.int p2), .val (.long q3), .second, .val (.int p4), .unset] [(.int (1 : Int32)), (.int p4), (.int (8 : Int32))])) _
      refine XS.isub X0.here hx rfl (hb hby d2_13) rfl ?_
      show Steps p.tables e below (s₁.setTop (mkF m 14 #[.val (.ref a1), .val (.int p2), .val (.long q3), .second, .val (.int p4), .unset] [(.int (p4 - (1 : Int32))), (.int (8 : Int32))])) _
      refine XS.iloadN X0.here hx rfl (hb hby d2_14) rfl ?_
      show Steps p.tables e below (s₁.setTop (mkF m 15 #[.val (.ref a1), .val (.int p2), .val (.long q3), .second, .val (.int p4), .unset] [(.int p2), (.int (p4 - (1 : Int32))), (.int (8 : Int32))])) _
      refine XS.isub X0.here hx rfl (hb hby d2_15) rfl ?_
      show Steps p.tables e below (s₁.setTop (mkF m 16 #[.val (.ref a1), .val (.int p2), .val (.long q3), .second, .val (.int p4), .unset] [(.int ((p4 - (1 : Int32)) - p2)), (.int (8 : Int32))])) _
      refine XS.imul X0.here hx rfl (hb hby d2_16) rfl ?_
      show Steps p.tables e below (s₁.setTop (mkF m 17 #[.val (.ref a1), .val (.int p2), .val (.long q3), .second, .val (.int p4), .unset] [(.int ((8 : Int32) * ((p4 - (1 : Int32)) - p2)))])) _
      refine XS.istore X0.here hx rfl (hb hby d2_17) rfl (l' := #[.val (.ref a1), .val (.int p2), .val (.long q3), .second, .val (.int p4), .val (.int ((8 : Int32) * ((p4 - (1 : Int32)) - p2)))]) rfl ?_
      show Steps p.tables e below (s₁.setTop (mkF m 19 #[.val (.ref a1), .val (.int p2), .val (.long q3), .second, .val (.int p4), .val (.int ((8 : Int32) * ((p4 - (1 : Int32)) - p2)))] [])) _
      refine XS.aloadN X0.here hx rfl (hb hby d2_19) rfl rfl ?_
      show Steps p.tables e below (s₁.setTop (mkF m 20 #[.val (.ref a1), .val (.int p2), .val (.long q3), .second, .val (.int p4), .val (.int ((8 : Int32) * ((p4 - (1 : Int32)) - p2)))] [(.ref a1)])) _
      refine XS.iloadN X0.here hx rfl (hb hby d2_20) rfl ?_
      show Steps p.tables e below (s₁.setTop (mkF m 21 #[.val (.ref a1), .val (.int p2), .val (.long q3), .second, .val (.int p4), .val (.int ((8 : Int32) * ((p4 - (1 : Int32)) - p2)))] [(.int p2), (.ref a1)])) _
      refine X0.baloadBytes hx (j := p2) (v := (.int w)) (by rw [e0]; exact Ar.1) (State.isArrayOf_alike hZ.alike Ar.2.1) Ar.2.2 hin hat (g := (mkF m 21 #[.val (.ref a1), .val (.int p2), .val (.long q3), .second, .val (.int p4), .val (.int ((8 : Int32) * ((p4 - (1 : Int32)) - p2)))] [(.int p2), (.ref a1)])) rfl rfl (hb hby d2_21) _ ?_
      show Steps p.tables e below (s₁.setTop (mkF m 22 #[.val (.ref a1), .val (.int p2), .val (.long q3), .second, .val (.int p4), .val (.int ((8 : Int32) * ((p4 - (1 : Int32)) - p2)))] [(.int w)])) _
      refine XS.lloadN X0.here hx rfl (hb hby d2_22) rfl ?_
      show Steps p.tables e below (s₁.setTop (mkF m 23 #[.val (.ref a1), .val (.int p2), .val (.long q3), .second, .val (.int p4), .val (.int ((8 : Int32) * ((p4 - (1 : Int32)) - p2)))] [(.long q3), (.int w)])) _
      refine XS.iload X0.here hx rfl (hb hby d2_23) rfl ?_
      show Steps p.tables e below (s₁.setTop (mkF m 25 #[.val (.ref a1), .val (.int p2), .val (.long q3), .second, .val (.int p4), .val (.int ((8 : Int32) * ((p4 - (1 : Int32)) - p2)))] [(.int ((8 : Int32) * ((p4 - (1 : Int32)) - p2))), (.long q3), (.int w)])) _
      refine XS.lushr X0.here hx rfl (hb hby d2_25) rfl ?_
      show Steps p.tables e below (s₁.setTop (mkF m 26 #[.val (.ref a1), .val (.int p2), .val (.long q3), .second, .val (.int p4), .val (.int ((8 : Int32) * ((p4 - (1 : Int32)) - p2)))] [(.long ((q3.toUInt64 >>> (((8 : Int32) * ((p4 - (1 : Int32)) - p2)) &&& 0x3f).toInt64.toUInt64).toInt64)), (.int w)])) _
      refine XS.l2i X0.here hx rfl (hb hby d2_26) rfl ?_
      show Steps p.tables e below (s₁.setTop (mkF m 27 #[.val (.ref a1), .val (.int p2), .val (.long q3), .second, .val (.int p4), .val (.int ((8 : Int32) * ((p4 - (1 : Int32)) - p2)))] [(.int (((q3.toUInt64 >>> (((8 : Int32) * ((p4 - (1 : Int32)) - p2)) &&& 0x3f).toInt64.toUInt64).toInt64).toInt32)), (.int w)])) _
      refine XS.i2b X0.here hx rfl (hb hby d2_27) rfl ?_
      show Steps p.tables e below (s₁.setTop (mkF m 28 #[.val (.ref a1), .val (.int p2), .val (.long q3), .second, .val (.int p4), .val (.int ((8 : Int32) * ((p4 - (1 : Int32)) - p2)))] [(.int ((((q3.toUInt64 >>> (((8 : Int32) * ((p4 - (1 : Int32)) - p2)) &&& 0x3f).toInt64.toUInt64).toInt64).toInt32).toInt8.toInt32)), (.int w)])) _
      refine XS.icmpNo X0.here hx rfl (hb hby d2_28) rfl (teq (hw' : w = ((((q3.toUInt64 >>> (((8 : Int32) * ((p4 - (1 : Int32)) - p2)) &&& 0x3f).toInt64.toUInt64).toInt64).toInt32).toInt8.toInt32))).2 ?_
      show Steps p.tables e below (s₁.setTop (mkF m 31 #[.val (.ref a1), .val (.int p2), .val (.long q3), .second, .val (.int p4), .val (.int ((8 : Int32) * ((p4 - (1 : Int32)) - p2)))] [])) _
      refine XS.iconst X0.here hx rfl (hb hby d2_31) ?_
      show Steps p.tables e below (s₁.setTop (mkF m 32 #[.val (.ref a1), .val (.int p2), .val (.long q3), .second, .val (.int p4), .val (.int ((8 : Int32) * ((p4 - (1 : Int32)) - p2)))] [(.int (1 : Int32))])) _
      refine XS.goto X0.here hx rfl (pc0 := 32) (pc' := 36) rfl (hb hby d2_32) (by decide) (by decide) ?_
      show Steps p.tables e below (s₁.setTop (mkF m 36 #[.val (.ref a1), .val (.int p2), .val (.long q3), .second, .val (.int p4), .val (.int ((8 : Int32) * ((p4 - (1 : Int32)) - p2)))] [(.int (1 : Int32))])) _
      exact retN X0 hx (t := .boolean) Bd.returns (by simp) (hb hby d2_36) hr
    · show Q2 h0 n0 _ s₁.heap _
      rw [e0]
      exact ⟨rfl, N0, rfl⟩
  · obtain ⟨fs, hr, hrun, hended, hW, hsame⟩ := X0.leave (v := some (.int (1 : Int32))) (fun h => by rw [Bd.returns] at h; cases h)
    refine ⟨_, _, pre0 _ ?_, hrun, hended, _, _, rfl, ?_, ⟨_, rfl⟩, hW, hsame.mono (by decide) (by decide)⟩
    · show Steps p.tables e below (s₁.setTop (mkF m 0 #[.val (.ref a1), .val (.int p2), .val (.long q3), .second, .val (.int p4), .unset] [])) _
      refine XS.iloadN X0.here hx rfl (hb hby d2_0) rfl ?_
      show Steps p.tables e below (s₁.setTop (mkF m 1 #[.val (.ref a1), .val (.int p2), .val (.long q3), .second, .val (.int p4), .unset] [(.int p2)])) _
      refine XS.iload X0.here hx rfl (hb hby d2_1) rfl ?_
      show Steps p.tables e below (s₁.setTop (mkF m 3 #[.val (.ref a1), .val (.int p2), .val (.long q3), .second, .val (.int p4), .unset] [(.int p4), (.int p2)])) _
      refine XS.icmpNo X0.here hx rfl (hb hby d2_3) rfl (flt (hc3 : ¬ (p2 < p4))).1 ?_
      show Steps p.tables e below (s₁.setTop (mkF m 6 #[.val (.ref a1), .val (.int p2), .val (.long q3), .second, .val (.int p4), .unset] [])) _
      refine XS.iconst X0.here hx rfl (hb hby d2_6) ?_
      show Steps p.tables e below (s₁.setTop (mkF m 7 #[.val (.ref a1), .val (.int p2), .val (.long q3), .second, .val (.int p4), .unset] [(.int (1 : Int32))])) _
      exact retN X0 hx (t := .boolean) Bd.returns (by simp) (hb hby d2_7) hr
    · show Q2 h0 n0 _ s₁.heap _
      rw [e0]
      exact ⟨rfl, N0, rfl⟩
theorem d1_0 : decode prog_15_method_9_code 0 = .ok (.iload_n 2, 1) := by decide +kernel
theorem d1_1 : decode prog_15_method_9_code 1 = .ok (.newarray .byte, 2) := by decide +kernel
theorem d1_3 : decode prog_15_method_9_code 3 = .ok (.astore_n 3, 1) := by decide +kernel
theorem d1_4 : decode prog_15_method_9_code 4 = .ok (.lload_n 0, 1) := by decide +kernel
theorem d1_5 : decode prog_15_method_9_code 5 = .ok (.lstore 4, 2) := by decide +kernel
theorem d1_7 : decode prog_15_method_9_code 7 = .ok (.iload_n 2, 1) := by decide +kernel
theorem d1_8 : decode prog_15_method_9_code 8 = .ok (.iconst 1, 1) := by decide +kernel
theorem d1_9 : decode prog_15_method_9_code 9 = .ok (.isub, 1) := by decide +kernel
theorem d1_10 : decode prog_15_method_9_code 10 = .ok (.istore 6, 2) := by decide +kernel
theorem d1_12 : decode prog_15_method_9_code 12 = .ok (.iload 6, 2) := by decide +kernel
theorem d1_14 : decode prog_15_method_9_code 14 = .ok (.ifCond .lt 24, 3) := by decide +kernel
theorem d1_17 : decode prog_15_method_9_code 17 = .ok (.aload_n 3, 1) := by decide +kernel
theorem d1_18 : decode prog_15_method_9_code 18 = .ok (.iload 6, 2) := by decide +kernel
theorem d1_20 : decode prog_15_method_9_code 20 = .ok (.lload 4, 2) := by decide +kernel
theorem d1_22 : decode prog_15_method_9_code 22 = .ok (.l2i, 1) := by decide +kernel
theorem d1_23 : decode prog_15_method_9_code 23 = .ok (.i2b, 1) := by decide +kernel
theorem d1_24 : decode prog_15_method_9_code 24 = .ok (.bastore, 1) := by decide +kernel
theorem d1_25 : decode prog_15_method_9_code 25 = .ok (.lload 4, 2) := by decide +kernel
theorem d1_27 : decode prog_15_method_9_code 27 = .ok (.bipush 8, 2) := by decide +kernel
theorem d1_29 : decode prog_15_method_9_code 29 = .ok (.lshr, 1) := by decide +kernel
theorem d1_30 : decode prog_15_method_9_code 30 = .ok (.lstore 4, 2) := by decide +kernel
theorem d1_32 : decode prog_15_method_9_code 32 = .ok (.iinc 6 (-1), 3) := by decide +kernel
theorem d1_35 : decode prog_15_method_9_code 35 = .ok (.goto (-23), 3) := by decide +kernel
theorem d1_38 : decode prog_15_method_9_code 38 = .ok (.aload_n 3, 1) := by decide +kernel
theorem d1_39 : decode prog_15_method_9_code 39 = .ok (.areturn, 1) := by decide +kernel
def Q1 (Z : State) (q1 : Int64) (n : Nat) (h0 : Heap) (n0 : Nat) (v : Option Value) (h : Heap) (L : List Loc) : Prop := Fr n0 L ∧ ∃ (b : Addr) (k : ClassId), v = some (.ref b) ∧ n0 ≤ b ∧ Keep h0 h [] ∧ Arv Z h b k .byte (Int32.ofNat n) (own_vals q1 n n) (.int (0 : Int32))
theorem pn1 : plainName "com/example/fatrow/fatrow/engine/FixedIntegerCodec" = true := by first | (simp [plainName, overriddenIn]; done) | decide +kernel
theorem ef1 (m : MethodId) (x0 : Int64) (x1 : Int32) : entryFrame m #[(.long x0), (.int x1)] 7 = mkF m 0 #[.val (.long x0), .second, .val (.int x1), .unset, .unset, .unset, .unset] [] := by first | (simp [entryFrame, mkF, argsToLocals, Value.category]; done) | rfl
set_option maxRecDepth 65536 in
set_option maxHeartbeats 40000000 in
theorem rm1 (l : Launch) (Z : State) (a0 : Array Value) (hw : ∀ d ∈ tables_1, d.before a0 Z = true) (ws : List Jvm.Cond) (q1 : Int64) (n : Nat) (h0 : Heap) (n0 : Nat) (Z0 : n0 ≤ h0.size) (hn1 : 1 ≤ n) (hn : n < 9) :
    MetFree l (⟨"com/example/fatrow/fatrow/engine/FixedIntegerCodec", "encode", "(JI)[B"⟩ : MethodName) (head1 (Jvm.Cond.code (⟨"com/example/fatrow/fatrow/engine/FixedIntegerCodec", "encode", "(JI)[B"⟩ : MethodName) prog_15_method_9_code 7 (some (.array .byte)) :: ws) ({ frames := 0, cells := 1, slots := 8, locals := 0 } : Room)) (fun a U => a = #[(.long q1), (.int (Int32.ofNat n))] ∧ Z.Warmed39 U.vm ∧ U.heap = h0) (fun _ _ _ _ _ => True) (fun _ U o U' => ∃ v L, o = .returned v ∧ Q1 Z q1 n h0 n0 v U'.heap L ∧ FrameEnd U o U' L ({ frames := 0, cells := 1, slots := 8, locals := 0 } : Room).cells ({ frames := 0, cells := 1, slots := 8, locals := 0 } : Room).slots) := by
  refine MetFree.of_bodySF (plainFor_of_name pn1) hisR ?_
  intro p e s m args below meth c s₁ Bd hml0 hP hK
  obtain ⟨rfl, hZ, hh⟩ := hP
  have hx := Bd.exec
  have hby := Bd.bytes
  have hml : c.maxLocals = 7 := hml0
  have hown : s.vm.findClass "com/example/fatrow/fatrow/engine/FixedIntegerCodec" = some m.cls := findClass_of_methodNamed Bd.named
  have hnm := (name_of_methodNamed Bd.named Bd.method).1
  have X0 : Stand p l e ({ frames := 0, cells := 1, slots := 8, locals := 0 } : Room) s m #[(.long q1), (.int (Int32.ofNat n))] below meth c s₁ [] 0 0 := Stand.of_body Bd
  have e0 : s₁.heap = h0 := by rw [← hh, Bd.state]; rfl
  have N0 := Fr.nil n0
  have pre0 : ∀ t, Steps p.tables e below (s₁.setTop (mkF m 0 #[.val (.long q1), .second, .val (.int (Int32.ofNat n)), .unset, .unset, .unset, .unset] [])) t → Steps p.tables e below (s₁.setTop (entryFrame m #[(.long q1), (.int (Int32.ofNat n))] 7)) t := fun t k => castTop (ef1 m q1 (Int32.ofNat n)) k
  obtain ⟨T1, h1, k1, X1, e1, E1, A1, st1⟩ := newP X0 hx hZ (hw _ (List.mem_of_getElem? (i := 4) rfl)) e0 (g := (mkF m 1 #[.val (.long q1), .second, .val (.int (Int32.ofNat n)), .unset, .unset, .unset, .unset] [(.int (Int32.ofNat n))])) rfl (hb hby d1_1) rfl (own_nn n hn) (cap := 8) (by rw [own_n32 n hn]; omega) (by decide) (by decide) (by decide)
  obtain ⟨b1, g1⟩ : ∃ z, z = h0.size := ⟨_, rfl⟩
  rw [← g1] at A1 st1
  have gn_b1 : n0 ≤ b1 := Nat.le_trans Z0 (Nat.le_of_eq g1.symm)
  have Zs1 : n0 ≤ h1.size := Nat.le_trans Z0 E1.1
  have Kp1 := (Keep.refl h0 []).ext E1
  have Va_b1 := Arv.new A1 (own_nn n hn)
  have V0 : Arv Z h1 b1 k1 .byte (Int32.ofNat n) (own_vals q1 n 0) (.int (0 : Int32)) := by rw [own_vals_zero]; exact Va_b1.pad (pad_rep [] (.int (0 : Int32)) n)
  have szb : h0.size ≤ b1 := Nat.le_of_eq g1.symm
  have loop : ∀ (k t : Nat) (T1 : State) (hp : Heap) (L1 : List Loc), k + t = n → Stand p l e ({ frames := 0, cells := 1, slots := 8, locals := 0 } : Room) s m #[(.long q1), (.int (Int32.ofNat n))] below meth c T1 L1 1 8 → T1.heap = hp → Fr n0 L1 → n0 ≤ hp.size → Arv Z hp b1 k1 .byte (Int32.ofNat n) (own_vals q1 n t) (.int (0 : Int32)) → Keep h0 hp [] → ∃ (T' : State) (h' : Heap) (L' : List Loc), Stand p l e ({ frames := 0, cells := 1, slots := 8, locals := 0 } : Room) s m #[(.long q1), (.int (Int32.ofNat n))] below meth c T' L' 1 8 ∧ T'.heap = h' ∧ Fr n0 L' ∧ n0 ≤ h'.size ∧ Arv Z h' b1 k1 .byte (Int32.ofNat n) (own_vals q1 n n) (.int (0 : Int32)) ∧ Keep h0 h' [] ∧ ∀ target, Steps p.tables e below (T'.setTop (mkF m 38 #[.val (.long q1), .second, .val (.int (Int32.ofNat n)), .val (.ref b1), .val (.long (own_sh q1 n)), .second, .val (.int (Int32.ofNat 0 - (1 : Int32)))] [])) target → Steps p.tables e below (T1.setTop (mkF m 12 #[.val (.long q1), .second, .val (.int (Int32.ofNat n)), .val (.ref b1), .val (.long (own_sh q1 t)), .second, .val (.int (Int32.ofNat k - (1 : Int32)))] [])) target := by
    intro k
    induction k with
    | zero =>
      intro t T1 hp L1 hk Xa ea Na Za Va Ka
      have ht : t = n := by omega
      subst ht
      refine ⟨T1, hp, L1, Xa, ea, Na, Za, Va, Ka, fun target kt => ?_⟩
      show Steps p.tables e below (T1.setTop (mkF m 12 #[.val (.long q1), .second, .val (.int (Int32.ofNat t)), .val (.ref b1), .val (.long (own_sh q1 t)), .second, .val (.int (Int32.ofNat 0 - (1 : Int32)))] [])) _
      refine XS.iload Xa.here hx rfl (hb hby d1_12) rfl ?_
      show Steps p.tables e below (T1.setTop (mkF m 14 #[.val (.long q1), .second, .val (.int (Int32.ofNat t)), .val (.ref b1), .val (.long (own_sh q1 t)), .second, .val (.int (Int32.ofNat 0 - (1 : Int32)))] [(.int (Int32.ofNat 0 - (1 : Int32)))])) _
      refine XS.ifYes Xa.here hx rfl (pc0 := 14) (pc' := 38) rfl (hb hby d1_14) rfl ((if0 _ _).trans (tlt ((by decide) : (Int32.ofNat 0 - (1 : Int32)) < (0 : Int32))).1) (by decide) (by decide) ?_
      exact kt
    | succ k ih =>
      intro t T1 hp L1 hk Xa ea Na Za Va Ka
      obtain ⟨cl2, Ar2, q2, Sz2, Nn2, Hs2, Gs2⟩ := Va
      have hin2 : ¬ ((Int32.ofNat (k + 1) - (1 : Int32)) < 0 ∨ cl2.slots.size ≤ ((Int32.ofNat (k + 1) - (1 : Int32))).toNatClampNeg) := by rw [Sz2, own_n32 n hn, own_pl k (by omega)]; exact fun q => q.elim (own_pn k (by omega)) (fun q => by omega)
      obtain ⟨T3, h3, X3, e3, W3, st3⟩ := stB Xa hx hZ ea Ar2 (j := (Int32.ofNat (k + 1) - (1 : Int32))) hin2 (g := (mkF m 24 #[.val (.long q1), .second, .val (.int (Int32.ofNat n)), .val (.ref b1), .val (.long (own_sh q1 t)), .second, .val (.int (Int32.ofNat (k + 1) - (1 : Int32)))] [(.int (((own_sh q1 t).toInt32).toInt8.toInt32)), (.int (Int32.ofNat (k + 1) - (1 : Int32))), (.ref b1)])) rfl rfl (hb hby d1_24)
      have Va_W3 := Arv.set Ar2 q2 Sz2 Nn2 Hs2 Gs2 (fits_nar_byte _) W3 k (own_pl k (by omega)) (by rw [own_vals_len]; omega)
      have Va_W3' : Arv Z h3 b1 k1 .byte (Int32.ofNat n) (own_vals q1 n (t + 1)) (.int (0 : Int32)) := by rw [← own_vals_set q1 n t k (by omega)]; exact Va_W3
      have N3 := Fr.snoc X3 Na gn_b1
      have Zs3 : n0 ≤ h3.size := Nat.le_trans Za (Keep.of_wr W3).1
      have Kp3 := Ka.wr W3 (Or.inr szb)
      obtain ⟨T', h', L', X', e', N', Z', V', K', st'⟩ := ih (t + 1) T3 h3 _ (by omega) X3 e3 N3 Zs3 Va_W3' Kp3
      refine ⟨T', h', L', X', e', N', Z', V', K', fun target kt => ?_⟩
      show Steps p.tables e below (T1.setTop (mkF m 12 #[.val (.long q1), .second, .val (.int (Int32.ofNat n)), .val (.ref b1), .val (.long (own_sh q1 t)), .second, .val (.int (Int32.ofNat (k + 1) - (1 : Int32)))] [])) _
      refine XS.iload Xa.here hx rfl (hb hby d1_12) rfl ?_
      show Steps p.tables e below (T1.setTop (mkF m 14 #[.val (.long q1), .second, .val (.int (Int32.ofNat n)), .val (.ref b1), .val (.long (own_sh q1 t)), .second, .val (.int (Int32.ofNat (k + 1) - (1 : Int32)))] [(.int (Int32.ofNat (k + 1) - (1 : Int32)))])) _
      refine XS.ifNo Xa.here hx rfl (hb hby d1_14) rfl ((if0 _ _).trans (flt ((own_pn k (by omega)) : ¬ ((Int32.ofNat (k + 1) - (1 : Int32)) < (0 : Int32)))).1) ?_
      show Steps p.tables e below (T1.setTop (mkF m 17 #[.val (.long q1), .second, .val (.int (Int32.ofNat n)), .val (.ref b1), .val (.long (own_sh q1 t)), .second, .val (.int (Int32.ofNat (k + 1) - (1 : Int32)))] [])) _
      refine XS.aloadN Xa.here hx rfl (hb hby d1_17) rfl rfl ?_
      show Steps p.tables e below (T1.setTop (mkF m 18 #[.val (.long q1), .second, .val (.int (Int32.ofNat n)), .val (.ref b1), .val (.long (own_sh q1 t)), .second, .val (.int (Int32.ofNat (k + 1) - (1 : Int32)))] [(.ref b1)])) _
      refine XS.iload Xa.here hx rfl (hb hby d1_18) rfl ?_
      show Steps p.tables e below (T1.setTop (mkF m 20 #[.val (.long q1), .second, .val (.int (Int32.ofNat n)), .val (.ref b1), .val (.long (own_sh q1 t)), .second, .val (.int (Int32.ofNat (k + 1) - (1 : Int32)))] [(.int (Int32.ofNat (k + 1) - (1 : Int32))), (.ref b1)])) _
      refine XS.lload Xa.here hx rfl (hb hby d1_20) rfl ?_
      show Steps p.tables e below (T1.setTop (mkF m 22 #[.val (.long q1), .second, .val (.int (Int32.ofNat n)), .val (.ref b1), .val (.long (own_sh q1 t)), .second, .val (.int (Int32.ofNat (k + 1) - (1 : Int32)))] [(.long (own_sh q1 t)), (.int (Int32.ofNat (k + 1) - (1 : Int32))), (.ref b1)])) _
      refine XS.l2i Xa.here hx rfl (hb hby d1_22) rfl ?_
      show Steps p.tables e below (T1.setTop (mkF m 23 #[.val (.long q1), .second, .val (.int (Int32.ofNat n)), .val (.ref b1), .val (.long (own_sh q1 t)), .second, .val (.int (Int32.ofNat (k + 1) - (1 : Int32)))] [(.int ((own_sh q1 t).toInt32)), (.int (Int32.ofNat (k + 1) - (1 : Int32))), (.ref b1)])) _
      refine XS.i2b Xa.here hx rfl (hb hby d1_23) rfl ?_
      show Steps p.tables e below (T1.setTop (mkF m 24 #[.val (.long q1), .second, .val (.int (Int32.ofNat n)), .val (.ref b1), .val (.long (own_sh q1 t)), .second, .val (.int (Int32.ofNat (k + 1) - (1 : Int32)))] [(.int (((own_sh q1 t).toInt32).toInt8.toInt32)), (.int (Int32.ofNat (k + 1) - (1 : Int32))), (.ref b1)])) _
      refine st3 _ ?_
      show Steps p.tables e below (T3.setTop (mkF m 25 #[.val (.long q1), .second, .val (.int (Int32.ofNat n)), .val (.ref b1), .val (.long (own_sh q1 t)), .second, .val (.int (Int32.ofNat (k + 1) - (1 : Int32)))] [])) _
      refine XS.lload X3.here hx rfl (hb hby d1_25) rfl ?_
      show Steps p.tables e below (T3.setTop (mkF m 27 #[.val (.long q1), .second, .val (.int (Int32.ofNat n)), .val (.ref b1), .val (.long (own_sh q1 t)), .second, .val (.int (Int32.ofNat (k + 1) - (1 : Int32)))] [(.long (own_sh q1 t))])) _
      refine XS.bipush X3.here hx rfl (hb hby d1_27) ?_
      show Steps p.tables e below (T3.setTop (mkF m 29 #[.val (.long q1), .second, .val (.int (Int32.ofNat n)), .val (.ref b1), .val (.long (own_sh q1 t)), .second, .val (.int (Int32.ofNat (k + 1) - (1 : Int32)))] [(.int (8 : Int32)), (.long (own_sh q1 t))])) _
      refine XS.lshr X3.here hx rfl (hb hby d1_29) rfl ?_
      show Steps p.tables e below (T3.setTop (mkF m 30 #[.val (.long q1), .second, .val (.int (Int32.ofNat n)), .val (.ref b1), .val (.long (own_sh q1 t)), .second, .val (.int (Int32.ofNat (k + 1) - (1 : Int32)))] [(.long ((own_sh q1 t) >>> ((8 : Int32) &&& 0x3f).toInt64))])) _
      refine XS.lstore X3.here hx rfl (hb hby d1_30) rfl (l' := #[.val (.long q1), .second, .val (.int (Int32.ofNat n)), .val (.ref b1), .val (.long ((own_sh q1 t) >>> ((8 : Int32) &&& 0x3f).toInt64)), .second, .val (.int (Int32.ofNat (k + 1) - (1 : Int32)))]) rfl ?_
      show Steps p.tables e below (T3.setTop (mkF m 32 #[.val (.long q1), .second, .val (.int (Int32.ofNat n)), .val (.ref b1), .val (.long ((own_sh q1 t) >>> ((8 : Int32) &&& 0x3f).toInt64)), .second, .val (.int (Int32.ofNat (k + 1) - (1 : Int32)))] [])) _
      refine XS.iinc X3.here hx rfl (hb hby d1_32) rfl (l' := #[.val (.long q1), .second, .val (.int (Int32.ofNat n)), .val (.ref b1), .val (.long ((own_sh q1 t) >>> ((8 : Int32) &&& 0x3f).toInt64)), .second, .val (.int ((Int32.ofNat (k + 1) - (1 : Int32)) + (-1 : Int32)))]) rfl ?_
      show Steps p.tables e below (T3.setTop (mkF m 35 #[.val (.long q1), .second, .val (.int (Int32.ofNat n)), .val (.ref b1), .val (.long ((own_sh q1 t) >>> ((8 : Int32) &&& 0x3f).toInt64)), .second, .val (.int ((Int32.ofNat (k + 1) - (1 : Int32)) + (-1 : Int32)))] [])) _
      refine XS.goto X3.here hx rfl (pc0 := 35) (pc' := 12) rfl (hb hby d1_35) (by decide) (by decide) ?_
      rw [own_dec]
      exact st' target kt
  obtain ⟨TL, hL, LL, XL, eL, NL, ZL, VL, KL, stL⟩ := loop n 0 T1 h1 [] (by omega) X1 e1 N0 Zs1 V0 Kp1
  obtain ⟨fs, hr, hrun, hended, hW, hsame⟩ := XL.leave (v := some (.ref b1)) (fun h => by rw [Bd.returns] at h; cases h)
  refine ⟨_, _, pre0 _ ?_, hrun, hended, _, _, rfl, ?_, ⟨_, rfl⟩, hW, hsame.mono (by decide) (by decide)⟩
  · show Steps p.tables e below (s₁.setTop (mkF m 0 #[.val (.long q1), .second, .val (.int (Int32.ofNat n)), .unset, .unset, .unset, .unset] [])) _
    refine XS.iloadN X0.here hx rfl (hb hby d1_0) rfl ?_
    show Steps p.tables e below (s₁.setTop (mkF m 1 #[.val (.long q1), .second, .val (.int (Int32.ofNat n)), .unset, .unset, .unset, .unset] [(.int (Int32.ofNat n))])) _
    refine st1 _ ?_
    show Steps p.tables e below (T1.setTop (mkF m 3 #[.val (.long q1), .second, .val (.int (Int32.ofNat n)), .unset, .unset, .unset, .unset] [(.ref b1)])) _
    refine XS.astoreN X1.here hx rfl (hb hby d1_3) rfl rfl (l' := #[.val (.long q1), .second, .val (.int (Int32.ofNat n)), .val (.ref b1), .unset, .unset, .unset]) rfl ?_
    show Steps p.tables e below (T1.setTop (mkF m 4 #[.val (.long q1), .second, .val (.int (Int32.ofNat n)), .val (.ref b1), .unset, .unset, .unset] [])) _
    refine XS.lloadN X1.here hx rfl (hb hby d1_4) rfl ?_
    show Steps p.tables e below (T1.setTop (mkF m 5 #[.val (.long q1), .second, .val (.int (Int32.ofNat n)), .val (.ref b1), .unset, .unset, .unset] [(.long q1)])) _
    refine XS.lstore X1.here hx rfl (hb hby d1_5) rfl (l' := #[.val (.long q1), .second, .val (.int (Int32.ofNat n)), .val (.ref b1), .val (.long q1), .second, .unset]) rfl ?_
    show Steps p.tables e below (T1.setTop (mkF m 7 #[.val (.long q1), .second, .val (.int (Int32.ofNat n)), .val (.ref b1), .val (.long q1), .second, .unset] [])) _
    refine XS.iloadN X1.here hx rfl (hb hby d1_7) rfl ?_
    show Steps p.tables e below (T1.setTop (mkF m 8 #[.val (.long q1), .second, .val (.int (Int32.ofNat n)), .val (.ref b1), .val (.long q1), .second, .unset] [(.int (Int32.ofNat n))])) _
    refine XS.iconst X1.here hx rfl (hb hby d1_8) ?_
    show Steps p.tables e below (T1.setTop (mkF m 9 #[.val (.long q1), .second, .val (.int (Int32.ofNat n)), .val (.ref b1), .val (.long q1), .second, .unset] [(.int (1 : Int32)), (.int (Int32.ofNat n))])) _
    refine XS.isub X1.here hx rfl (hb hby d1_9) rfl ?_
    show Steps p.tables e below (T1.setTop (mkF m 10 #[.val (.long q1), .second, .val (.int (Int32.ofNat n)), .val (.ref b1), .val (.long q1), .second, .unset] [(.int ((Int32.ofNat n) - (1 : Int32)))])) _
    refine XS.istore X1.here hx rfl (hb hby d1_10) rfl (l' := #[.val (.long q1), .second, .val (.int (Int32.ofNat n)), .val (.ref b1), .val (.long q1), .second, .val (.int ((Int32.ofNat n) - (1 : Int32)))]) rfl ?_
    refine stL _ ?_
    show Steps p.tables e below (TL.setTop (mkF m 38 #[.val (.long q1), .second, .val (.int (Int32.ofNat n)), .val (.ref b1), .val (.long (own_sh q1 n)), .second, .val (.int (Int32.ofNat 0 - (1 : Int32)))] [])) _
    refine XS.aloadN XL.here hx rfl (hb hby d1_38) rfl rfl ?_
    show Steps p.tables e below (TL.setTop (mkF m 39 #[.val (.long q1), .second, .val (.int (Int32.ofNat n)), .val (.ref b1), .val (.long (own_sh q1 n)), .second, .val (.int (Int32.ofNat 0 - (1 : Int32)))] [(.ref b1)])) _
    exact retOut XL hx Bd.returns rfl (by simp [Value.isRef, FieldType.isReference]) (hb hby d1_39) hr
  · show Q1 Z q1 n h0 n0 _ TL.heap _
    rw [eL]
    exact ⟨NL, b1, k1, rfl, gn_b1, KL, VL⟩
theorem pd0_0 : parseMethodDescriptor "(JI)[B" = some ⟨[.long, .int], some (.array .byte)⟩ := by decide +kernel
theorem pd0_1 : parseMethodDescriptor "([BIJI)Z" = some ⟨[(.array .byte), .int, .long, .int], some .boolean⟩ := by decide +kernel
def Q0 (n0 : Nat) (v : Option Value) (h : Heap) (L : List Loc) : Prop := v = some (.int (1 : Int32)) ∧ Fr n0 L
theorem pn0 : plainName "com/example/fatrow/fatrow/engine/FixedIntegerCodecEncodePinLaw" = true := by first | (simp [plainName, overriddenIn]; done) | decide +kernel
theorem ef0 (m : MethodId) (x0 : Int64) (x1 : Int32) : entryFrame m #[(.long x0), (.int x1)] maxLocals = mkF m 0 #[.val (.long x0), .second, .val (.int x1), .unset, .unset, .unset, .unset] [] := by first | (simp [entryFrame, mkF, argsToLocals, Value.category, maxLocals]; done) | rfl
set_option maxRecDepth 65536 in
set_option maxHeartbeats 40000000 in
theorem rm0 (l : Launch) (Z : State) (a0 : Array Value) (hw : ∀ d ∈ tables_1, d.before a0 Z = true) (ws : List Jvm.Cond) (q1 : Int64) (p2 : Int32) (h0 : Heap) (n0 : Nat) (Z0 : n0 ≤ h0.size)  :
    MetFree l x (head1 (Jvm.Cond.code x code maxLocals ret :: ws) room_1) (fun a U => a = #[(.long q1), (.int p2)] ∧ Z.Warmed39 U.vm ∧ U.heap = h0) (fun _ _ _ _ _ => True) (fun _ U o U' => ∃ v L, o = .returned v ∧ Q0 n0 v U'.heap L ∧ FrameEnd U o U' L room_1.cells room_1.slots) := by
  refine MetFree.of_bodySF (plainFor_of_name pn0) hisR ?_
  intro p e s m args below meth c s₁ Bd hml0 hP hK
  obtain ⟨rfl, hZ, hh⟩ := hP
  have hx := Bd.exec
  have hby := Bd.bytes
  have hml : c.maxLocals = 7 := hml0
  have hown : s.vm.findClass "com/example/fatrow/fatrow/engine/FixedIntegerCodecEncodePinLaw" = some m.cls := findClass_of_methodNamed Bd.named
  have hnm := (name_of_methodNamed Bd.named Bd.method).1
  have X0 : Stand p l e room_1 s m #[(.long q1), (.int p2)] below meth c s₁ [] 0 0 := Stand.of_body Bd
  have e0 : s₁.heap = h0 := by rw [← hh, Bd.state]; rfl
  have N0 := Fr.nil n0
  have pre0 : ∀ t, Steps p.tables e below (s₁.setTop (mkF m 0 #[.val (.long q1), .second, .val (.int p2), .unset, .unset, .unset, .unset] [])) t → Steps p.tables e below (s₁.setTop (entryFrame m #[(.long q1), (.int p2)] maxLocals)) t := fun t k => castTop (ef0 m q1 p2) k
  obtain ⟨n, hn1, hn, hm⟩ := own_mask p2
  obtain ⟨v, ev⟩ : ∃ z : Int64, z = (q1 >>> (((64 : Int32) - ((8 : Int32) * (Int32.ofNat n))) &&& 0x3f).toInt64) := ⟨_, rfl⟩
  obtain ⟨_, _, ⟨T1, L1, k1, n1⟩, -, X1, ⟨Lc1, hQ1, l1, y1, z1⟩, st1⟩ := Jvm.LawKit.callS X0 hx (y := (⟨"com/example/fatrow/fatrow/engine/FixedIntegerCodec", "encode", "(JI)[B"⟩ : MethodName)) hown (mvT hZ (hw _ (List.mem_of_getElem? (i := 0) rfl))) (mvT hZ (hw _ (List.mem_of_getElem? (i := 1) rfl))) (mvT hZ (hw _ (List.mem_of_getElem? (i := 2) rfl))) (mvT hZ (hw _ (List.mem_of_getElem? (i := 3) rfl))) (by decide) (backOf (W := 0) (rm1 l Z a0 hw [] v n h0 n0 Z0 hn1 hn) hZ (hw _ (List.mem_of_getElem? (i := 3) rfl)) (hw _ (List.mem_of_getElem? (i := 2) rfl)) (by decide) (by decide)) (g := (mkF m 21 #[.val (.long q1), .second, .val (.int p2), .val (.int (Int32.ofNat n)), .val (.long v), .second, .unset] [(.int (Int32.ofNat n)), (.long v)])) rfl (by rw [hml]; rfl) (argsL := [(.long v), (.int (Int32.ofNat n))]) (rest := []) (lenOf pd0_0 rfl) rfl (by show 2 * 0 + _ ≤ _; exact Nat.le_of_eq rfl) (hb hby at_21) (fun _ _ => ⟨rfl, e0, (by decide : 0 + 1 ≤ _), (by decide : 0 + 8 ≤ _)⟩)
  dsimp only [Pt.U, Pt.locs, Pt.cells, Pt.slots] at X1 l1 y1 z1 st1 hQ1
  subst l1 y1 z1
  obtain ⟨Nq1, ab, kb, rfl, gb, Kc1, Vb⟩ := hQ1
  have N1 := Fr.app N0 Nq1
  have Zs1 : n0 ≤ T1.heap.size := Nat.le_trans Z0 Kc1.1
  obtain ⟨cl, Ar, qk, Sz, Nn, Hs, Gs⟩ := Vb
  have hyp : ∀ i, i < 8 → Int32.ofNat i < Int32.ofNat n → ∃ (cl : Cell) (w : Int32), Arr Z T1.heap ab cl .byte ∧ ¬ (Int32.ofNat i < 0 ∨ cl.slots.size ≤ (Int32.ofNat i).toNatClampNeg) ∧ cl.slots[(Int32.ofNat i).toNatClampNeg]? = some (.int w) ∧ w = own_c v (Int32.ofNat i) (Int32.ofNat n) := fun i hi hlt => by
    have hin := own_lt n hn i hi hlt
    refine ⟨cl, own_f v (n - 1 - i), Ar, ?_, ?_, own_eq v hn hin⟩
    · rw [Sz, own_n32 n hn, own_n32 i (by omega)]
      exact fun q => q.elim (own_nn i (by omega)) (fun q => by omega)
    · rw [own_n32 i (by omega), Hs i (by rw [Sz, own_n32 n hn]; exact hin), own_vals_at v n i hin]
  obtain ⟨_, _, ⟨T2, L2, k2, n2⟩, -, X2, ⟨Lc2, hQ2, l2, y2, z2⟩, st2⟩ := Jvm.LawKit.callS X1 hx (y := (⟨"com/example/fatrow/fatrow/engine/FixedIntegerCodecEncodePinLaw", "at", "([BIJI)Z"⟩ : MethodName)) hown (mvT hZ (hw _ (List.mem_of_getElem? (i := 5) rfl))) (mvT hZ (hw _ (List.mem_of_getElem? (i := 6) rfl))) (mvT hZ (hw _ (List.mem_of_getElem? (i := 7) rfl))) (mvT hZ (hw _ (List.mem_of_getElem? (i := 8) rfl))) (by decide) (backOf (W := 0) (rm2 l Z a0 hw [] ab (0 : Int32) v (Int32.ofNat n) T1.heap n0 Zs1 (hyp 0 (by decide))) hZ (hw _ (List.mem_of_getElem? (i := 8) rfl)) (hw _ (List.mem_of_getElem? (i := 7) rfl)) (by decide) (by decide)) (g := (mkF m 41 #[.val (.long q1), .second, .val (.int p2), .val (.int (Int32.ofNat n)), .val (.long v), .second, .val (.ref ab)] [(.int (Int32.ofNat n)), (.long v), (.int (0 : Int32)), (.ref ab)])) rfl (by rw [hml]; rfl) (argsL := [(.ref ab), (.int (0 : Int32)), (.long v), (.int (Int32.ofNat n))]) (rest := []) (lenOf pd0_1 rfl) rfl (by show 2 * 0 + _ ≤ _; exact Nat.le_of_eq rfl) (hb hby at_41) (fun _ _ => ⟨rfl, rfl, (by decide : 1 + 0 ≤ _), (by decide : 8 + 0 ≤ _)⟩)
  dsimp only [Pt.U, Pt.locs, Pt.cells, Pt.slots] at X2 l2 y2 z2 st2 hQ2
  subst l2 y2 z2
  obtain ⟨rfl, Nq2, e2⟩ := hQ2
  have N2 := Fr.app N1 Nq2
  obtain ⟨_, _, ⟨T3, L3, k3, n3⟩, -, X3, ⟨Lc3, hQ3, l3, y3, z3⟩, st3⟩ := Jvm.LawKit.callS X2 hx (y := (⟨"com/example/fatrow/fatrow/engine/FixedIntegerCodecEncodePinLaw", "at", "([BIJI)Z"⟩ : MethodName)) hown (mvT hZ (hw _ (List.mem_of_getElem? (i := 5) rfl))) (mvT hZ (hw _ (List.mem_of_getElem? (i := 6) rfl))) (mvT hZ (hw _ (List.mem_of_getElem? (i := 7) rfl))) (mvT hZ (hw _ (List.mem_of_getElem? (i := 8) rfl))) (by decide) (backOf (W := 0) (rm2 l Z a0 hw [] ab (1 : Int32) v (Int32.ofNat n) T1.heap n0 Zs1 (hyp 1 (by decide))) hZ (hw _ (List.mem_of_getElem? (i := 8) rfl)) (hw _ (List.mem_of_getElem? (i := 7) rfl)) (by decide) (by decide)) (g := (mkF m 53 #[.val (.long q1), .second, .val (.int p2), .val (.int (Int32.ofNat n)), .val (.long v), .second, .val (.ref ab)] [(.int (Int32.ofNat n)), (.long v), (.int (1 : Int32)), (.ref ab)])) rfl (by rw [hml]; rfl) (argsL := [(.ref ab), (.int (1 : Int32)), (.long v), (.int (Int32.ofNat n))]) (rest := []) (lenOf pd0_1 rfl) rfl (by show 2 * 0 + _ ≤ _; exact Nat.le_of_eq rfl) (hb hby at_53) (fun _ _ => ⟨rfl, e2, (by decide : 1 + 0 ≤ _), (by decide : 8 + 0 ≤ _)⟩)
  dsimp only [Pt.U, Pt.locs, Pt.cells, Pt.slots] at X3 l3 y3 z3 st3 hQ3
  subst l3 y3 z3
  obtain ⟨rfl, Nq3, e3⟩ := hQ3
  have N3 := Fr.app N2 Nq3
  obtain ⟨_, _, ⟨T4, L4, k4, n4⟩, -, X4, ⟨Lc4, hQ4, l4, y4, z4⟩, st4⟩ := Jvm.LawKit.callS X3 hx (y := (⟨"com/example/fatrow/fatrow/engine/FixedIntegerCodecEncodePinLaw", "at", "([BIJI)Z"⟩ : MethodName)) hown (mvT hZ (hw _ (List.mem_of_getElem? (i := 5) rfl))) (mvT hZ (hw _ (List.mem_of_getElem? (i := 6) rfl))) (mvT hZ (hw _ (List.mem_of_getElem? (i := 7) rfl))) (mvT hZ (hw _ (List.mem_of_getElem? (i := 8) rfl))) (by decide) (backOf (W := 0) (rm2 l Z a0 hw [] ab (2 : Int32) v (Int32.ofNat n) T1.heap n0 Zs1 (hyp 2 (by decide))) hZ (hw _ (List.mem_of_getElem? (i := 8) rfl)) (hw _ (List.mem_of_getElem? (i := 7) rfl)) (by decide) (by decide)) (g := (mkF m 65 #[.val (.long q1), .second, .val (.int p2), .val (.int (Int32.ofNat n)), .val (.long v), .second, .val (.ref ab)] [(.int (Int32.ofNat n)), (.long v), (.int (2 : Int32)), (.ref ab)])) rfl (by rw [hml]; rfl) (argsL := [(.ref ab), (.int (2 : Int32)), (.long v), (.int (Int32.ofNat n))]) (rest := []) (lenOf pd0_1 rfl) rfl (by show 2 * 0 + _ ≤ _; exact Nat.le_of_eq rfl) (hb hby at_65) (fun _ _ => ⟨rfl, e3, (by decide : 1 + 0 ≤ _), (by decide : 8 + 0 ≤ _)⟩)
  dsimp only [Pt.U, Pt.locs, Pt.cells, Pt.slots] at X4 l4 y4 z4 st4 hQ4
  subst l4 y4 z4
  obtain ⟨rfl, Nq4, e4⟩ := hQ4
  have N4 := Fr.app N3 Nq4
  obtain ⟨_, _, ⟨T5, L5, k5, n5⟩, -, X5, ⟨Lc5, hQ5, l5, y5, z5⟩, st5⟩ := Jvm.LawKit.callS X4 hx (y := (⟨"com/example/fatrow/fatrow/engine/FixedIntegerCodecEncodePinLaw", "at", "([BIJI)Z"⟩ : MethodName)) hown (mvT hZ (hw _ (List.mem_of_getElem? (i := 5) rfl))) (mvT hZ (hw _ (List.mem_of_getElem? (i := 6) rfl))) (mvT hZ (hw _ (List.mem_of_getElem? (i := 7) rfl))) (mvT hZ (hw _ (List.mem_of_getElem? (i := 8) rfl))) (by decide) (backOf (W := 0) (rm2 l Z a0 hw [] ab (3 : Int32) v (Int32.ofNat n) T1.heap n0 Zs1 (hyp 3 (by decide))) hZ (hw _ (List.mem_of_getElem? (i := 8) rfl)) (hw _ (List.mem_of_getElem? (i := 7) rfl)) (by decide) (by decide)) (g := (mkF m 77 #[.val (.long q1), .second, .val (.int p2), .val (.int (Int32.ofNat n)), .val (.long v), .second, .val (.ref ab)] [(.int (Int32.ofNat n)), (.long v), (.int (3 : Int32)), (.ref ab)])) rfl (by rw [hml]; rfl) (argsL := [(.ref ab), (.int (3 : Int32)), (.long v), (.int (Int32.ofNat n))]) (rest := []) (lenOf pd0_1 rfl) rfl (by show 2 * 0 + _ ≤ _; exact Nat.le_of_eq rfl) (hb hby at_77) (fun _ _ => ⟨rfl, e4, (by decide : 1 + 0 ≤ _), (by decide : 8 + 0 ≤ _)⟩)
  dsimp only [Pt.U, Pt.locs, Pt.cells, Pt.slots] at X5 l5 y5 z5 st5 hQ5
  subst l5 y5 z5
  obtain ⟨rfl, Nq5, e5⟩ := hQ5
  have N5 := Fr.app N4 Nq5
  obtain ⟨_, _, ⟨T6, L6, k6, n6⟩, -, X6, ⟨Lc6, hQ6, l6, y6, z6⟩, st6⟩ := Jvm.LawKit.callS X5 hx (y := (⟨"com/example/fatrow/fatrow/engine/FixedIntegerCodecEncodePinLaw", "at", "([BIJI)Z"⟩ : MethodName)) hown (mvT hZ (hw _ (List.mem_of_getElem? (i := 5) rfl))) (mvT hZ (hw _ (List.mem_of_getElem? (i := 6) rfl))) (mvT hZ (hw _ (List.mem_of_getElem? (i := 7) rfl))) (mvT hZ (hw _ (List.mem_of_getElem? (i := 8) rfl))) (by decide) (backOf (W := 0) (rm2 l Z a0 hw [] ab (4 : Int32) v (Int32.ofNat n) T1.heap n0 Zs1 (hyp 4 (by decide))) hZ (hw _ (List.mem_of_getElem? (i := 8) rfl)) (hw _ (List.mem_of_getElem? (i := 7) rfl)) (by decide) (by decide)) (g := (mkF m 89 #[.val (.long q1), .second, .val (.int p2), .val (.int (Int32.ofNat n)), .val (.long v), .second, .val (.ref ab)] [(.int (Int32.ofNat n)), (.long v), (.int (4 : Int32)), (.ref ab)])) rfl (by rw [hml]; rfl) (argsL := [(.ref ab), (.int (4 : Int32)), (.long v), (.int (Int32.ofNat n))]) (rest := []) (lenOf pd0_1 rfl) rfl (by show 2 * 0 + _ ≤ _; exact Nat.le_of_eq rfl) (hb hby at_89) (fun _ _ => ⟨rfl, e5, (by decide : 1 + 0 ≤ _), (by decide : 8 + 0 ≤ _)⟩)
  dsimp only [Pt.U, Pt.locs, Pt.cells, Pt.slots] at X6 l6 y6 z6 st6 hQ6
  subst l6 y6 z6
  obtain ⟨rfl, Nq6, e6⟩ := hQ6
  have N6 := Fr.app N5 Nq6
  obtain ⟨_, _, ⟨T7, L7, k7, n7⟩, -, X7, ⟨Lc7, hQ7, l7, y7, z7⟩, st7⟩ := Jvm.LawKit.callS X6 hx (y := (⟨"com/example/fatrow/fatrow/engine/FixedIntegerCodecEncodePinLaw", "at", "([BIJI)Z"⟩ : MethodName)) hown (mvT hZ (hw _ (List.mem_of_getElem? (i := 5) rfl))) (mvT hZ (hw _ (List.mem_of_getElem? (i := 6) rfl))) (mvT hZ (hw _ (List.mem_of_getElem? (i := 7) rfl))) (mvT hZ (hw _ (List.mem_of_getElem? (i := 8) rfl))) (by decide) (backOf (W := 0) (rm2 l Z a0 hw [] ab (5 : Int32) v (Int32.ofNat n) T1.heap n0 Zs1 (hyp 5 (by decide))) hZ (hw _ (List.mem_of_getElem? (i := 8) rfl)) (hw _ (List.mem_of_getElem? (i := 7) rfl)) (by decide) (by decide)) (g := (mkF m 101 #[.val (.long q1), .second, .val (.int p2), .val (.int (Int32.ofNat n)), .val (.long v), .second, .val (.ref ab)] [(.int (Int32.ofNat n)), (.long v), (.int (5 : Int32)), (.ref ab)])) rfl (by rw [hml]; rfl) (argsL := [(.ref ab), (.int (5 : Int32)), (.long v), (.int (Int32.ofNat n))]) (rest := []) (lenOf pd0_1 rfl) rfl (by show 2 * 0 + _ ≤ _; exact Nat.le_of_eq rfl) (hb hby at_101) (fun _ _ => ⟨rfl, e6, (by decide : 1 + 0 ≤ _), (by decide : 8 + 0 ≤ _)⟩)
  dsimp only [Pt.U, Pt.locs, Pt.cells, Pt.slots] at X7 l7 y7 z7 st7 hQ7
  subst l7 y7 z7
  obtain ⟨rfl, Nq7, e7⟩ := hQ7
  have N7 := Fr.app N6 Nq7
  obtain ⟨_, _, ⟨T8, L8, k8, n8⟩, -, X8, ⟨Lc8, hQ8, l8, y8, z8⟩, st8⟩ := Jvm.LawKit.callS X7 hx (y := (⟨"com/example/fatrow/fatrow/engine/FixedIntegerCodecEncodePinLaw", "at", "([BIJI)Z"⟩ : MethodName)) hown (mvT hZ (hw _ (List.mem_of_getElem? (i := 5) rfl))) (mvT hZ (hw _ (List.mem_of_getElem? (i := 6) rfl))) (mvT hZ (hw _ (List.mem_of_getElem? (i := 7) rfl))) (mvT hZ (hw _ (List.mem_of_getElem? (i := 8) rfl))) (by decide) (backOf (W := 0) (rm2 l Z a0 hw [] ab (6 : Int32) v (Int32.ofNat n) T1.heap n0 Zs1 (hyp 6 (by decide))) hZ (hw _ (List.mem_of_getElem? (i := 8) rfl)) (hw _ (List.mem_of_getElem? (i := 7) rfl)) (by decide) (by decide)) (g := (mkF m 114 #[.val (.long q1), .second, .val (.int p2), .val (.int (Int32.ofNat n)), .val (.long v), .second, .val (.ref ab)] [(.int (Int32.ofNat n)), (.long v), (.int (6 : Int32)), (.ref ab)])) rfl (by rw [hml]; rfl) (argsL := [(.ref ab), (.int (6 : Int32)), (.long v), (.int (Int32.ofNat n))]) (rest := []) (lenOf pd0_1 rfl) rfl (by show 2 * 0 + _ ≤ _; exact Nat.le_of_eq rfl) (hb hby at_114) (fun _ _ => ⟨rfl, e7, (by decide : 1 + 0 ≤ _), (by decide : 8 + 0 ≤ _)⟩)
  dsimp only [Pt.U, Pt.locs, Pt.cells, Pt.slots] at X8 l8 y8 z8 st8 hQ8
  subst l8 y8 z8
  obtain ⟨rfl, Nq8, e8⟩ := hQ8
  have N8 := Fr.app N7 Nq8
  obtain ⟨_, _, ⟨T9, L9, k9, n9⟩, -, X9, ⟨Lc9, hQ9, l9, y9, z9⟩, st9⟩ := Jvm.LawKit.callS X8 hx (y := (⟨"com/example/fatrow/fatrow/engine/FixedIntegerCodecEncodePinLaw", "at", "([BIJI)Z"⟩ : MethodName)) hown (mvT hZ (hw _ (List.mem_of_getElem? (i := 5) rfl))) (mvT hZ (hw _ (List.mem_of_getElem? (i := 6) rfl))) (mvT hZ (hw _ (List.mem_of_getElem? (i := 7) rfl))) (mvT hZ (hw _ (List.mem_of_getElem? (i := 8) rfl))) (by decide) (backOf (W := 0) (rm2 l Z a0 hw [] ab (7 : Int32) v (Int32.ofNat n) T1.heap n0 Zs1 (hyp 7 (by decide))) hZ (hw _ (List.mem_of_getElem? (i := 8) rfl)) (hw _ (List.mem_of_getElem? (i := 7) rfl)) (by decide) (by decide)) (g := (mkF m 127 #[.val (.long q1), .second, .val (.int p2), .val (.int (Int32.ofNat n)), .val (.long v), .second, .val (.ref ab)] [(.int (Int32.ofNat n)), (.long v), (.int (7 : Int32)), (.ref ab)])) rfl (by rw [hml]; rfl) (argsL := [(.ref ab), (.int (7 : Int32)), (.long v), (.int (Int32.ofNat n))]) (rest := []) (lenOf pd0_1 rfl) rfl (by show 2 * 0 + _ ≤ _; exact Nat.le_of_eq rfl) (hb hby at_127) (fun _ _ => ⟨rfl, e8, (by decide : 1 + 0 ≤ _), (by decide : 8 + 0 ≤ _)⟩)
  dsimp only [Pt.U, Pt.locs, Pt.cells, Pt.slots] at X9 l9 y9 z9 st9 hQ9
  subst l9 y9 z9
  obtain ⟨rfl, Nq9, e9⟩ := hQ9
  have N9 := Fr.app N8 Nq9
  obtain ⟨fs, hr, hrun, hended, hW, hsame⟩ := X9.leave (v := some (.int (1 : Int32))) (fun h => by rw [Bd.returns] at h; cases h)
  refine ⟨_, _, pre0 _ ?_, hrun, hended, _, _, rfl, ?_, ⟨_, rfl⟩, hW, hsame.mono (by decide) (by decide)⟩
  · show Steps p.tables e below (s₁.setTop (mkF m 0 #[.val (.long q1), .second, .val (.int p2), .unset, .unset, .unset, .unset] [])) _
    refine XS.iloadN X0.here hx rfl (hb hby at_0) rfl ?_
    show Steps p.tables e below (s₁.setTop (mkF m 1 #[.val (.long q1), .second, .val (.int p2), .unset, .unset, .unset, .unset] [(.int p2)])) _
    refine XS.bipush X0.here hx rfl (hb hby at_1) ?_
    show Steps p.tables e below (s₁.setTop (mkF m 3 #[.val (.long q1), .second, .val (.int p2), .unset, .unset, .unset, .unset] [(.int (7 : Int32)), (.int p2)])) _
    refine XS.iand X0.here hx rfl (hb hby at_3) rfl ?_
    show Steps p.tables e below (s₁.setTop (mkF m 4 #[.val (.long q1), .second, .val (.int p2), .unset, .unset, .unset, .unset] [(.int (p2 &&& (7 : Int32)))])) _
    refine XS.iconst X0.here hx rfl (hb hby at_4) ?_
    show Steps p.tables e below (s₁.setTop (mkF m 5 #[.val (.long q1), .second, .val (.int p2), .unset, .unset, .unset, .unset] [(.int (1 : Int32)), (.int (p2 &&& (7 : Int32)))])) _
    refine XS.iadd X0.here hx rfl (hb hby at_5) rfl ?_
    show Steps p.tables e below (s₁.setTop (mkF m 6 #[.val (.long q1), .second, .val (.int p2), .unset, .unset, .unset, .unset] [(.int ((p2 &&& (7 : Int32)) + (1 : Int32)))])) _
    refine XS.istoreN X0.here hx rfl (hb hby at_6) rfl (l' := #[.val (.long q1), .second, .val (.int p2), .val (.int ((p2 &&& (7 : Int32)) + (1 : Int32))), .unset, .unset, .unset]) rfl ?_
    show Steps p.tables e below (s₁.setTop (mkF m 7 #[.val (.long q1), .second, .val (.int p2), .val (.int ((p2 &&& (7 : Int32)) + (1 : Int32))), .unset, .unset, .unset] [])) _
    rw [hm]
    show Steps p.tables e below (s₁.setTop (mkF m 7 #[.val (.long q1), .second, .val (.int p2), .val (.int (Int32.ofNat n)), .unset, .unset, .unset] [])) _
    refine XS.lloadN X0.here hx rfl (hb hby at_7) rfl ?_
    show Steps p.tables e below (s₁.setTop (mkF m 8 #[.val (.long q1), .second, .val (.int p2), .val (.int (Int32.ofNat n)), .unset, .unset, .unset] [(.long q1)])) _
    refine XS.bipush X0.here hx rfl (hb hby at_8) ?_
    show Steps p.tables e below (s₁.setTop (mkF m 10 #[.val (.long q1), .second, .val (.int p2), .val (.int (Int32.ofNat n)), .unset, .unset, .unset] [(.int (64 : Int32)), (.long q1)])) _
    refine XS.bipush X0.here hx rfl (hb hby at_10) ?_
    show Steps p.tables e below (s₁.setTop (mkF m 12 #[.val (.long q1), .second, .val (.int p2), .val (.int (Int32.ofNat n)), .unset, .unset, .unset] [(.int (8 : Int32)), (.int (64 : Int32)), (.long q1)])) _
    refine XS.iloadN X0.here hx rfl (hb hby at_12) rfl ?_
    show Steps p.tables e below (s₁.setTop (mkF m 13 #[.val (.long q1), .second, .val (.int p2), .val (.int (Int32.ofNat n)), .unset, .unset, .unset] [(.int (Int32.ofNat n)), (.int (8 : Int32)), (.int (64 : Int32)), (.long q1)])) _
    refine XS.imul X0.here hx rfl (hb hby at_13) rfl ?_
    show Steps p.tables e below (s₁.setTop (mkF m 14 #[.val (.long q1), .second, .val (.int p2), .val (.int (Int32.ofNat n)), .unset, .unset, .unset] [(.int ((8 : Int32) * (Int32.ofNat n))), (.int (64 : Int32)), (.long q1)])) _
    refine XS.isub X0.here hx rfl (hb hby at_14) rfl ?_
    show Steps p.tables e below (s₁.setTop (mkF m 15 #[.val (.long q1), .second, .val (.int p2), .val (.int (Int32.ofNat n)), .unset, .unset, .unset] [(.int ((64 : Int32) - ((8 : Int32) * (Int32.ofNat n)))), (.long q1)])) _
    refine XS.lshr X0.here hx rfl (hb hby at_15) rfl ?_
    show Steps p.tables e below (s₁.setTop (mkF m 16 #[.val (.long q1), .second, .val (.int p2), .val (.int (Int32.ofNat n)), .unset, .unset, .unset] [(.long (q1 >>> (((64 : Int32) - ((8 : Int32) * (Int32.ofNat n))) &&& 0x3f).toInt64))])) _
    refine XS.lstore X0.here hx rfl (hb hby at_16) rfl (l' := #[.val (.long q1), .second, .val (.int p2), .val (.int (Int32.ofNat n)), .val (.long (q1 >>> (((64 : Int32) - ((8 : Int32) * (Int32.ofNat n))) &&& 0x3f).toInt64)), .second, .unset]) rfl ?_
    show Steps p.tables e below (s₁.setTop (mkF m 18 #[.val (.long q1), .second, .val (.int p2), .val (.int (Int32.ofNat n)), .val (.long (q1 >>> (((64 : Int32) - ((8 : Int32) * (Int32.ofNat n))) &&& 0x3f).toInt64)), .second, .unset] [])) _
    rw [← ev]
    show Steps p.tables e below (s₁.setTop (mkF m 18 #[.val (.long q1), .second, .val (.int p2), .val (.int (Int32.ofNat n)), .val (.long v), .second, .unset] [])) _
    refine XS.lload X0.here hx rfl (hb hby at_18) rfl ?_
    show Steps p.tables e below (s₁.setTop (mkF m 20 #[.val (.long q1), .second, .val (.int p2), .val (.int (Int32.ofNat n)), .val (.long v), .second, .unset] [(.long v)])) _
    refine XS.iloadN X0.here hx rfl (hb hby at_20) rfl ?_
    show Steps p.tables e below (s₁.setTop (mkF m 21 #[.val (.long q1), .second, .val (.int p2), .val (.int (Int32.ofNat n)), .val (.long v), .second, .unset] [(.int (Int32.ofNat n)), (.long v)])) _
    refine st1 _ ?_
    show Steps p.tables e below (T1.setTop (mkF m 24 #[.val (.long q1), .second, .val (.int p2), .val (.int (Int32.ofNat n)), .val (.long v), .second, .unset] [(.ref ab)])) _
    refine XS.astore X1.here hx rfl (hb hby at_24) rfl rfl (l' := #[.val (.long q1), .second, .val (.int p2), .val (.int (Int32.ofNat n)), .val (.long v), .second, .val (.ref ab)]) rfl ?_
    show Steps p.tables e below (T1.setTop (mkF m 26 #[.val (.long q1), .second, .val (.int p2), .val (.int (Int32.ofNat n)), .val (.long v), .second, .val (.ref ab)] [])) _
    refine XS.aload X1.here hx rfl (hb hby at_26) rfl rfl ?_
    show Steps p.tables e below (T1.setTop (mkF m 28 #[.val (.long q1), .second, .val (.int p2), .val (.int (Int32.ofNat n)), .val (.long v), .second, .val (.ref ab)] [(.ref ab)])) _
    refine X1.arraylength hx (Ar.1) (State.isArrayOf_alike hZ.alike Ar.2.1) (g := (mkF m 28 #[.val (.long q1), .second, .val (.int p2), .val (.int (Int32.ofNat n)), .val (.long v), .second, .val (.ref ab)] [(.ref ab)])) rfl rfl (hb hby at_28) _ ?_
    rw [len_of Sz Nn]
    show Steps p.tables e below (T1.setTop (mkF m 29 #[.val (.long q1), .second, .val (.int p2), .val (.int (Int32.ofNat n)), .val (.long v), .second, .val (.ref ab)] [(.int (Int32.ofNat n))])) _
    refine XS.iloadN X1.here hx rfl (hb hby at_29) rfl ?_
    show Steps p.tables e below (T1.setTop (mkF m 30 #[.val (.long q1), .second, .val (.int p2), .val (.int (Int32.ofNat n)), .val (.long v), .second, .val (.ref ab)] [(.int (Int32.ofNat n)), (.int (Int32.ofNat n))])) _
    refine XS.icmpYes X1.here hx rfl (pc0 := 30) (pc' := 35) rfl (hb hby at_30) rfl (teq (rfl : (Int32.ofNat n) = (Int32.ofNat n))).1 (by decide) (by decide) ?_
    show Steps p.tables e below (T1.setTop (mkF m 35 #[.val (.long q1), .second, .val (.int p2), .val (.int (Int32.ofNat n)), .val (.long v), .second, .val (.ref ab)] [])) _
    refine XS.aload X1.here hx rfl (hb hby at_35) rfl rfl ?_
    show Steps p.tables e below (T1.setTop (mkF m 37 #[.val (.long q1), .second, .val (.int p2), .val (.int (Int32.ofNat n)), .val (.long v), .second, .val (.ref ab)] [(.ref ab)])) _
    refine XS.iconst X1.here hx rfl (hb hby at_37) ?_
    show Steps p.tables e below (T1.setTop (mkF m 38 #[.val (.long q1), .second, .val (.int p2), .val (.int (Int32.ofNat n)), .val (.long v), .second, .val (.ref ab)] [(.int (0 : Int32)), (.ref ab)])) _
    refine XS.lload X1.here hx rfl (hb hby at_38) rfl ?_
    show Steps p.tables e below (T1.setTop (mkF m 40 #[.val (.long q1), .second, .val (.int p2), .val (.int (Int32.ofNat n)), .val (.long v), .second, .val (.ref ab)] [(.long v), (.int (0 : Int32)), (.ref ab)])) _
    refine XS.iloadN X1.here hx rfl (hb hby at_40) rfl ?_
    show Steps p.tables e below (T1.setTop (mkF m 41 #[.val (.long q1), .second, .val (.int p2), .val (.int (Int32.ofNat n)), .val (.long v), .second, .val (.ref ab)] [(.int (Int32.ofNat n)), (.long v), (.int (0 : Int32)), (.ref ab)])) _
    refine st2 _ ?_
    show Steps p.tables e below (T2.setTop (mkF m 44 #[.val (.long q1), .second, .val (.int p2), .val (.int (Int32.ofNat n)), .val (.long v), .second, .val (.ref ab)] [(.int (1 : Int32))])) _
    refine XS.ifNo X2.here hx rfl (hb hby at_44) rfl ((if0 _ _).trans (feq ((by decide) : ¬ ((1 : Int32) = (0 : Int32)))).1) ?_
    show Steps p.tables e below (T2.setTop (mkF m 47 #[.val (.long q1), .second, .val (.int p2), .val (.int (Int32.ofNat n)), .val (.long v), .second, .val (.ref ab)] [])) _
    refine XS.aload X2.here hx rfl (hb hby at_47) rfl rfl ?_
    show Steps p.tables e below (T2.setTop (mkF m 49 #[.val (.long q1), .second, .val (.int p2), .val (.int (Int32.ofNat n)), .val (.long v), .second, .val (.ref ab)] [(.ref ab)])) _
    refine XS.iconst X2.here hx rfl (hb hby at_49) ?_
    show Steps p.tables e below (T2.setTop (mkF m 50 #[.val (.long q1), .second, .val (.int p2), .val (.int (Int32.ofNat n)), .val (.long v), .second, .val (.ref ab)] [(.int (1 : Int32)), (.ref ab)])) _
    refine XS.lload X2.here hx rfl (hb hby at_50) rfl ?_
    show Steps p.tables e below (T2.setTop (mkF m 52 #[.val (.long q1), .second, .val (.int p2), .val (.int (Int32.ofNat n)), .val (.long v), .second, .val (.ref ab)] [(.long v), (.int (1 : Int32)), (.ref ab)])) _
    refine XS.iloadN X2.here hx rfl (hb hby at_52) rfl ?_
    show Steps p.tables e below (T2.setTop (mkF m 53 #[.val (.long q1), .second, .val (.int p2), .val (.int (Int32.ofNat n)), .val (.long v), .second, .val (.ref ab)] [(.int (Int32.ofNat n)), (.long v), (.int (1 : Int32)), (.ref ab)])) _
    refine st3 _ ?_
    show Steps p.tables e below (T3.setTop (mkF m 56 #[.val (.long q1), .second, .val (.int p2), .val (.int (Int32.ofNat n)), .val (.long v), .second, .val (.ref ab)] [(.int (1 : Int32))])) _
    refine XS.ifNo X3.here hx rfl (hb hby at_56) rfl ((if0 _ _).trans (feq ((by decide) : ¬ ((1 : Int32) = (0 : Int32)))).1) ?_
    show Steps p.tables e below (T3.setTop (mkF m 59 #[.val (.long q1), .second, .val (.int p2), .val (.int (Int32.ofNat n)), .val (.long v), .second, .val (.ref ab)] [])) _
    refine XS.aload X3.here hx rfl (hb hby at_59) rfl rfl ?_
    show Steps p.tables e below (T3.setTop (mkF m 61 #[.val (.long q1), .second, .val (.int p2), .val (.int (Int32.ofNat n)), .val (.long v), .second, .val (.ref ab)] [(.ref ab)])) _
    refine XS.iconst X3.here hx rfl (hb hby at_61) ?_
    show Steps p.tables e below (T3.setTop (mkF m 62 #[.val (.long q1), .second, .val (.int p2), .val (.int (Int32.ofNat n)), .val (.long v), .second, .val (.ref ab)] [(.int (2 : Int32)), (.ref ab)])) _
    refine XS.lload X3.here hx rfl (hb hby at_62) rfl ?_
    show Steps p.tables e below (T3.setTop (mkF m 64 #[.val (.long q1), .second, .val (.int p2), .val (.int (Int32.ofNat n)), .val (.long v), .second, .val (.ref ab)] [(.long v), (.int (2 : Int32)), (.ref ab)])) _
    refine XS.iloadN X3.here hx rfl (hb hby at_64) rfl ?_
    show Steps p.tables e below (T3.setTop (mkF m 65 #[.val (.long q1), .second, .val (.int p2), .val (.int (Int32.ofNat n)), .val (.long v), .second, .val (.ref ab)] [(.int (Int32.ofNat n)), (.long v), (.int (2 : Int32)), (.ref ab)])) _
    refine st4 _ ?_
    show Steps p.tables e below (T4.setTop (mkF m 68 #[.val (.long q1), .second, .val (.int p2), .val (.int (Int32.ofNat n)), .val (.long v), .second, .val (.ref ab)] [(.int (1 : Int32))])) _
    refine XS.ifNo X4.here hx rfl (hb hby at_68) rfl ((if0 _ _).trans (feq ((by decide) : ¬ ((1 : Int32) = (0 : Int32)))).1) ?_
    show Steps p.tables e below (T4.setTop (mkF m 71 #[.val (.long q1), .second, .val (.int p2), .val (.int (Int32.ofNat n)), .val (.long v), .second, .val (.ref ab)] [])) _
    refine XS.aload X4.here hx rfl (hb hby at_71) rfl rfl ?_
    show Steps p.tables e below (T4.setTop (mkF m 73 #[.val (.long q1), .second, .val (.int p2), .val (.int (Int32.ofNat n)), .val (.long v), .second, .val (.ref ab)] [(.ref ab)])) _
    refine XS.iconst X4.here hx rfl (hb hby at_73) ?_
    show Steps p.tables e below (T4.setTop (mkF m 74 #[.val (.long q1), .second, .val (.int p2), .val (.int (Int32.ofNat n)), .val (.long v), .second, .val (.ref ab)] [(.int (3 : Int32)), (.ref ab)])) _
    refine XS.lload X4.here hx rfl (hb hby at_74) rfl ?_
    show Steps p.tables e below (T4.setTop (mkF m 76 #[.val (.long q1), .second, .val (.int p2), .val (.int (Int32.ofNat n)), .val (.long v), .second, .val (.ref ab)] [(.long v), (.int (3 : Int32)), (.ref ab)])) _
    refine XS.iloadN X4.here hx rfl (hb hby at_76) rfl ?_
    show Steps p.tables e below (T4.setTop (mkF m 77 #[.val (.long q1), .second, .val (.int p2), .val (.int (Int32.ofNat n)), .val (.long v), .second, .val (.ref ab)] [(.int (Int32.ofNat n)), (.long v), (.int (3 : Int32)), (.ref ab)])) _
    refine st5 _ ?_
    show Steps p.tables e below (T5.setTop (mkF m 80 #[.val (.long q1), .second, .val (.int p2), .val (.int (Int32.ofNat n)), .val (.long v), .second, .val (.ref ab)] [(.int (1 : Int32))])) _
    refine XS.ifNo X5.here hx rfl (hb hby at_80) rfl ((if0 _ _).trans (feq ((by decide) : ¬ ((1 : Int32) = (0 : Int32)))).1) ?_
    show Steps p.tables e below (T5.setTop (mkF m 83 #[.val (.long q1), .second, .val (.int p2), .val (.int (Int32.ofNat n)), .val (.long v), .second, .val (.ref ab)] [])) _
    refine XS.aload X5.here hx rfl (hb hby at_83) rfl rfl ?_
    show Steps p.tables e below (T5.setTop (mkF m 85 #[.val (.long q1), .second, .val (.int p2), .val (.int (Int32.ofNat n)), .val (.long v), .second, .val (.ref ab)] [(.ref ab)])) _
    refine XS.iconst X5.here hx rfl (hb hby at_85) ?_
    show Steps p.tables e below (T5.setTop (mkF m 86 #[.val (.long q1), .second, .val (.int p2), .val (.int (Int32.ofNat n)), .val (.long v), .second, .val (.ref ab)] [(.int (4 : Int32)), (.ref ab)])) _
    refine XS.lload X5.here hx rfl (hb hby at_86) rfl ?_
    show Steps p.tables e below (T5.setTop (mkF m 88 #[.val (.long q1), .second, .val (.int p2), .val (.int (Int32.ofNat n)), .val (.long v), .second, .val (.ref ab)] [(.long v), (.int (4 : Int32)), (.ref ab)])) _
    refine XS.iloadN X5.here hx rfl (hb hby at_88) rfl ?_
    show Steps p.tables e below (T5.setTop (mkF m 89 #[.val (.long q1), .second, .val (.int p2), .val (.int (Int32.ofNat n)), .val (.long v), .second, .val (.ref ab)] [(.int (Int32.ofNat n)), (.long v), (.int (4 : Int32)), (.ref ab)])) _
    refine st6 _ ?_
    show Steps p.tables e below (T6.setTop (mkF m 92 #[.val (.long q1), .second, .val (.int p2), .val (.int (Int32.ofNat n)), .val (.long v), .second, .val (.ref ab)] [(.int (1 : Int32))])) _
    refine XS.ifNo X6.here hx rfl (hb hby at_92) rfl ((if0 _ _).trans (feq ((by decide) : ¬ ((1 : Int32) = (0 : Int32)))).1) ?_
    show Steps p.tables e below (T6.setTop (mkF m 95 #[.val (.long q1), .second, .val (.int p2), .val (.int (Int32.ofNat n)), .val (.long v), .second, .val (.ref ab)] [])) _
    refine XS.aload X6.here hx rfl (hb hby at_95) rfl rfl ?_
    show Steps p.tables e below (T6.setTop (mkF m 97 #[.val (.long q1), .second, .val (.int p2), .val (.int (Int32.ofNat n)), .val (.long v), .second, .val (.ref ab)] [(.ref ab)])) _
    refine XS.iconst X6.here hx rfl (hb hby at_97) ?_
    show Steps p.tables e below (T6.setTop (mkF m 98 #[.val (.long q1), .second, .val (.int p2), .val (.int (Int32.ofNat n)), .val (.long v), .second, .val (.ref ab)] [(.int (5 : Int32)), (.ref ab)])) _
    refine XS.lload X6.here hx rfl (hb hby at_98) rfl ?_
    show Steps p.tables e below (T6.setTop (mkF m 100 #[.val (.long q1), .second, .val (.int p2), .val (.int (Int32.ofNat n)), .val (.long v), .second, .val (.ref ab)] [(.long v), (.int (5 : Int32)), (.ref ab)])) _
    refine XS.iloadN X6.here hx rfl (hb hby at_100) rfl ?_
    show Steps p.tables e below (T6.setTop (mkF m 101 #[.val (.long q1), .second, .val (.int p2), .val (.int (Int32.ofNat n)), .val (.long v), .second, .val (.ref ab)] [(.int (Int32.ofNat n)), (.long v), (.int (5 : Int32)), (.ref ab)])) _
    refine st7 _ ?_
    show Steps p.tables e below (T7.setTop (mkF m 104 #[.val (.long q1), .second, .val (.int p2), .val (.int (Int32.ofNat n)), .val (.long v), .second, .val (.ref ab)] [(.int (1 : Int32))])) _
    refine XS.ifNo X7.here hx rfl (hb hby at_104) rfl ((if0 _ _).trans (feq ((by decide) : ¬ ((1 : Int32) = (0 : Int32)))).1) ?_
    show Steps p.tables e below (T7.setTop (mkF m 107 #[.val (.long q1), .second, .val (.int p2), .val (.int (Int32.ofNat n)), .val (.long v), .second, .val (.ref ab)] [])) _
    refine XS.aload X7.here hx rfl (hb hby at_107) rfl rfl ?_
    show Steps p.tables e below (T7.setTop (mkF m 109 #[.val (.long q1), .second, .val (.int p2), .val (.int (Int32.ofNat n)), .val (.long v), .second, .val (.ref ab)] [(.ref ab)])) _
    refine XS.bipush X7.here hx rfl (hb hby at_109) ?_
    show Steps p.tables e below (T7.setTop (mkF m 111 #[.val (.long q1), .second, .val (.int p2), .val (.int (Int32.ofNat n)), .val (.long v), .second, .val (.ref ab)] [(.int (6 : Int32)), (.ref ab)])) _
    refine XS.lload X7.here hx rfl (hb hby at_111) rfl ?_
    show Steps p.tables e below (T7.setTop (mkF m 113 #[.val (.long q1), .second, .val (.int p2), .val (.int (Int32.ofNat n)), .val (.long v), .second, .val (.ref ab)] [(.long v), (.int (6 : Int32)), (.ref ab)])) _
    refine XS.iloadN X7.here hx rfl (hb hby at_113) rfl ?_
    show Steps p.tables e below (T7.setTop (mkF m 114 #[.val (.long q1), .second, .val (.int p2), .val (.int (Int32.ofNat n)), .val (.long v), .second, .val (.ref ab)] [(.int (Int32.ofNat n)), (.long v), (.int (6 : Int32)), (.ref ab)])) _
    refine st8 _ ?_
    show Steps p.tables e below (T8.setTop (mkF m 117 #[.val (.long q1), .second, .val (.int p2), .val (.int (Int32.ofNat n)), .val (.long v), .second, .val (.ref ab)] [(.int (1 : Int32))])) _
    refine XS.ifNo X8.here hx rfl (hb hby at_117) rfl ((if0 _ _).trans (feq ((by decide) : ¬ ((1 : Int32) = (0 : Int32)))).1) ?_
    show Steps p.tables e below (T8.setTop (mkF m 120 #[.val (.long q1), .second, .val (.int p2), .val (.int (Int32.ofNat n)), .val (.long v), .second, .val (.ref ab)] [])) _
    refine XS.aload X8.here hx rfl (hb hby at_120) rfl rfl ?_
    show Steps p.tables e below (T8.setTop (mkF m 122 #[.val (.long q1), .second, .val (.int p2), .val (.int (Int32.ofNat n)), .val (.long v), .second, .val (.ref ab)] [(.ref ab)])) _
    refine XS.bipush X8.here hx rfl (hb hby at_122) ?_
    show Steps p.tables e below (T8.setTop (mkF m 124 #[.val (.long q1), .second, .val (.int p2), .val (.int (Int32.ofNat n)), .val (.long v), .second, .val (.ref ab)] [(.int (7 : Int32)), (.ref ab)])) _
    refine XS.lload X8.here hx rfl (hb hby at_124) rfl ?_
    show Steps p.tables e below (T8.setTop (mkF m 126 #[.val (.long q1), .second, .val (.int p2), .val (.int (Int32.ofNat n)), .val (.long v), .second, .val (.ref ab)] [(.long v), (.int (7 : Int32)), (.ref ab)])) _
    refine XS.iloadN X8.here hx rfl (hb hby at_126) rfl ?_
    show Steps p.tables e below (T8.setTop (mkF m 127 #[.val (.long q1), .second, .val (.int p2), .val (.int (Int32.ofNat n)), .val (.long v), .second, .val (.ref ab)] [(.int (Int32.ofNat n)), (.long v), (.int (7 : Int32)), (.ref ab)])) _
    refine st9 _ ?_
    show Steps p.tables e below (T9.setTop (mkF m 130 #[.val (.long q1), .second, .val (.int p2), .val (.int (Int32.ofNat n)), .val (.long v), .second, .val (.ref ab)] [(.int (1 : Int32))])) _
    refine XS.ifNo X9.here hx rfl (hb hby at_130) rfl ((if0 _ _).trans (feq ((by decide) : ¬ ((1 : Int32) = (0 : Int32)))).1) ?_
    show Steps p.tables e below (T9.setTop (mkF m 133 #[.val (.long q1), .second, .val (.int p2), .val (.int (Int32.ofNat n)), .val (.long v), .second, .val (.ref ab)] [])) _
    refine XS.iconst X9.here hx rfl (hb hby at_133) ?_
    show Steps p.tables e below (T9.setTop (mkF m 134 #[.val (.long q1), .second, .val (.int p2), .val (.int (Int32.ofNat n)), .val (.long v), .second, .val (.ref ab)] [(.int (1 : Int32))])) _
    refine XS.goto X9.here hx rfl (pc0 := 134) (pc' := 138) rfl (hb hby at_134) (by decide) (by decide) ?_
    show Steps p.tables e below (T9.setTop (mkF m 138 #[.val (.long q1), .second, .val (.int p2), .val (.int (Int32.ofNat n)), .val (.long v), .second, .val (.ref ab)] [(.int (1 : Int32))])) _
    exact retN X9 hx (t := .boolean) Bd.returns (by simp) (hb hby at_138) hr
  · show Q0 n0 _ T9.heap _
    exact ⟨rfl, N9⟩
set_option maxRecDepth 65536 in
set_option maxHeartbeats 40000000 in
theorem comes_1 {Post : Tables → Env → Array Value → State → Outcome → State → Prop} (hpost : ∀ tb e args s v u, (limb_1_1.after args s (.returned v) u = true ∧ limb_1_2.after args s (.returned v) u = true ∧ True) → FrameEnd s (.returned v) u (Jvm.fieldLocs frame_1_writes args s ++ Jvm.arrayLocs frame_1_arrays args s ++ Jvm.staticLocs frame_1_statics s) 16 128 → Post tb e args s (.returned v) u) :
    ArmFor flags0 classFile x code maxLocals ret World_1 tables_1 room_1 Calls_1 rest_1 Pre_1 Post := by
  intro l hfl _ _ p e ha hc hk s m args below hf hA hF happ hP
  obtain ⟨hcalls, hrest, hpre⟩ := hP
  obtain ⟨-, -, -, hnamed, -, -, -, hat⟩ := (Spec.applies_iff hf).mp happ
  obtain ⟨hg, hn⟩ := and_e (Cond.before_iff.mp (show (Jvm.Cond.and given_1 narrow_1).before args s = true from hpre))
  obtain ⟨u0, u1⟩ := and_e hg
  obtain ⟨v0, u2⟩ := and_e u1
  have v1 := u2
  obtain ⟨w0, w1, rfl⟩ : ∃ w0 w1 : Value, args = #[w0, w1] := by
    have hs : args.size = 2 := by simpa [Cond.value, given_1] using u0
    obtain ⟨L⟩ := args
    match L, hs with
    | [w0, w1], _ => exact ⟨w0, w1, rfl⟩
  have hw := fun d (hd : d ∈ tables_1) => atoms_spec (ws := Jvm.Cond.code x code maxLocals ret :: tables_1) hat d (List.mem_cons_of_mem _ hd)
  obtain ⟨i0, ei0⟩ := isL_v v0
  obtain rfl : w0 = (.long i0) := Option.some.inj ei0
  obtain ⟨i1, ei1⟩ := is_v v1
  obtain rfl : w1 = (.int i1) := Option.some.inj ei1
  obtain ⟨n, o, h1, h2, h3, _, L, rfl, ⟨rfl, N⟩, hq⟩ := rm0 l s _ hw tables_1 i0 i1 s.heap s.heap.size (Nat.le_refl _) p e ha hc hk s m _ below hf ((Spec.applies_iff_loose hf).mp happ).1 ⟨rfl, State.Warmed39.refl s, rfl⟩ trivial
  refine ⟨n, _, h1, h2, h3, hpost _ _ _ _ _ _ ⟨Cond.after_iff.mpr rfl, Cond.after_iff.mpr (eq_i res_at (Term.int_eval (1)) rfl), trivial⟩ ⟨hq.1, hq.2.1, (hq.2.2.sift fun y hy => Or.inr (N y hy)).mono (by decide) (by decide)⟩⟩
theorem main_1_1 : Claimed_1_1 := comes_1 fun _ _ _ _ _ _ h hF => ⟨h.1, hF⟩
theorem main_1_2 : Claimed_1_2 := comes_1 fun _ _ _ _ _ _ h hF => ⟨h.2.1, hF⟩
end Jvm.Pilot.@@N@@
namespace Jvm.Pilot.@@N@@
open Jvm Jvm.ClassFile Sem Op Lib Jvm.Free Jvm.Stand Jvm.Pilot.@@N@@.Jvm.D
/-! MADE BY PROGRAM (witnessworld.py) out of the Statement's table words and the real class files: 10 classes; the members and pool entries that the words name. The judged class is class 1, her method 1. -/
namespace start1
open Jvm.ClassFile
def u (s : String) : CpInfo := .utf8 (stringToUtf16 s)
/-- a pool by its gaps: so many unusable entries, then the entry; so many at the end -/
def gap : Nat → List CpInfo → List CpInfo
  | 0, r => r
  | n + 1, r => .unusable :: gap n r
def poolList (es : List (Nat × CpInfo)) (last : Nat) : List CpInfo := es.foldr (fun e r => gap e.1 (e.2 :: r)) (gap last [])
def pool (es : List (Nat × CpInfo)) (last : Nat) : Array CpInfo := ⟨poolList es last⟩
def fileOf (pool : Array CpInfo) (this : Nat) (attrs : Array Attribute := #[]) (ms : Array MethodInfo := #[]) (fl : Nat := 33) (sup : Nat := 0) (ifs : Array Nat := #[]) (fds : Array FieldInfo := #[]) : ClassFile where
  minorVersion := 0
  majorVersion := 65
  constantPool := pool
  accessFlags := fl
  thisClass := this
  superClass := sup
  interfaces := ifs
  fields := fds
  methods := ms
  attributes := attrs
def plain (name : String) (sup : Option ClassId) : Class where
  name := name
  kind := .ordinary
  loader := none
  accessFlags := 33
  super := sup
  interfaces := #[]
  cf := none
  fields := #[]
  methods := #[]
  instanceTypes := #[]
  staticTypes := #[]
  resolved := #[]
  callSites := []
  init := .initialized
  statics := none
  mirror := none

def pool0 : Array CpInfo := pool [(5, u "<init>"), (0, u "()V"), (1, .class_ 10), (1, u "java/lang/Object")] 113

def k0m0 : Method := { name := "<init>", desc := "()V", sig := { parameters := [], returnType := none }, accessFlags := 1, code := none }
/-- java/lang/Object -/
def k0 : Class := { plain "java/lang/Object" none with
  accessFlags := 33
  interfaces := #[]
  cf := some (fileOf pool0 8 #[] #[{ accessFlags := 1, nameIndex := 5, descriptorIndex := 6, attributes := #[] }] 33 0 #[] #[])
  fields := #[]
  methods := #[k0m0]
  instanceTypes := #[]
  staticTypes := #[]
  resolved := Array.replicate 124 none
  statics := none }

def pool1 : Array CpInfo := pool [(2, .class_ 4), (1, u "java/lang/Object"), (0, u "<init>"), (0, u "()V"), (0, .methodref 8 9), (0, .class_ 10), (0, .nameAndType 11 12), (0, u "com/example/fatrow/fatrow/engine/FixedIntegerCodec"), (0, u "encode"), (0, u "(JI)[B"), (0, .methodref 14 15), (0, .class_ 16), (0, .nameAndType 17 18), (0, u "com/example/fatrow/fatrow/engine/FixedIntegerCodecEncodePinLaw"), (0, u "at"), (0, u "([BIJI)Z"), (2, u "law"), (0, u "(JI)Z")] 5

def k1m0 : Method := { name := "<init>", desc := "()V", sig := { parameters := [], returnType := none }, accessFlags := 1, code := none }
def k1c1 : Code := { maxStack := 5, maxLocals := 7, code := code, exceptionTable := #[], attributes := #[] }
def k1m1 : Method := { name := "law", desc := "(JI)Z", sig := { parameters := [.long, .int], returnType := some .boolean }, accessFlags := 9, code := some k1c1 }
def k1c2 : Code := { maxStack := 4, maxLocals := 6, code := method_3_code, exceptionTable := #[], attributes := #[] }
def k1m2 : Method := { name := "at", desc := "([BIJI)Z", sig := { parameters := [(.array .byte), .int, .long, .int], returnType := some .boolean }, accessFlags := 10, code := some k1c2 }
/-- com/example/fatrow/fatrow/engine/FixedIntegerCodecEncodePinLaw -/
def k1 : Class := { plain "com/example/fatrow/fatrow/engine/FixedIntegerCodecEncodePinLaw" (some 0) with
  accessFlags := 49
  interfaces := #[]
  cf := some (fileOf pool1 14 #[] #[{ accessFlags := 1, nameIndex := 5, descriptorIndex := 6, attributes := #[] }, { accessFlags := 9, nameIndex := 21, descriptorIndex := 22, attributes := #[] }, { accessFlags := 10, nameIndex := 17, descriptorIndex := 18, attributes := #[] }] 49 2 #[] #[])
  fields := #[]
  methods := #[k1m0, k1m1, k1m2]
  instanceTypes := #[]
  staticTypes := #[]
  resolved := Array.replicate 28 none
  statics := none }

def pool2 : Array CpInfo := pool [(1, .class_ 2), (0, u "com/example/fatrow/fatrow/engine/Codec"), (0, .class_ 4), (0, u "java/lang/Object")] 16

/-- com/example/fatrow/fatrow/engine/Codec -/
def k2 : Class := { plain "com/example/fatrow/fatrow/engine/Codec" (some 0) with
  accessFlags := 1536
  interfaces := #[]
  cf := some (fileOf pool2 1 #[] #[] 1536 3 #[] #[])
  fields := #[]
  methods := #[]
  instanceTypes := #[]
  staticTypes := #[]
  resolved := Array.replicate 21 none
  statics := none }

def pool3 : Array CpInfo := pool [(2, .class_ 4), (1, u "java/lang/Object"), (3, .class_ 10), (1, u "com/example/fatrow/fatrow/engine/FixedIntegerCodec"), (0, u "bytes"), (0, u "I"), (8, u "min"), (0, u "J"), (4, u "max"), (16, u "encode"), (0, u "(JI)[B"), (37, u "INTEGER"), (0, u "Ljava/util/regex/Pattern;"), (32, .class_ 118), (0, u "com/example/fatrow/fatrow/engine/Codec")] 37

def k3c0 : Code := { maxStack := 4, maxLocals := 7, code := prog_15_method_9_code, exceptionTable := #[], attributes := #[] }
def k3m0 : Method := { name := "encode", desc := "(JI)[B", sig := { parameters := [.long, .int], returnType := some (.array .byte) }, accessFlags := 8, code := some k3c0 }
/-- com/example/fatrow/fatrow/engine/FixedIntegerCodec -/
def k3 : Class := { plain "com/example/fatrow/fatrow/engine/FixedIntegerCodec" (some 0) with
  accessFlags := 32
  interfaces := #[2]
  cf := some (fileOf pool3 8 #[] #[{ accessFlags := 8, nameIndex := 44, descriptorIndex := 45, attributes := #[] }] 32 2 #[117] #[{ accessFlags := 26, nameIndex := 83, descriptorIndex := 84, attributes := #[] }, { accessFlags := 18, nameIndex := 11, descriptorIndex := 12, attributes := #[] }, { accessFlags := 18, nameIndex := 21, descriptorIndex := 22, attributes := #[] }, { accessFlags := 18, nameIndex := 27, descriptorIndex := 22, attributes := #[] }])
  fields := #[{ name := "INTEGER", type := (.object "java/util/regex/Pattern"), accessFlags := 26, slot := 0, constantValue := 0 }, { name := "bytes", type := .int, accessFlags := 18, slot := 0, constantValue := 0 }, { name := "min", type := .long, accessFlags := 18, slot := 1, constantValue := 0 }, { name := "max", type := .long, accessFlags := 18, slot := 2, constantValue := 0 }]
  methods := #[k3m0]
  instanceTypes := #[.int, .long, .long]
  staticTypes := #[(.object "java/util/regex/Pattern")]
  resolved := Array.replicate 156 none
  statics := none }

def pool4 : Array CpInfo := pool [(1, u "java/lang/Cloneable"), (0, .class_ 1), (0, u "java/lang/Object"), (0, .class_ 3)] 3

/-- java/lang/Cloneable -/
def k4 : Class := { plain "java/lang/Cloneable" (some 0) with
  accessFlags := 1537
  interfaces := #[]
  cf := some (fileOf pool4 2 #[] #[] 1537 4 #[] #[])
  fields := #[]
  methods := #[]
  instanceTypes := #[]
  staticTypes := #[]
  resolved := Array.replicate 8 none
  statics := none }

def pool5 : Array CpInfo := pool [(1, u "java/io/Serializable"), (0, .class_ 1), (0, u "java/lang/Object"), (0, .class_ 3)] 3

/-- java/io/Serializable -/
def k5 : Class := { plain "java/io/Serializable" (some 0) with
  accessFlags := 1537
  interfaces := #[]
  cf := some (fileOf pool5 2 #[] #[] 1537 4 #[] #[])
  fields := #[]
  methods := #[]
  instanceTypes := #[]
  staticTypes := #[]
  resolved := Array.replicate 8 none
  statics := none }

/-- the primitive byte -/
def k6 : Class := { plain "byte" none with kind := .primitive 'B', accessFlags := 0x411 }
/-- [B -/
def k7 : Class := { plain "[B" (some 0) with kind := .array 6 .byte, interfaces := #[4, 5], accessFlags := 1041 }

/-- the primitive int -/
def k8 : Class := { plain "int" none with kind := .primitive 'I', accessFlags := 0x411 }
/-- [I -/
def k9 : Class := { plain "[I" (some 0) with kind := .array 8 .int, interfaces := #[4, 5], accessFlags := 1041 }

def heap : Heap := #[]
def classes : Array Class := #[k0, k1, k2, k3, k4, k5, k6, k7, k8, k9]
def interned : List (Array UInt16 × Addr) := []
def slotsUsed : Nat := 0
def theMethod : MethodId := ⟨1, 1⟩
def args0 : Array Value := #[.long 5, .int 3]
def aboutOver (below : List Frame) : State where
  vm := { classes := classes, interned := interned.toArray }
  heap := heap
  slotsUsed := slotsUsed
  threads := #[{ frames := .invoking theMethod args0 :: below }]
def below0 : List Frame := [.native { method := ⟨0, 0⟩, args := #[] }]
def about1 : State := aboutOver below0
def p0 : Program := .bare "" "" ""
def e0 : Env := launch0.env 0 0 0
theorem w_frames : about1.frames = Frame.invoking theMethod args0 :: below0 := rfl
set_option maxRecDepth 65536 in
theorem w_args : argsFit about1.vm theMethod args0 = true := by decide +kernel
set_option maxRecDepth 65536 in
theorem w_heap : heapFits about1 = true := by decide +kernel
set_option maxRecDepth 65536 in
theorem w_runnable : about1.curStatus? = some .runnable := by decide +kernel
set_option maxRecDepth 65536 in
theorem w_alone : about1.alone = true := by decide +kernel
set_option maxRecDepth 65536 in
theorem w_named : about1.methodNamed? x = some theMethod := by decide +kernel
set_option maxRecDepth 65536 in
theorem w_hears : about1.hears theMethod below0 = true := by decide +kernel
set_option maxRecDepth 65536 in
theorem w_ripe : about1.ripe theMethod args0 below0 = true := by decide +kernel
theorem w_running : about1.status = .running := rfl
set_option maxRecDepth 65536 in
theorem w_room : about1.hasRoom e0.platform room_1 = true :=
  launch0.hasRoom_least _ room_1 (by decide +kernel) (by decide +kernel) (by decide +kernel) (by decide +kernel) (by decide +kernel) (by decide +kernel)
theorem allAtoms_all (ts : List Jvm.Cond) (a : Array Jvm.Value) (st : Jvm.State) : (allAtoms ts).before a st = ts.all (fun c => c.before a st) := by
  induction ts with
  | nil => rfl
  | cons c t ih =>
    show (Jvm.Cond.and c (allAtoms t)).before a st = _
    rw [Jvm.Cond.before_and, ih, List.all_cons]
def words1 : List Jvm.Cond := Jvm.Cond.code x code maxLocals ret :: tables_1
/-- a 'code' word, met by the world's own term for the bytes: nothing is compared byte by byte -/
theorem code_word {y : MethodName} {bytes : ByteArray} {mx : Nat} {rt : Option FieldType} {a : Array Value} {s : State} {m : MethodId} {meth : Method} {c : Code} (h1 : s.methodNamed? y = some m) (h2 : s.vm.method? m = some meth) (h3 : meth.code = some c) (h4 : c.code = bytes)
    (h5 : (c.maxLocals == mx && c.exceptionTable.isEmpty && decide (c.maxStack ≤ mostOperands) && decide (meth.sig.returnType = rt) && !meth.locks && decide (parseMethodDescriptor y.desc = some meth.sig)) = true) : (Jvm.Cond.code y bytes mx rt).before a s = true := by
  simp only [Bool.and_eq_true, beq_iff_eq, Bool.not_eq_true', decide_eq_true_eq] at h5
  obtain ⟨⟨⟨⟨⟨g1, g2⟩, g3⟩, g4⟩, g5⟩, g6⟩ := h5
  simp [Cond.before, Cond.holds, Cond.value, h1, h2, h3, h4, g1, g2, g3, g4, g5, g6]
def isCode : Jvm.Cond → Bool
  | .code _ _ _ _ => true
  | _ => false
theorem all_split {L : List Jvm.Cond} {P : Jvm.Cond → Bool} (h1 : L.all (fun c => isCode c || P c) = true) (h2 : ∀ c ∈ L.filter isCode, P c = true) : L.all P = true := by
  refine List.all_eq_true.mpr fun c hc => ?_
  have h := List.all_eq_true.mp h1 c hc
  rcases Bool.eq_false_or_eq_true (isCode c) with hi | hi
  · exact h2 c (List.mem_filter.mpr ⟨hc, hi⟩)
  · simpa [hi] using h
set_option maxRecDepth 65536 in
theorem w_c0 : (Jvm.Cond.code x code maxLocals ret).before args0 about1 = true := code_word (m := ⟨1, 1⟩) (meth := k1m1) (c := k1c1) (by decide +kernel) rfl rfl rfl (by decide +kernel)
set_option maxRecDepth 65536 in
theorem w_c1 : (Jvm.Cond.code ({ cls := "com/example/fatrow/fatrow/engine/FixedIntegerCodec", name := "encode", desc := "(JI)[B" } : Jvm.MethodName) prog_15_method_9_code (7 : Nat) (Option.some (Jvm.ClassFile.FieldType.array Jvm.ClassFile.FieldType.byte))).before args0 about1 = true := code_word (m := ⟨3, 0⟩) (meth := k3m0) (c := k3c0) (by decide +kernel) rfl rfl rfl (by decide +kernel)
set_option maxRecDepth 65536 in
theorem w_c2 : (Jvm.Cond.code ({ cls := "com/example/fatrow/fatrow/engine/FixedIntegerCodecEncodePinLaw", name := "at", desc := "([BIJI)Z" } : Jvm.MethodName) method_3_code (6 : Nat) (Option.some Jvm.ClassFile.FieldType.boolean)).before args0 about1 = true := code_word (m := ⟨1, 2⟩) (meth := k1m2) (c := k1c2) (by decide +kernel) rfl rfl rfl (by decide +kernel)
def codes1 : List Jvm.Cond := [Jvm.Cond.code x code maxLocals ret, Jvm.Cond.code ({ cls := "com/example/fatrow/fatrow/engine/FixedIntegerCodec", name := "encode", desc := "(JI)[B" } : Jvm.MethodName) prog_15_method_9_code (7 : Nat) (Option.some (Jvm.ClassFile.FieldType.array Jvm.ClassFile.FieldType.byte)), Jvm.Cond.code ({ cls := "com/example/fatrow/fatrow/engine/FixedIntegerCodecEncodePinLaw", name := "at", desc := "([BIJI)Z" } : Jvm.MethodName) method_3_code (6 : Nat) (Option.some Jvm.ClassFile.FieldType.boolean)]
set_option maxRecDepth 65536 in
theorem codes_eq : words1.filter isCode = codes1 := rfl
theorem w_codes : ∀ c ∈ words1.filter isCode, c.before args0 about1 = true := by
  rw [codes_eq]
  intro c hc
  simp only [codes1, List.mem_cons, List.not_mem_nil, or_false] at hc
  rcases hc with rfl | rfl | rfl
  · exact w_c0
  · exact w_c1
  · exact w_c2
set_option maxRecDepth 65536 in
theorem w_t1 : words1.all (fun c => isCode c || c.before args0 about1) = true := by decide +kernel
theorem w_tables : (allAtoms (Jvm.Cond.code x code maxLocals ret :: tables_1)).before args0 about1 = true := by
  rw [allAtoms_all]
  show words1.all (fun c => c.before args0 about1) = true
  refine all_split ?_ w_codes
  rw [w_t1]
set_option maxRecDepth 65536 in
theorem w_case : (Jvm.Cond.and given_1 narrow_1).before args0 about1 = true := by decide +kernel
theorem w_applies : (headSpec (Jvm.Cond.code x code maxLocals ret :: tables_1) room_1).applies x e0.platform about1 = true :=
  (Spec.applies_iff w_frames).mpr ⟨w_running, w_runnable, w_alone, w_named, w_hears, w_ripe, w_room, w_tables⟩
theorem atStart : AtStart classFile x code maxLocals ret World_1 tables_1 room_1 Calls_1 rest_1 Pre_1 launch0 p0 e0 about1 theMethod args0 below0 :=
  ⟨lists_1, trivial, launch0.admits_env _ _ _, launch0.least_env, fairChoices_fair.cas, fairChoices_fair.clock, w_frames, w_args, w_heap, w_applies, trivial, trivial, w_case⟩
end start1
theorem witness_1 : WitnessClaimed_1 := ⟨start1.p0, start1.e0, start1.about1, start1.theMethod, start1.args0, start1.below0, start1.atStart⟩
end Jvm.Pilot.@@N@@
