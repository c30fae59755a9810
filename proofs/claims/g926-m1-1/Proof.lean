import JvmDerived
import JvmDerived.Pilot.@@N@@Statement
import JvmDerived.Pilot.@@N@@Code
set_option linter.unusedVariables false
set_option linter.unusedSimpArgs false
namespace Jvm.RoadKit
open Sem ClassFile Op Lib Jvm.Stand Jvm.Free Jvm.LawKit
section New
variable {p : Program} {l : Launch} {e : Env} {R : Room} {s : State} {m : MethodId} {args : Array Value} {below : List Frame} {meth : Method} {c : Code} {T : State} {locs : List Loc} {cells slots : Nat}
theorem retI (X : Stand p l e R s m args below meth c T locs cells slots) (hx : p.tables.exec = Jvm.exec) {pc : Nat} {Ls : Array Slot} {z : Int32} {rest : List Value} (hret : meth.sig.returnType = some .int) (hd : decode c.code pc = .ok (.ireturn, 1)) {fs : List Frame}
    (hl : ∀ (f : JFrame) (acts : List Action), f.method = m → f.locked = none → f.entered = [] → (doReturn e (T.setTop f) acts (some (.int z))).1 = T.setFrames fs) : Steps p.tables e below (T.setTop (mkF m pc Ls (.int z :: rest))) (T.setFrames fs) := by
  have hm' : T.vm.method? m = some meth := X.method'
  have hn : narrow .int (.int z) = .int z := rfl
  show Steps p.tables e below (T.setTop { method := m, pc := pc, locals := Ls, stack := _ :: rest, locked := none }) _
  jvm_step X.here [X.here.top, hx, hd, hm', hret, hn]
  first | (intro acts; rw [hl _ acts rfl rfl rfl]) | rw [hl _ _ rfl rfl rfl]
  exact Steps.refl _
end New
end Jvm.RoadKit
namespace Jvm.Pilot.@@N@@
open Jvm Jvm.ClassFile Sem Op Lib Jvm.Free Jvm.Stand Jvm.LawKit Jvm.RoadKit Bundle Jvm.Pilot.@@N@@.Jvm.D
theorem own_n32 : ∀ n, n < 9 → (Int32.ofNat n).toNatClampNeg = n := by decide
theorem own_nn : ∀ n, n < 9 → ¬ Int32.ofNat n < 0 := by decide
theorem own_lti : ∀ n, n < 9 → ∀ i, i < n → Int32.ofNat i < Int32.ofNat n := by decide
theorem own_lt : ∀ n, n < 9 → ∀ i, i < 8 → (Int32.ofNat i < Int32.ofNat n → i < n) := by decide
theorem own_nlt : ∀ n, n < 9 → ∀ i, i < 8 → (¬ Int32.ofNat i < Int32.ofNat n → n ≤ i) := by decide
theorem own_one (i : Nat) : Int32.ofNat i + (1 : Int32) = Int32.ofNat (i + 1) := (Int32.ofNat_add i 1).symm
theorem own_and_nn (x : Int32) : 0 ≤ (x &&& (2147483647 : Int32)).toInt := by
  have e : (x &&& (2147483647 : Int32)).toBitVec.msb = false := by
    rw [Int32.toBitVec_and, BitVec.msb_and]
    have : (2147483647 : Int32).toBitVec.msb = false := by decide
    rw [this, Bool.and_false]
  rw [Int32.toInt, BitVec.toInt_eq_msb_cond, e]
  simp
theorem own_rem (x : Int32) : ∃ n : Nat, n < 9 ∧ (x &&& (2147483647 : Int32)) % (9 : Int32) = Int32.ofNat n := by
  have h := own_and_nn x
  have e : ((x &&& (2147483647 : Int32)) % (9 : Int32)).toInt = (x &&& (2147483647 : Int32)).toInt % 9 := by
    rw [Int32.toInt_mod, Int.tmod_eq_emod_of_nonneg h]; rfl
  refine ⟨((x &&& (2147483647 : Int32)) % (9 : Int32)).toInt.toNat, by omega, ?_⟩
  apply Int32.toInt_inj.mp
  rw [Int32.toInt_ofNat_of_lt (by omega)]
  omega
def own_step (h : Int64) (x : Int32) : Int64 := (h ^^^ ((x &&& (255 : Int32)).toInt64)) * (1099511628211 : Int64)
def own_x33 (z : Int64) : Int64 := z ^^^ ((z.toUInt64 >>> ((33 : Int32) &&& 0x3f).toInt64.toUInt64).toInt64)
def own_mix (z : Int64) : Int64 := own_x33 (own_x33 (own_x33 z * (-49064778989728563 : Int64)) * (-4265267296055464877 : Int64))
def own_h (f : Nat → Int32) : Nat → Int64
  | 0 => (-3750763034362895579 : Int64)
  | t + 1 => own_step (own_h f t) (f t)
theorem d1_0 : decode method_3_code 0 = .ok (.lload_n 0, 1) := by decide +kernel
theorem d1_1 : decode method_3_code 1 = .ok (.iload_n 2, 1) := by decide +kernel
theorem d1_2 : decode method_3_code 2 = .ok (.sipush 255, 3) := by decide +kernel
theorem d1_5 : decode method_3_code 5 = .ok (.iand, 1) := by decide +kernel
theorem d1_6 : decode method_3_code 6 = .ok (.i2l, 1) := by decide +kernel
theorem d1_7 : decode method_3_code 7 = .ok (.lxor, 1) := by decide +kernel
theorem d1_8 : decode method_3_code 8 = .ok (.ldc2_w 26, 3) := by decide +kernel
theorem d1_11 : decode method_3_code 11 = .ok (.lmul, 1) := by decide +kernel
theorem d1_12 : decode method_3_code 12 = .ok (.lreturn, 1) := by decide +kernel
def Q1 (q1 : Int64) (p2 : Int32) (h0 : Heap) (n0 : Nat) (v : Option Value) (h : Heap) (L : List Loc) : Prop := v = some (.long (own_step q1 p2)) ∧ Fr n0 L ∧ h = h0
theorem pn1 : plainName "com/example/keelson/keelson/core/checkpoint/StateFilesHashPinLaw" = true := by first | (simp [plainName, overriddenIn]; done) | decide +kernel
theorem ef1 (m : MethodId) (x0 : Int64) (x1 : Int32) : entryFrame m #[(.long x0), (.int x1)] 3 = mkF m 0 #[.val (.long x0), .second, .val (.int x1)] [] := by first | (simp [entryFrame, mkF, argsToLocals, Value.category]; done) | rfl
set_option maxRecDepth 65536 in
set_option maxHeartbeats 40000000 in
theorem rm1 (l : Launch) (Z : State) (a0 : Array Value) (hw : ∀ d ∈ tables_1, d.before a0 Z = true) (ws : List Jvm.Cond) (q1 : Int64) (p2 : Int32) (h0 : Heap) (n0 : Nat) (Z0 : n0 ≤ h0.size)  :
    MetFree l (⟨"com/example/keelson/keelson/core/checkpoint/StateFilesHashPinLaw", "step", "(JB)J"⟩ : MethodName) (head1 (Jvm.Cond.code (⟨"com/example/keelson/keelson/core/checkpoint/StateFilesHashPinLaw", "step", "(JB)J"⟩ : MethodName) method_3_code 3 (some .long) :: ws) ({ frames := 0, cells := 0, slots := 0, locals := 0 } : Room)) (fun a U => a = #[(.long q1), (.int p2)] ∧ Z.Warmed39 U.vm ∧ U.heap = h0) (fun _ _ _ _ _ => True) (fun _ U o U' => ∃ v L, o = .returned v ∧ Q1 q1 p2 h0 n0 v U'.heap L ∧ FrameEnd U o U' L ({ frames := 0, cells := 0, slots := 0, locals := 0 } : Room).cells ({ frames := 0, cells := 0, slots := 0, locals := 0 } : Room).slots) := by
  refine MetFree.of_bodySF (plainFor_of_name pn1) hisR ?_
  intro p e s m args below meth c s₁ Bd hml0 hP hK
  obtain ⟨rfl, hZ, hh⟩ := hP
  have hx := Bd.exec
  have hby := Bd.bytes
  have hml : c.maxLocals = 3 := hml0
  have hown : s.vm.findClass "com/example/keelson/keelson/core/checkpoint/StateFilesHashPinLaw" = some m.cls := findClass_of_methodNamed Bd.named
  have hnm := (name_of_methodNamed Bd.named Bd.method).1
  have X0 : Stand p l e ({ frames := 0, cells := 0, slots := 0, locals := 0 } : Room) s m #[(.long q1), (.int p2)] below meth c s₁ [] 0 0 := Stand.of_body Bd
  have e0 : s₁.heap = h0 := by rw [← hh, Bd.state]; rfl
  have N0 := Fr.nil n0
  have pre0 : ∀ t, Steps p.tables e below (s₁.setTop (mkF m 0 #[.val (.long q1), .second, .val (.int p2)] [])) t → Steps p.tables e below (s₁.setTop (entryFrame m #[(.long q1), (.int p2)] 3)) t := fun t k => castTop (ef1 m q1 p2) k
  obtain ⟨fs, hr, hrun, hended, hW, hsame⟩ := X0.leave (v := some (.long (own_step q1 p2))) (fun h => by rw [Bd.returns] at h; cases h)
  refine ⟨_, _, pre0 _ ?_, hrun, hended, _, _, rfl, ?_, ⟨_, rfl⟩, hW, hsame.mono (by decide) (by decide)⟩
  · show Steps p.tables e below (s₁.setTop (mkF m 0 #[.val (.long q1), .second, .val (.int p2)] [])) _
    refine XS.lloadN X0.here hx rfl (hb hby d1_0) rfl ?_
    show Steps p.tables e below (s₁.setTop (mkF m 1 #[.val (.long q1), .second, .val (.int p2)] [(.long q1)])) _
    refine XS.iloadN X0.here hx rfl (hb hby d1_1) rfl ?_
    show Steps p.tables e below (s₁.setTop (mkF m 2 #[.val (.long q1), .second, .val (.int p2)] [(.int p2), (.long q1)])) _
    refine XS.sipush X0.here hx rfl (hb hby d1_2) ?_
    show Steps p.tables e below (s₁.setTop (mkF m 5 #[.val (.long q1), .second, .val (.int p2)] [(.int (255 : Int32)), (.int p2), (.long q1)])) _
    refine XS.iand X0.here hx rfl (hb hby d1_5) rfl ?_
    show Steps p.tables e below (s₁.setTop (mkF m 6 #[.val (.long q1), .second, .val (.int p2)] [(.int (p2 &&& (255 : Int32))), (.long q1)])) _
    refine XS.i2l X0.here hx rfl (hb hby d1_6) rfl ?_
    show Steps p.tables e below (s₁.setTop (mkF m 7 #[.val (.long q1), .second, .val (.int p2)] [(.long ((p2 &&& (255 : Int32)).toInt64)), (.long q1)])) _
    refine XS.lxor X0.here hx rfl (hb hby d1_7) rfl ?_
    show Steps p.tables e below (s₁.setTop (mkF m 8 #[.val (.long q1), .second, .val (.int p2)] [(.long (q1 ^^^ ((p2 &&& (255 : Int32)).toInt64)))])) _
    refine X0.ldc2Long hx hown (mvT hZ (hw _ (List.mem_of_getElem? (i := 7) rfl))) (g := (mkF m 8 #[.val (.long q1), .second, .val (.int p2)] [(.long (q1 ^^^ ((p2 &&& (255 : Int32)).toInt64)))])) rfl (hb hby d1_8) _ ?_
    show Steps p.tables e below (s₁.setTop (mkF m 11 #[.val (.long q1), .second, .val (.int p2)] [(.long (1099511628211 : Int64)), (.long (q1 ^^^ ((p2 &&& (255 : Int32)).toInt64)))])) _
    refine XS.lmul X0.here hx rfl (hb hby d1_11) rfl ?_
    show Steps p.tables e below (s₁.setTop (mkF m 12 #[.val (.long q1), .second, .val (.int p2)] [(.long ((q1 ^^^ ((p2 &&& (255 : Int32)).toInt64)) * (1099511628211 : Int64)))])) _
    exact retOut X0 hx Bd.returns rfl (by simp [Value.isRef, FieldType.isReference]) (hb hby d1_12) hr
  · show Q1 q1 p2 h0 n0 _ s₁.heap _
    rw [e0]
    exact ⟨rfl, N0, rfl⟩
theorem d2_0 : decode method_4_code 0 = .ok (.lload_n 0, 1) := by decide +kernel
theorem d2_1 : decode method_4_code 1 = .ok (.lstore_n 2, 1) := by decide +kernel
theorem d2_2 : decode method_4_code 2 = .ok (.lload_n 2, 1) := by decide +kernel
theorem d2_3 : decode method_4_code 3 = .ok (.lload_n 2, 1) := by decide +kernel
theorem d2_4 : decode method_4_code 4 = .ok (.bipush 33, 2) := by decide +kernel
theorem d2_6 : decode method_4_code 6 = .ok (.lushr, 1) := by decide +kernel
theorem d2_7 : decode method_4_code 7 = .ok (.lxor, 1) := by decide +kernel
theorem d2_8 : decode method_4_code 8 = .ok (.lstore_n 2, 1) := by decide +kernel
theorem d2_9 : decode method_4_code 9 = .ok (.lload_n 2, 1) := by decide +kernel
theorem d2_10 : decode method_4_code 10 = .ok (.ldc2_w 28, 3) := by decide +kernel
theorem d2_13 : decode method_4_code 13 = .ok (.lmul, 1) := by decide +kernel
theorem d2_14 : decode method_4_code 14 = .ok (.lstore_n 2, 1) := by decide +kernel
theorem d2_15 : decode method_4_code 15 = .ok (.lload_n 2, 1) := by decide +kernel
theorem d2_16 : decode method_4_code 16 = .ok (.lload_n 2, 1) := by decide +kernel
theorem d2_17 : decode method_4_code 17 = .ok (.bipush 33, 2) := by decide +kernel
theorem d2_19 : decode method_4_code 19 = .ok (.lushr, 1) := by decide +kernel
theorem d2_20 : decode method_4_code 20 = .ok (.lxor, 1) := by decide +kernel
theorem d2_21 : decode method_4_code 21 = .ok (.lstore_n 2, 1) := by decide +kernel
theorem d2_22 : decode method_4_code 22 = .ok (.lload_n 2, 1) := by decide +kernel
theorem d2_23 : decode method_4_code 23 = .ok (.ldc2_w 30, 3) := by decide +kernel
theorem d2_26 : decode method_4_code 26 = .ok (.lmul, 1) := by decide +kernel
theorem d2_27 : decode method_4_code 27 = .ok (.lstore_n 2, 1) := by decide +kernel
theorem d2_28 : decode method_4_code 28 = .ok (.lload_n 2, 1) := by decide +kernel
theorem d2_29 : decode method_4_code 29 = .ok (.lload_n 2, 1) := by decide +kernel
theorem d2_30 : decode method_4_code 30 = .ok (.bipush 33, 2) := by decide +kernel
theorem d2_32 : decode method_4_code 32 = .ok (.lushr, 1) := by decide +kernel
theorem d2_33 : decode method_4_code 33 = .ok (.lxor, 1) := by decide +kernel
theorem d2_34 : decode method_4_code 34 = .ok (.lstore_n 2, 1) := by decide +kernel
theorem d2_35 : decode method_4_code 35 = .ok (.lload_n 2, 1) := by decide +kernel
theorem d2_36 : decode method_4_code 36 = .ok (.lreturn, 1) := by decide +kernel
def Q2 (q1 : Int64) (h0 : Heap) (n0 : Nat) (v : Option Value) (h : Heap) (L : List Loc) : Prop := v = some (.long (own_mix q1)) ∧ Fr n0 L ∧ h = h0
theorem pn2 : plainName "com/example/keelson/keelson/core/checkpoint/StateFilesHashPinLaw" = true := by first | (simp [plainName, overriddenIn]; done) | decide +kernel
theorem ef2 (m : MethodId) (x0 : Int64) : entryFrame m #[(.long x0)] 4 = mkF m 0 #[.val (.long x0), .second, .unset, .unset] [] := by first | (simp [entryFrame, mkF, argsToLocals, Value.category]; done) | rfl
set_option maxRecDepth 65536 in
set_option maxHeartbeats 40000000 in
theorem rm2 (l : Launch) (Z : State) (a0 : Array Value) (hw : ∀ d ∈ tables_1, d.before a0 Z = true) (ws : List Jvm.Cond) (q1 : Int64) (h0 : Heap) (n0 : Nat) (Z0 : n0 ≤ h0.size)  :
    MetFree l (⟨"com/example/keelson/keelson/core/checkpoint/StateFilesHashPinLaw", "mix", "(J)J"⟩ : MethodName) (head1 (Jvm.Cond.code (⟨"com/example/keelson/keelson/core/checkpoint/StateFilesHashPinLaw", "mix", "(J)J"⟩ : MethodName) method_4_code 4 (some .long) :: ws) ({ frames := 0, cells := 0, slots := 0, locals := 0 } : Room)) (fun a U => a = #[(.long q1)] ∧ Z.Warmed39 U.vm ∧ U.heap = h0) (fun _ _ _ _ _ => True) (fun _ U o U' => ∃ v L, o = .returned v ∧ Q2 q1 h0 n0 v U'.heap L ∧ FrameEnd U o U' L ({ frames := 0, cells := 0, slots := 0, locals := 0 } : Room).cells ({ frames := 0, cells := 0, slots := 0, locals := 0 } : Room).slots) := by
  refine MetFree.of_bodySF (plainFor_of_name pn2) hisR ?_
  intro p e s m args below meth c s₁ Bd hml0 hP hK
  obtain ⟨rfl, hZ, hh⟩ := hP
  have hx := Bd.exec
  have hby := Bd.bytes
  have hml : c.maxLocals = 4 := hml0
  have hown : s.vm.findClass "com/example/keelson/keelson/core/checkpoint/StateFilesHashPinLaw" = some m.cls := findClass_of_methodNamed Bd.named
  have hnm := (name_of_methodNamed Bd.named Bd.method).1
  have X0 : Stand p l e ({ frames := 0, cells := 0, slots := 0, locals := 0 } : Room) s m #[(.long q1)] below meth c s₁ [] 0 0 := Stand.of_body Bd
  have e0 : s₁.heap = h0 := by rw [← hh, Bd.state]; rfl
  have N0 := Fr.nil n0
  have pre0 : ∀ t, Steps p.tables e below (s₁.setTop (mkF m 0 #[.val (.long q1), .second, .unset, .unset] [])) t → Steps p.tables e below (s₁.setTop (entryFrame m #[(.long q1)] 4)) t := fun t k => castTop (ef2 m q1) k
  obtain ⟨fs, hr, hrun, hended, hW, hsame⟩ := X0.leave (v := some (.long (own_mix q1))) (fun h => by rw [Bd.returns] at h; cases h)
  refine ⟨_, _, pre0 _ ?_, hrun, hended, _, _, rfl, ?_, ⟨_, rfl⟩, hW, hsame.mono (by decide) (by decide)⟩
  · show Steps p.tables e below (s₁.setTop (mkF m 0 #[.val (.long q1), .second, .unset, .unset] [])) _
    refine XS.lloadN X0.here hx rfl (hb hby d2_0) rfl ?_
    show Steps p.tables e below (s₁.setTop (mkF m 1 #[.val (.long q1), .second, .unset, .unset] [(.long q1)])) _
    refine XS.lstoreN X0.here hx rfl (hb hby d2_1) rfl (l' := #[.val (.long q1), .second, .val (.long q1), .second]) rfl ?_
    show Steps p.tables e below (s₁.setTop (mkF m 2 #[.val (.long q1), .second, .val (.long q1), .second] [])) _
    refine XS.lloadN X0.here hx rfl (hb hby d2_2) rfl ?_
    show Steps p.tables e below (s₁.setTop (mkF m 3 #[.val (.long q1), .second, .val (.long q1), .second] [(.long q1)])) _
    refine XS.lloadN X0.here hx rfl (hb hby d2_3) rfl ?_
    show Steps p.tables e below (s₁.setTop (mkF m 4 #[.val (.long q1), .second, .val (.long q1), .second] [(.long q1), (.long q1)])) _
    refine XS.bipush X0.here hx rfl (hb hby d2_4) ?_
    show Steps p.tables e below (s₁.setTop (mkF m 6 #[.val (.long q1), .second, .val (.long q1), .second] [(.int (33 : Int32)), (.long q1), (.long q1)])) _
    refine XS.lushr X0.here hx rfl (hb hby d2_6) rfl ?_
    show Steps p.tables e below (s₁.setTop (mkF m 7 #[.val (.long q1), .second, .val (.long q1), .second] [(.long ((q1.toUInt64 >>> ((33 : Int32) &&& 0x3f).toInt64.toUInt64).toInt64)), (.long q1)])) _
    refine XS.lxor X0.here hx rfl (hb hby d2_7) rfl ?_
    show Steps p.tables e below (s₁.setTop (mkF m 8 #[.val (.long q1), .second, .val (.long q1), .second] [(.long (q1 ^^^ ((q1.toUInt64 >>> ((33 : Int32) &&& 0x3f).toInt64.toUInt64).toInt64)))])) _
    refine XS.lstoreN X0.here hx rfl (hb hby d2_8) rfl (l' := #[.val (.long q1), .second, .val (.long (q1 ^^^ ((q1.toUInt64 >>> ((33 : Int32) &&& 0x3f).toInt64.toUInt64).toInt64))), .second]) rfl ?_
    show Steps p.tables e below (s₁.setTop (mkF m 9 #[.val (.long q1), .second, .val (.long (own_x33 q1)), .second] [])) _
    refine XS.lloadN X0.here hx rfl (hb hby d2_9) rfl ?_
    show Steps p.tables e below (s₁.setTop (mkF m 10 #[.val (.long q1), .second, .val (.long (own_x33 q1)), .second] [(.long (own_x33 q1))])) _
    refine X0.ldc2Long hx hown (mvT hZ (hw _ (List.mem_of_getElem? (i := 19) rfl))) (g := (mkF m 10 #[.val (.long q1), .second, .val (.long (own_x33 q1)), .second] [(.long (own_x33 q1))])) rfl (hb hby d2_10) _ ?_
    show Steps p.tables e below (s₁.setTop (mkF m 13 #[.val (.long q1), .second, .val (.long (own_x33 q1)), .second] [(.long (-49064778989728563 : Int64)), (.long (own_x33 q1))])) _
    refine XS.lmul X0.here hx rfl (hb hby d2_13) rfl ?_
    show Steps p.tables e below (s₁.setTop (mkF m 14 #[.val (.long q1), .second, .val (.long (own_x33 q1)), .second] [(.long ((own_x33 q1) * (-49064778989728563 : Int64)))])) _
    refine XS.lstoreN X0.here hx rfl (hb hby d2_14) rfl (l' := #[.val (.long q1), .second, .val (.long ((own_x33 q1) * (-49064778989728563 : Int64))), .second]) rfl ?_
    show Steps p.tables e below (s₁.setTop (mkF m 15 #[.val (.long q1), .second, .val (.long ((own_x33 q1) * (-49064778989728563 : Int64))), .second] [])) _
    refine XS.lloadN X0.here hx rfl (hb hby d2_15) rfl ?_
    show Steps p.tables e below (s₁.setTop (mkF m 16 #[.val (.long q1), .second, .val (.long ((own_x33 q1) * (-49064778989728563 : Int64))), .second] [(.long ((own_x33 q1) * (-49064778989728563 : Int64)))])) _
    refine XS.lloadN X0.here hx rfl (hb hby d2_16) rfl ?_
    show Steps p.tables e below (s₁.setTop (mkF m 17 #[.val (.long q1), .second, .val (.long ((own_x33 q1) * (-49064778989728563 : Int64))), .second] [(.long ((own_x33 q1) * (-49064778989728563 : Int64))), (.long ((own_x33 q1) * (-49064778989728563 : Int64)))])) _
    refine XS.bipush X0.here hx rfl (hb hby d2_17) ?_
    show Steps p.tables e below (s₁.setTop (mkF m 19 #[.val (.long q1), .second, .val (.long ((own_x33 q1) * (-49064778989728563 : Int64))), .second] [(.int (33 : Int32)), (.long ((own_x33 q1) * (-49064778989728563 : Int64))), (.long ((own_x33 q1) * (-49064778989728563 : Int64)))])) _
    refine XS.lushr X0.here hx rfl (hb hby d2_19) rfl ?_
    show Steps p.tables e below (s₁.setTop (mkF m 20 #[.val (.long q1), .second, .val (.long ((own_x33 q1) * (-49064778989728563 : Int64))), .second] [(.long ((((own_x33 q1) * (-49064778989728563 : Int64)).toUInt64 >>> ((33 : Int32) &&& 0x3f).toInt64.toUInt64).toInt64)), (.long ((own_x33 q1) * (-49064778989728563 : Int64)))])) _
    refine XS.lxor X0.here hx rfl (hb hby d2_20) rfl ?_
    show Steps p.tables e below (s₁.setTop (mkF m 21 #[.val (.long q1), .second, .val (.long ((own_x33 q1) * (-49064778989728563 : Int64))), .second] [(.long (((own_x33 q1) * (-49064778989728563 : Int64)) ^^^ ((((own_x33 q1) * (-49064778989728563 : Int64)).toUInt64 >>> ((33 : Int32) &&& 0x3f).toInt64.toUInt64).toInt64)))])) _
    refine XS.lstoreN X0.here hx rfl (hb hby d2_21) rfl (l' := #[.val (.long q1), .second, .val (.long (((own_x33 q1) * (-49064778989728563 : Int64)) ^^^ ((((own_x33 q1) * (-49064778989728563 : Int64)).toUInt64 >>> ((33 : Int32) &&& 0x3f).toInt64.toUInt64).toInt64))), .second]) rfl ?_
    show Steps p.tables e below (s₁.setTop (mkF m 22 #[.val (.long q1), .second, .val (.long (own_x33 ((own_x33 q1) * (-49064778989728563 : Int64)))), .second] [])) _
    refine XS.lloadN X0.here hx rfl (hb hby d2_22) rfl ?_
    show Steps p.tables e below (s₁.setTop (mkF m 23 #[.val (.long q1), .second, .val (.long (own_x33 ((own_x33 q1) * (-49064778989728563 : Int64)))), .second] [(.long (own_x33 ((own_x33 q1) * (-49064778989728563 : Int64))))])) _
    refine X0.ldc2Long hx hown (mvT hZ (hw _ (List.mem_of_getElem? (i := 20) rfl))) (g := (mkF m 23 #[.val (.long q1), .second, .val (.long (own_x33 ((own_x33 q1) * (-49064778989728563 : Int64)))), .second] [(.long (own_x33 ((own_x33 q1) * (-49064778989728563 : Int64))))])) rfl (hb hby d2_23) _ ?_
    show Steps p.tables e below (s₁.setTop (mkF m 26 #[.val (.long q1), .second, .val (.long (own_x33 ((own_x33 q1) * (-49064778989728563 : Int64)))), .second] [(.long (-4265267296055464877 : Int64)), (.long (own_x33 ((own_x33 q1) * (-49064778989728563 : Int64))))])) _
    refine XS.lmul X0.here hx rfl (hb hby d2_26) rfl ?_
    show Steps p.tables e below (s₁.setTop (mkF m 27 #[.val (.long q1), .second, .val (.long (own_x33 ((own_x33 q1) * (-49064778989728563 : Int64)))), .second] [(.long ((own_x33 ((own_x33 q1) * (-49064778989728563 : Int64))) * (-4265267296055464877 : Int64)))])) _
    refine XS.lstoreN X0.here hx rfl (hb hby d2_27) rfl (l' := #[.val (.long q1), .second, .val (.long ((own_x33 ((own_x33 q1) * (-49064778989728563 : Int64))) * (-4265267296055464877 : Int64))), .second]) rfl ?_
    show Steps p.tables e below (s₁.setTop (mkF m 28 #[.val (.long q1), .second, .val (.long ((own_x33 ((own_x33 q1) * (-49064778989728563 : Int64))) * (-4265267296055464877 : Int64))), .second] [])) _
    refine XS.lloadN X0.here hx rfl (hb hby d2_28) rfl ?_
    show Steps p.tables e below (s₁.setTop (mkF m 29 #[.val (.long q1), .second, .val (.long ((own_x33 ((own_x33 q1) * (-49064778989728563 : Int64))) * (-4265267296055464877 : Int64))), .second] [(.long ((own_x33 ((own_x33 q1) * (-49064778989728563 : Int64))) * (-4265267296055464877 : Int64)))])) _
    refine XS.lloadN X0.here hx rfl (hb hby d2_29) rfl ?_
    show Steps p.tables e below (s₁.setTop (mkF m 30 #[.val (.long q1), .second, .val (.long ((own_x33 ((own_x33 q1) * (-49064778989728563 : Int64))) * (-4265267296055464877 : Int64))), .second] [(.long ((own_x33 ((own_x33 q1) * (-49064778989728563 : Int64))) * (-4265267296055464877 : Int64))), (.long ((own_x33 ((own_x33 q1) * (-49064778989728563 : Int64))) * (-4265267296055464877 : Int64)))])) _
    refine XS.bipush X0.here hx rfl (hb hby d2_30) ?_
    show Steps p.tables e below (s₁.setTop (mkF m 32 #[.val (.long q1), .second, .val (.long ((own_x33 ((own_x33 q1) * (-49064778989728563 : Int64))) * (-4265267296055464877 : Int64))), .second] [(.int (33 : Int32)), (.long ((own_x33 ((own_x33 q1) * (-49064778989728563 : Int64))) * (-4265267296055464877 : Int64))), (.long ((own_x33 ((own_x33 q1) * (-49064778989728563 : Int64))) * (-4265267296055464877 : Int64)))])) _
    refine XS.lushr X0.here hx rfl (hb hby d2_32) rfl ?_
    show Steps p.tables e below (s₁.setTop (mkF m 33 #[.val (.long q1), .second, .val (.long ((own_x33 ((own_x33 q1) * (-49064778989728563 : Int64))) * (-4265267296055464877 : Int64))), .second] [(.long ((((own_x33 ((own_x33 q1) * (-49064778989728563 : Int64))) * (-4265267296055464877 : Int64)).toUInt64 >>> ((33 : Int32) &&& 0x3f).toInt64.toUInt64).toInt64)), (.long ((own_x33 ((own_x33 q1) * (-49064778989728563 : Int64))) * (-4265267296055464877 : Int64)))])) _
    refine XS.lxor X0.here hx rfl (hb hby d2_33) rfl ?_
    show Steps p.tables e below (s₁.setTop (mkF m 34 #[.val (.long q1), .second, .val (.long ((own_x33 ((own_x33 q1) * (-49064778989728563 : Int64))) * (-4265267296055464877 : Int64))), .second] [(.long (((own_x33 ((own_x33 q1) * (-49064778989728563 : Int64))) * (-4265267296055464877 : Int64)) ^^^ ((((own_x33 ((own_x33 q1) * (-49064778989728563 : Int64))) * (-4265267296055464877 : Int64)).toUInt64 >>> ((33 : Int32) &&& 0x3f).toInt64.toUInt64).toInt64)))])) _
    refine XS.lstoreN X0.here hx rfl (hb hby d2_34) rfl (l' := #[.val (.long q1), .second, .val (.long (((own_x33 ((own_x33 q1) * (-49064778989728563 : Int64))) * (-4265267296055464877 : Int64)) ^^^ ((((own_x33 ((own_x33 q1) * (-49064778989728563 : Int64))) * (-4265267296055464877 : Int64)).toUInt64 >>> ((33 : Int32) &&& 0x3f).toInt64.toUInt64).toInt64))), .second]) rfl ?_
    show Steps p.tables e below (s₁.setTop (mkF m 35 #[.val (.long q1), .second, .val (.long (own_x33 ((own_x33 ((own_x33 q1) * (-49064778989728563 : Int64))) * (-4265267296055464877 : Int64)))), .second] [])) _
    refine XS.lloadN X0.here hx rfl (hb hby d2_35) rfl ?_
    show Steps p.tables e below (s₁.setTop (mkF m 36 #[.val (.long q1), .second, .val (.long (own_x33 ((own_x33 ((own_x33 q1) * (-49064778989728563 : Int64))) * (-4265267296055464877 : Int64)))), .second] [(.long (own_x33 ((own_x33 ((own_x33 q1) * (-49064778989728563 : Int64))) * (-4265267296055464877 : Int64))))])) _
    exact retOut X0 hx Bd.returns rfl (by simp [Value.isRef, FieldType.isReference]) (hb hby d2_36) hr
  · show Q2 q1 h0 n0 _ s₁.heap _
    rw [e0]
    exact ⟨rfl, N0, rfl⟩
theorem d3_0 : decode prog_111_method_25_code 0 = .ok (.ldc2_w 355, 3) := by decide +kernel
theorem d3_3 : decode prog_111_method_25_code 3 = .ok (.lstore_n 2, 1) := by decide +kernel
theorem d3_4 : decode prog_111_method_25_code 4 = .ok (.iconst 0, 1) := by decide +kernel
theorem d3_5 : decode prog_111_method_25_code 5 = .ok (.istore 4, 2) := by decide +kernel
theorem d3_7 : decode prog_111_method_25_code 7 = .ok (.iload 4, 2) := by decide +kernel
theorem d3_9 : decode prog_111_method_25_code 9 = .ok (.iload_n 1, 1) := by decide +kernel
theorem d3_10 : decode prog_111_method_25_code 10 = .ok (.if_icmp .ge 27, 3) := by decide +kernel
theorem d3_13 : decode prog_111_method_25_code 13 = .ok (.lload_n 2, 1) := by decide +kernel
theorem d3_14 : decode prog_111_method_25_code 14 = .ok (.aload_n 0, 1) := by decide +kernel
theorem d3_15 : decode prog_111_method_25_code 15 = .ok (.iload 4, 2) := by decide +kernel
theorem d3_17 : decode prog_111_method_25_code 17 = .ok (.baload, 1) := by decide +kernel
theorem d3_18 : decode prog_111_method_25_code 18 = .ok (.sipush 255, 3) := by decide +kernel
theorem d3_21 : decode prog_111_method_25_code 21 = .ok (.iand, 1) := by decide +kernel
theorem d3_22 : decode prog_111_method_25_code 22 = .ok (.i2l, 1) := by decide +kernel
theorem d3_23 : decode prog_111_method_25_code 23 = .ok (.lxor, 1) := by decide +kernel
theorem d3_24 : decode prog_111_method_25_code 24 = .ok (.lstore_n 2, 1) := by decide +kernel
theorem d3_25 : decode prog_111_method_25_code 25 = .ok (.lload_n 2, 1) := by decide +kernel
theorem d3_26 : decode prog_111_method_25_code 26 = .ok (.ldc2_w 357, 3) := by decide +kernel
theorem d3_29 : decode prog_111_method_25_code 29 = .ok (.lmul, 1) := by decide +kernel
theorem d3_30 : decode prog_111_method_25_code 30 = .ok (.lstore_n 2, 1) := by decide +kernel
theorem d3_31 : decode prog_111_method_25_code 31 = .ok (.iinc 4 1, 3) := by decide +kernel
theorem d3_34 : decode prog_111_method_25_code 34 = .ok (.goto (-27), 3) := by decide +kernel
theorem d3_37 : decode prog_111_method_25_code 37 = .ok (.lload_n 2, 1) := by decide +kernel
theorem d3_38 : decode prog_111_method_25_code 38 = .ok (.lload_n 2, 1) := by decide +kernel
theorem d3_39 : decode prog_111_method_25_code 39 = .ok (.bipush 33, 2) := by decide +kernel
theorem d3_41 : decode prog_111_method_25_code 41 = .ok (.lushr, 1) := by decide +kernel
theorem d3_42 : decode prog_111_method_25_code 42 = .ok (.lxor, 1) := by decide +kernel
theorem d3_43 : decode prog_111_method_25_code 43 = .ok (.lstore_n 2, 1) := by decide +kernel
theorem d3_44 : decode prog_111_method_25_code 44 = .ok (.lload_n 2, 1) := by decide +kernel
theorem d3_45 : decode prog_111_method_25_code 45 = .ok (.ldc2_w 359, 3) := by decide +kernel
theorem d3_48 : decode prog_111_method_25_code 48 = .ok (.lmul, 1) := by decide +kernel
theorem d3_49 : decode prog_111_method_25_code 49 = .ok (.lstore_n 2, 1) := by decide +kernel
theorem d3_50 : decode prog_111_method_25_code 50 = .ok (.lload_n 2, 1) := by decide +kernel
theorem d3_51 : decode prog_111_method_25_code 51 = .ok (.lload_n 2, 1) := by decide +kernel
theorem d3_52 : decode prog_111_method_25_code 52 = .ok (.bipush 33, 2) := by decide +kernel
theorem d3_54 : decode prog_111_method_25_code 54 = .ok (.lushr, 1) := by decide +kernel
theorem d3_55 : decode prog_111_method_25_code 55 = .ok (.lxor, 1) := by decide +kernel
theorem d3_56 : decode prog_111_method_25_code 56 = .ok (.lstore_n 2, 1) := by decide +kernel
theorem d3_57 : decode prog_111_method_25_code 57 = .ok (.lload_n 2, 1) := by decide +kernel
theorem d3_58 : decode prog_111_method_25_code 58 = .ok (.ldc2_w 361, 3) := by decide +kernel
theorem d3_61 : decode prog_111_method_25_code 61 = .ok (.lmul, 1) := by decide +kernel
theorem d3_62 : decode prog_111_method_25_code 62 = .ok (.lstore_n 2, 1) := by decide +kernel
theorem d3_63 : decode prog_111_method_25_code 63 = .ok (.lload_n 2, 1) := by decide +kernel
theorem d3_64 : decode prog_111_method_25_code 64 = .ok (.lload_n 2, 1) := by decide +kernel
theorem d3_65 : decode prog_111_method_25_code 65 = .ok (.bipush 33, 2) := by decide +kernel
theorem d3_67 : decode prog_111_method_25_code 67 = .ok (.lushr, 1) := by decide +kernel
theorem d3_68 : decode prog_111_method_25_code 68 = .ok (.lxor, 1) := by decide +kernel
theorem d3_69 : decode prog_111_method_25_code 69 = .ok (.lstore_n 2, 1) := by decide +kernel
theorem d3_70 : decode prog_111_method_25_code 70 = .ok (.lload_n 2, 1) := by decide +kernel
theorem d3_71 : decode prog_111_method_25_code 71 = .ok (.lreturn, 1) := by decide +kernel
def Q3 (f : Nat → Int32) (n : Nat) (h0 : Heap) (n0 : Nat) (v : Option Value) (h : Heap) (L : List Loc) : Prop := v = some (.long (own_mix (own_h f n))) ∧ Fr n0 L ∧ h = h0
theorem pn3 : plainName "com/example/keelson/keelson/core/checkpoint/StateFiles" = true := by first | (simp [plainName, overriddenIn]; done) | decide +kernel
theorem ef3 (m : MethodId) (x0 : Addr) (x1 : Int32) : entryFrame m #[(.ref x0), (.int x1)] 5 = mkF m 0 #[.val (.ref x0), .val (.int x1), .unset, .unset, .unset] [] := by first | (simp [entryFrame, mkF, argsToLocals, Value.category]; done) | rfl
set_option maxRecDepth 65536 in
set_option maxHeartbeats 40000000 in
theorem rm3 (l : Launch) (Z : State) (a0 : Array Value) (hw : ∀ d ∈ tables_1, d.before a0 Z = true) (ws : List Jvm.Cond) (a1 : Addr) (n : Nat) (f : Nat → Int32) (cl : Cell) (h0 : Heap) (n0 : Nat) (Z0 : n0 ≤ h0.size) (hn : n < 9) (Ar : Arr Z h0 a1 cl .byte) (Sz : cl.slots.size = 8) (hat : ∀ j, j < 8 → cl.slots[j]? = some (.int (f j))) :
    MetFree l (⟨"com/example/keelson/keelson/core/checkpoint/StateFiles", "hash", "([BI)J"⟩ : MethodName) (head1 (Jvm.Cond.code (⟨"com/example/keelson/keelson/core/checkpoint/StateFiles", "hash", "([BI)J"⟩ : MethodName) prog_111_method_25_code 5 (some .long) :: ws) ({ frames := 0, cells := 0, slots := 0, locals := 0 } : Room)) (fun a U => a = #[(.ref a1), (.int (Int32.ofNat n))] ∧ Z.Warmed39 U.vm ∧ U.heap = h0) (fun _ _ _ _ _ => True) (fun _ U o U' => ∃ v L, o = .returned v ∧ Q3 f n h0 n0 v U'.heap L ∧ FrameEnd U o U' L ({ frames := 0, cells := 0, slots := 0, locals := 0 } : Room).cells ({ frames := 0, cells := 0, slots := 0, locals := 0 } : Room).slots) := by
  refine MetFree.of_bodySF (plainFor_of_name pn3) hisR ?_
  intro p e s m args below meth c s₁ Bd hml0 hP hK
  obtain ⟨rfl, hZ, hh⟩ := hP
  have hx := Bd.exec
  have hby := Bd.bytes
  have hml : c.maxLocals = 5 := hml0
  have hown : s.vm.findClass "com/example/keelson/keelson/core/checkpoint/StateFiles" = some m.cls := findClass_of_methodNamed Bd.named
  have hnm := (name_of_methodNamed Bd.named Bd.method).1
  have X0 : Stand p l e ({ frames := 0, cells := 0, slots := 0, locals := 0 } : Room) s m #[(.ref a1), (.int (Int32.ofNat n))] below meth c s₁ [] 0 0 := Stand.of_body Bd
  have e0 : s₁.heap = h0 := by rw [← hh, Bd.state]; rfl
  have N0 := Fr.nil n0
  have pre0 : ∀ t, Steps p.tables e below (s₁.setTop (mkF m 0 #[.val (.ref a1), .val (.int (Int32.ofNat n)), .unset, .unset, .unset] [])) t → Steps p.tables e below (s₁.setTop (entryFrame m #[(.ref a1), (.int (Int32.ofNat n))] 5)) t := fun t k => castTop (ef3 m a1 (Int32.ofNat n)) k
  have hin : ∀ i, i < 8 → ¬ (Int32.ofNat i < 0 ∨ cl.slots.size ≤ (Int32.ofNat i).toNatClampNeg) := fun i hi => by
    rw [Sz, own_n32 i (by omega)]
    exact fun q => q.elim (own_nn i (by omega)) (fun q => by omega)
  have hats : ∀ i, i < 8 → cl.slots[(Int32.ofNat i).toNatClampNeg]? = some (.int (f i)) := fun i hi => by rw [own_n32 i (by omega)]; exact hat i hi
  have loop : ∀ (k t : Nat) (T1 : State) (L1 : List Loc), t + k = n → Stand p l e ({ frames := 0, cells := 0, slots := 0, locals := 0 } : Room) s m #[(.ref a1), (.int (Int32.ofNat n))] below meth c T1 L1 0 0 → T1.heap = h0 → Fr n0 L1 → ∃ (T' : State) (L' : List Loc), Stand p l e ({ frames := 0, cells := 0, slots := 0, locals := 0 } : Room) s m #[(.ref a1), (.int (Int32.ofNat n))] below meth c T' L' 0 0 ∧ T'.heap = h0 ∧ Fr n0 L' ∧ ∀ target, Steps p.tables e below (T'.setTop (mkF m 37 #[.val (.ref a1), .val (.int (Int32.ofNat n)), .val (.long (own_h f n)), .second, .val (.int (Int32.ofNat n))] [])) target → Steps p.tables e below (T1.setTop (mkF m 7 #[.val (.ref a1), .val (.int (Int32.ofNat n)), .val (.long (own_h f t)), .second, .val (.int (Int32.ofNat t))] [])) target := by
    intro k
    induction k with
    | zero =>
      intro t T1 L1 hk Xa ea Na
      have ht : t = n := by omega
      refine ⟨T1, L1, Xa, ea, Na, fun target kt => ?_⟩
      rw [ht]
      show Steps p.tables e below (T1.setTop (mkF m 7 #[.val (.ref a1), .val (.int (Int32.ofNat n)), .val (.long (own_h f n)), .second, .val (.int (Int32.ofNat n))] [])) _
      refine XS.iload Xa.here hx rfl (hb hby d3_7) rfl ?_
      show Steps p.tables e below (T1.setTop (mkF m 9 #[.val (.ref a1), .val (.int (Int32.ofNat n)), .val (.long (own_h f n)), .second, .val (.int (Int32.ofNat n))] [(.int (Int32.ofNat n))])) _
      refine XS.iloadN Xa.here hx rfl (hb hby d3_9) rfl ?_
      show Steps p.tables e below (T1.setTop (mkF m 10 #[.val (.ref a1), .val (.int (Int32.ofNat n)), .val (.long (own_h f n)), .second, .val (.int (Int32.ofNat n))] [(.int (Int32.ofNat n)), (.int (Int32.ofNat n))])) _
      refine XS.icmpYes Xa.here hx rfl (pc0 := 10) (pc' := 37) rfl (hb hby d3_10) rfl (flt ((Int32.lt_irrefl) : ¬ ((Int32.ofNat n) < (Int32.ofNat n)))).2.1 (by decide) (by decide) ?_
      exact kt
    | succ k ih =>
      intro t T1 L1 hk Xa ea Na
      obtain ⟨T', L', X', e', N', st'⟩ := ih (t + 1) T1 _ (by omega) Xa ea Na
      refine ⟨T', L', X', e', N', fun target kt => ?_⟩
      show Steps p.tables e below (T1.setTop (mkF m 7 #[.val (.ref a1), .val (.int (Int32.ofNat n)), .val (.long (own_h f t)), .second, .val (.int (Int32.ofNat t))] [])) _
      refine XS.iload Xa.here hx rfl (hb hby d3_7) rfl ?_
      show Steps p.tables e below (T1.setTop (mkF m 9 #[.val (.ref a1), .val (.int (Int32.ofNat n)), .val (.long (own_h f t)), .second, .val (.int (Int32.ofNat t))] [(.int (Int32.ofNat t))])) _
      refine XS.iloadN Xa.here hx rfl (hb hby d3_9) rfl ?_
      show Steps p.tables e below (T1.setTop (mkF m 10 #[.val (.ref a1), .val (.int (Int32.ofNat n)), .val (.long (own_h f t)), .second, .val (.int (Int32.ofNat t))] [(.int (Int32.ofNat n)), (.int (Int32.ofNat t))])) _
      refine XS.icmpNo Xa.here hx rfl (hb hby d3_10) rfl (tlt ((own_lti n hn t (by omega)) : (Int32.ofNat t) < (Int32.ofNat n))).2.1 ?_
      show Steps p.tables e below (T1.setTop (mkF m 13 #[.val (.ref a1), .val (.int (Int32.ofNat n)), .val (.long (own_h f t)), .second, .val (.int (Int32.ofNat t))] [])) _
      refine XS.lloadN Xa.here hx rfl (hb hby d3_13) rfl ?_
      show Steps p.tables e below (T1.setTop (mkF m 14 #[.val (.ref a1), .val (.int (Int32.ofNat n)), .val (.long (own_h f t)), .second, .val (.int (Int32.ofNat t))] [(.long (own_h f t))])) _
      refine XS.aloadN Xa.here hx rfl (hb hby d3_14) rfl rfl ?_
      show Steps p.tables e below (T1.setTop (mkF m 15 #[.val (.ref a1), .val (.int (Int32.ofNat n)), .val (.long (own_h f t)), .second, .val (.int (Int32.ofNat t))] [(.ref a1), (.long (own_h f t))])) _
      refine XS.iload Xa.here hx rfl (hb hby d3_15) rfl ?_
      show Steps p.tables e below (T1.setTop (mkF m 17 #[.val (.ref a1), .val (.int (Int32.ofNat n)), .val (.long (own_h f t)), .second, .val (.int (Int32.ofNat t))] [(.int (Int32.ofNat t)), (.ref a1), (.long (own_h f t))])) _
      refine Xa.baloadBytes hx (j := (Int32.ofNat t)) (v := (.int (f t))) (by rw [ea]; exact Ar.1) (State.isArrayOf_alike hZ.alike Ar.2.1) Ar.2.2 (hin t (by omega)) (hats t (by omega)) (g := (mkF m 17 #[.val (.ref a1), .val (.int (Int32.ofNat n)), .val (.long (own_h f t)), .second, .val (.int (Int32.ofNat t))] [(.int (Int32.ofNat t)), (.ref a1), (.long (own_h f t))])) rfl rfl (hb hby d3_17) _ ?_
      show Steps p.tables e below (T1.setTop (mkF m 18 #[.val (.ref a1), .val (.int (Int32.ofNat n)), .val (.long (own_h f t)), .second, .val (.int (Int32.ofNat t))] [(.int (f t)), (.long (own_h f t))])) _
      refine XS.sipush Xa.here hx rfl (hb hby d3_18) ?_
      show Steps p.tables e below (T1.setTop (mkF m 21 #[.val (.ref a1), .val (.int (Int32.ofNat n)), .val (.long (own_h f t)), .second, .val (.int (Int32.ofNat t))] [(.int (255 : Int32)), (.int (f t)), (.long (own_h f t))])) _
      refine XS.iand Xa.here hx rfl (hb hby d3_21) rfl ?_
      show Steps p.tables e below (T1.setTop (mkF m 22 #[.val (.ref a1), .val (.int (Int32.ofNat n)), .val (.long (own_h f t)), .second, .val (.int (Int32.ofNat t))] [(.int ((f t) &&& (255 : Int32))), (.long (own_h f t))])) _
      refine XS.i2l Xa.here hx rfl (hb hby d3_22) rfl ?_
      show Steps p.tables e below (T1.setTop (mkF m 23 #[.val (.ref a1), .val (.int (Int32.ofNat n)), .val (.long (own_h f t)), .second, .val (.int (Int32.ofNat t))] [(.long (((f t) &&& (255 : Int32)).toInt64)), (.long (own_h f t))])) _
      refine XS.lxor Xa.here hx rfl (hb hby d3_23) rfl ?_
      show Steps p.tables e below (T1.setTop (mkF m 24 #[.val (.ref a1), .val (.int (Int32.ofNat n)), .val (.long (own_h f t)), .second, .val (.int (Int32.ofNat t))] [(.long ((own_h f t) ^^^ (((f t) &&& (255 : Int32)).toInt64)))])) _
      refine XS.lstoreN Xa.here hx rfl (hb hby d3_24) rfl (l' := #[.val (.ref a1), .val (.int (Int32.ofNat n)), .val (.long ((own_h f t) ^^^ (((f t) &&& (255 : Int32)).toInt64))), .second, .val (.int (Int32.ofNat t))]) rfl ?_
      show Steps p.tables e below (T1.setTop (mkF m 25 #[.val (.ref a1), .val (.int (Int32.ofNat n)), .val (.long ((own_h f t) ^^^ (((f t) &&& (255 : Int32)).toInt64))), .second, .val (.int (Int32.ofNat t))] [])) _
      refine XS.lloadN Xa.here hx rfl (hb hby d3_25) rfl ?_
      show Steps p.tables e below (T1.setTop (mkF m 26 #[.val (.ref a1), .val (.int (Int32.ofNat n)), .val (.long ((own_h f t) ^^^ (((f t) &&& (255 : Int32)).toInt64))), .second, .val (.int (Int32.ofNat t))] [(.long ((own_h f t) ^^^ (((f t) &&& (255 : Int32)).toInt64)))])) _
      refine Xa.ldc2Long hx hown (mvT hZ (hw _ (List.mem_of_getElem? (i := 13) rfl))) (g := (mkF m 26 #[.val (.ref a1), .val (.int (Int32.ofNat n)), .val (.long ((own_h f t) ^^^ (((f t) &&& (255 : Int32)).toInt64))), .second, .val (.int (Int32.ofNat t))] [(.long ((own_h f t) ^^^ (((f t) &&& (255 : Int32)).toInt64)))])) rfl (hb hby d3_26) _ ?_
      show Steps p.tables e below (T1.setTop (mkF m 29 #[.val (.ref a1), .val (.int (Int32.ofNat n)), .val (.long ((own_h f t) ^^^ (((f t) &&& (255 : Int32)).toInt64))), .second, .val (.int (Int32.ofNat t))] [(.long (1099511628211 : Int64)), (.long ((own_h f t) ^^^ (((f t) &&& (255 : Int32)).toInt64)))])) _
      refine XS.lmul Xa.here hx rfl (hb hby d3_29) rfl ?_
      show Steps p.tables e below (T1.setTop (mkF m 30 #[.val (.ref a1), .val (.int (Int32.ofNat n)), .val (.long ((own_h f t) ^^^ (((f t) &&& (255 : Int32)).toInt64))), .second, .val (.int (Int32.ofNat t))] [(.long (((own_h f t) ^^^ (((f t) &&& (255 : Int32)).toInt64)) * (1099511628211 : Int64)))])) _
      refine XS.lstoreN Xa.here hx rfl (hb hby d3_30) rfl (l' := #[.val (.ref a1), .val (.int (Int32.ofNat n)), .val (.long (((own_h f t) ^^^ (((f t) &&& (255 : Int32)).toInt64)) * (1099511628211 : Int64))), .second, .val (.int (Int32.ofNat t))]) rfl ?_
      show Steps p.tables e below (T1.setTop (mkF m 31 #[.val (.ref a1), .val (.int (Int32.ofNat n)), .val (.long (((own_h f t) ^^^ (((f t) &&& (255 : Int32)).toInt64)) * (1099511628211 : Int64))), .second, .val (.int (Int32.ofNat t))] [])) _
      refine XS.iinc Xa.here hx rfl (hb hby d3_31) rfl (l' := #[.val (.ref a1), .val (.int (Int32.ofNat n)), .val (.long (((own_h f t) ^^^ (((f t) &&& (255 : Int32)).toInt64)) * (1099511628211 : Int64))), .second, .val (.int ((Int32.ofNat t) + (1 : Int32)))]) rfl ?_
      show Steps p.tables e below (T1.setTop (mkF m 34 #[.val (.ref a1), .val (.int (Int32.ofNat n)), .val (.long (((own_h f t) ^^^ (((f t) &&& (255 : Int32)).toInt64)) * (1099511628211 : Int64))), .second, .val (.int ((Int32.ofNat t) + (1 : Int32)))] [])) _
      refine XS.goto Xa.here hx rfl (pc0 := 34) (pc' := 7) rfl (hb hby d3_34) (by decide) (by decide) ?_
      rw [own_one]
      exact st' target kt
  obtain ⟨TL, LL, XL, eL, NL, stL⟩ := loop n 0 s₁ [] (by omega) X0 e0 N0
  obtain ⟨y, hy⟩ : ∃ y, own_h f n = y := ⟨_, rfl⟩
  obtain ⟨fs, hr, hrun, hended, hW, hsame⟩ := XL.leave (v := some (.long (own_mix y))) (fun h => by rw [Bd.returns] at h; cases h)
  refine ⟨_, _, pre0 _ ?_, hrun, hended, _, _, rfl, ?_, ⟨_, rfl⟩, hW, hsame.mono (by decide) (by decide)⟩
  · show Steps p.tables e below (s₁.setTop (mkF m 0 #[.val (.ref a1), .val (.int (Int32.ofNat n)), .unset, .unset, .unset] [])) _
    refine X0.ldc2Long hx hown (mvT hZ (hw _ (List.mem_of_getElem? (i := 12) rfl))) (g := (mkF m 0 #[.val (.ref a1), .val (.int (Int32.ofNat n)), .unset, .unset, .unset] [])) rfl (hb hby d3_0) _ ?_
    show Steps p.tables e below (s₁.setTop (mkF m 3 #[.val (.ref a1), .val (.int (Int32.ofNat n)), .unset, .unset, .unset] [(.long (-3750763034362895579 : Int64))])) _
    refine XS.lstoreN X0.here hx rfl (hb hby d3_3) rfl (l' := #[.val (.ref a1), .val (.int (Int32.ofNat n)), .val (.long (-3750763034362895579 : Int64)), .second, .unset]) rfl ?_
    show Steps p.tables e below (s₁.setTop (mkF m 4 #[.val (.ref a1), .val (.int (Int32.ofNat n)), .val (.long (-3750763034362895579 : Int64)), .second, .unset] [])) _
    refine XS.iconst X0.here hx rfl (hb hby d3_4) ?_
    show Steps p.tables e below (s₁.setTop (mkF m 5 #[.val (.ref a1), .val (.int (Int32.ofNat n)), .val (.long (-3750763034362895579 : Int64)), .second, .unset] [(.int (0 : Int32))])) _
    refine XS.istore X0.here hx rfl (hb hby d3_5) rfl (l' := #[.val (.ref a1), .val (.int (Int32.ofNat n)), .val (.long (-3750763034362895579 : Int64)), .second, .val (.int (0 : Int32))]) rfl ?_
    refine stL _ ?_
    rw [hy]
    show Steps p.tables e below (TL.setTop (mkF m 37 #[.val (.ref a1), .val (.int (Int32.ofNat n)), .val (.long y), .second, .val (.int (Int32.ofNat n))] [])) _
    refine XS.lloadN XL.here hx rfl (hb hby d3_37) rfl ?_
    show Steps p.tables e below (TL.setTop (mkF m 38 #[.val (.ref a1), .val (.int (Int32.ofNat n)), .val (.long y), .second, .val (.int (Int32.ofNat n))] [(.long y)])) _
    refine XS.lloadN XL.here hx rfl (hb hby d3_38) rfl ?_
    show Steps p.tables e below (TL.setTop (mkF m 39 #[.val (.ref a1), .val (.int (Int32.ofNat n)), .val (.long y), .second, .val (.int (Int32.ofNat n))] [(.long y), (.long y)])) _
    refine XS.bipush XL.here hx rfl (hb hby d3_39) ?_
    show Steps p.tables e below (TL.setTop (mkF m 41 #[.val (.ref a1), .val (.int (Int32.ofNat n)), .val (.long y), .second, .val (.int (Int32.ofNat n))] [(.int (33 : Int32)), (.long y), (.long y)])) _
    refine XS.lushr XL.here hx rfl (hb hby d3_41) rfl ?_
    show Steps p.tables e below (TL.setTop (mkF m 42 #[.val (.ref a1), .val (.int (Int32.ofNat n)), .val (.long y), .second, .val (.int (Int32.ofNat n))] [(.long ((y.toUInt64 >>> ((33 : Int32) &&& 0x3f).toInt64.toUInt64).toInt64)), (.long y)])) _
    refine XS.lxor XL.here hx rfl (hb hby d3_42) rfl ?_
    show Steps p.tables e below (TL.setTop (mkF m 43 #[.val (.ref a1), .val (.int (Int32.ofNat n)), .val (.long y), .second, .val (.int (Int32.ofNat n))] [(.long (y ^^^ ((y.toUInt64 >>> ((33 : Int32) &&& 0x3f).toInt64.toUInt64).toInt64)))])) _
    refine XS.lstoreN XL.here hx rfl (hb hby d3_43) rfl (l' := #[.val (.ref a1), .val (.int (Int32.ofNat n)), .val (.long (y ^^^ ((y.toUInt64 >>> ((33 : Int32) &&& 0x3f).toInt64.toUInt64).toInt64))), .second, .val (.int (Int32.ofNat n))]) rfl ?_
    show Steps p.tables e below (TL.setTop (mkF m 44 #[.val (.ref a1), .val (.int (Int32.ofNat n)), .val (.long (own_x33 y)), .second, .val (.int (Int32.ofNat n))] [])) _
    refine XS.lloadN XL.here hx rfl (hb hby d3_44) rfl ?_
    show Steps p.tables e below (TL.setTop (mkF m 45 #[.val (.ref a1), .val (.int (Int32.ofNat n)), .val (.long (own_x33 y)), .second, .val (.int (Int32.ofNat n))] [(.long (own_x33 y))])) _
    refine XL.ldc2Long hx hown (mvT hZ (hw _ (List.mem_of_getElem? (i := 14) rfl))) (g := (mkF m 45 #[.val (.ref a1), .val (.int (Int32.ofNat n)), .val (.long (own_x33 y)), .second, .val (.int (Int32.ofNat n))] [(.long (own_x33 y))])) rfl (hb hby d3_45) _ ?_
    show Steps p.tables e below (TL.setTop (mkF m 48 #[.val (.ref a1), .val (.int (Int32.ofNat n)), .val (.long (own_x33 y)), .second, .val (.int (Int32.ofNat n))] [(.long (-49064778989728563 : Int64)), (.long (own_x33 y))])) _
    refine XS.lmul XL.here hx rfl (hb hby d3_48) rfl ?_
    show Steps p.tables e below (TL.setTop (mkF m 49 #[.val (.ref a1), .val (.int (Int32.ofNat n)), .val (.long (own_x33 y)), .second, .val (.int (Int32.ofNat n))] [(.long ((own_x33 y) * (-49064778989728563 : Int64)))])) _
    refine XS.lstoreN XL.here hx rfl (hb hby d3_49) rfl (l' := #[.val (.ref a1), .val (.int (Int32.ofNat n)), .val (.long ((own_x33 y) * (-49064778989728563 : Int64))), .second, .val (.int (Int32.ofNat n))]) rfl ?_
    show Steps p.tables e below (TL.setTop (mkF m 50 #[.val (.ref a1), .val (.int (Int32.ofNat n)), .val (.long ((own_x33 y) * (-49064778989728563 : Int64))), .second, .val (.int (Int32.ofNat n))] [])) _
    refine XS.lloadN XL.here hx rfl (hb hby d3_50) rfl ?_
    show Steps p.tables e below (TL.setTop (mkF m 51 #[.val (.ref a1), .val (.int (Int32.ofNat n)), .val (.long ((own_x33 y) * (-49064778989728563 : Int64))), .second, .val (.int (Int32.ofNat n))] [(.long ((own_x33 y) * (-49064778989728563 : Int64)))])) _
    refine XS.lloadN XL.here hx rfl (hb hby d3_51) rfl ?_
    show Steps p.tables e below (TL.setTop (mkF m 52 #[.val (.ref a1), .val (.int (Int32.ofNat n)), .val (.long ((own_x33 y) * (-49064778989728563 : Int64))), .second, .val (.int (Int32.ofNat n))] [(.long ((own_x33 y) * (-49064778989728563 : Int64))), (.long ((own_x33 y) * (-49064778989728563 : Int64)))])) _
    refine XS.bipush XL.here hx rfl (hb hby d3_52) ?_
    show Steps p.tables e below (TL.setTop (mkF m 54 #[.val (.ref a1), .val (.int (Int32.ofNat n)), .val (.long ((own_x33 y) * (-49064778989728563 : Int64))), .second, .val (.int (Int32.ofNat n))] [(.int (33 : Int32)), (.long ((own_x33 y) * (-49064778989728563 : Int64))), (.long ((own_x33 y) * (-49064778989728563 : Int64)))])) _
    refine XS.lushr XL.here hx rfl (hb hby d3_54) rfl ?_
    show Steps p.tables e below (TL.setTop (mkF m 55 #[.val (.ref a1), .val (.int (Int32.ofNat n)), .val (.long ((own_x33 y) * (-49064778989728563 : Int64))), .second, .val (.int (Int32.ofNat n))] [(.long ((((own_x33 y) * (-49064778989728563 : Int64)).toUInt64 >>> ((33 : Int32) &&& 0x3f).toInt64.toUInt64).toInt64)), (.long ((own_x33 y) * (-49064778989728563 : Int64)))])) _
    refine XS.lxor XL.here hx rfl (hb hby d3_55) rfl ?_
    show Steps p.tables e below (TL.setTop (mkF m 56 #[.val (.ref a1), .val (.int (Int32.ofNat n)), .val (.long ((own_x33 y) * (-49064778989728563 : Int64))), .second, .val (.int (Int32.ofNat n))] [(.long (((own_x33 y) * (-49064778989728563 : Int64)) ^^^ ((((own_x33 y) * (-49064778989728563 : Int64)).toUInt64 >>> ((33 : Int32) &&& 0x3f).toInt64.toUInt64).toInt64)))])) _
    refine XS.lstoreN XL.here hx rfl (hb hby d3_56) rfl (l' := #[.val (.ref a1), .val (.int (Int32.ofNat n)), .val (.long (((own_x33 y) * (-49064778989728563 : Int64)) ^^^ ((((own_x33 y) * (-49064778989728563 : Int64)).toUInt64 >>> ((33 : Int32) &&& 0x3f).toInt64.toUInt64).toInt64))), .second, .val (.int (Int32.ofNat n))]) rfl ?_
    show Steps p.tables e below (TL.setTop (mkF m 57 #[.val (.ref a1), .val (.int (Int32.ofNat n)), .val (.long (own_x33 ((own_x33 y) * (-49064778989728563 : Int64)))), .second, .val (.int (Int32.ofNat n))] [])) _
    refine XS.lloadN XL.here hx rfl (hb hby d3_57) rfl ?_
    show Steps p.tables e below (TL.setTop (mkF m 58 #[.val (.ref a1), .val (.int (Int32.ofNat n)), .val (.long (own_x33 ((own_x33 y) * (-49064778989728563 : Int64)))), .second, .val (.int (Int32.ofNat n))] [(.long (own_x33 ((own_x33 y) * (-49064778989728563 : Int64))))])) _
    refine XL.ldc2Long hx hown (mvT hZ (hw _ (List.mem_of_getElem? (i := 15) rfl))) (g := (mkF m 58 #[.val (.ref a1), .val (.int (Int32.ofNat n)), .val (.long (own_x33 ((own_x33 y) * (-49064778989728563 : Int64)))), .second, .val (.int (Int32.ofNat n))] [(.long (own_x33 ((own_x33 y) * (-49064778989728563 : Int64))))])) rfl (hb hby d3_58) _ ?_
    show Steps p.tables e below (TL.setTop (mkF m 61 #[.val (.ref a1), .val (.int (Int32.ofNat n)), .val (.long (own_x33 ((own_x33 y) * (-49064778989728563 : Int64)))), .second, .val (.int (Int32.ofNat n))] [(.long (-4265267296055464877 : Int64)), (.long (own_x33 ((own_x33 y) * (-49064778989728563 : Int64))))])) _
    refine XS.lmul XL.here hx rfl (hb hby d3_61) rfl ?_
    show Steps p.tables e below (TL.setTop (mkF m 62 #[.val (.ref a1), .val (.int (Int32.ofNat n)), .val (.long (own_x33 ((own_x33 y) * (-49064778989728563 : Int64)))), .second, .val (.int (Int32.ofNat n))] [(.long ((own_x33 ((own_x33 y) * (-49064778989728563 : Int64))) * (-4265267296055464877 : Int64)))])) _
    refine XS.lstoreN XL.here hx rfl (hb hby d3_62) rfl (l' := #[.val (.ref a1), .val (.int (Int32.ofNat n)), .val (.long ((own_x33 ((own_x33 y) * (-49064778989728563 : Int64))) * (-4265267296055464877 : Int64))), .second, .val (.int (Int32.ofNat n))]) rfl ?_
    show Steps p.tables e below (TL.setTop (mkF m 63 #[.val (.ref a1), .val (.int (Int32.ofNat n)), .val (.long ((own_x33 ((own_x33 y) * (-49064778989728563 : Int64))) * (-4265267296055464877 : Int64))), .second, .val (.int (Int32.ofNat n))] [])) _
    refine XS.lloadN XL.here hx rfl (hb hby d3_63) rfl ?_
    show Steps p.tables e below (TL.setTop (mkF m 64 #[.val (.ref a1), .val (.int (Int32.ofNat n)), .val (.long ((own_x33 ((own_x33 y) * (-49064778989728563 : Int64))) * (-4265267296055464877 : Int64))), .second, .val (.int (Int32.ofNat n))] [(.long ((own_x33 ((own_x33 y) * (-49064778989728563 : Int64))) * (-4265267296055464877 : Int64)))])) _
    refine XS.lloadN XL.here hx rfl (hb hby d3_64) rfl ?_
    show Steps p.tables e below (TL.setTop (mkF m 65 #[.val (.ref a1), .val (.int (Int32.ofNat n)), .val (.long ((own_x33 ((own_x33 y) * (-49064778989728563 : Int64))) * (-4265267296055464877 : Int64))), .second, .val (.int (Int32.ofNat n))] [(.long ((own_x33 ((own_x33 y) * (-49064778989728563 : Int64))) * (-4265267296055464877 : Int64))), (.long ((own_x33 ((own_x33 y) * (-49064778989728563 : Int64))) * (-4265267296055464877 : Int64)))])) _
    refine XS.bipush XL.here hx rfl (hb hby d3_65) ?_
    show Steps p.tables e below (TL.setTop (mkF m 67 #[.val (.ref a1), .val (.int (Int32.ofNat n)), .val (.long ((own_x33 ((own_x33 y) * (-49064778989728563 : Int64))) * (-4265267296055464877 : Int64))), .second, .val (.int (Int32.ofNat n))] [(.int (33 : Int32)), (.long ((own_x33 ((own_x33 y) * (-49064778989728563 : Int64))) * (-4265267296055464877 : Int64))), (.long ((own_x33 ((own_x33 y) * (-49064778989728563 : Int64))) * (-4265267296055464877 : Int64)))])) _
    refine XS.lushr XL.here hx rfl (hb hby d3_67) rfl ?_
    show Steps p.tables e below (TL.setTop (mkF m 68 #[.val (.ref a1), .val (.int (Int32.ofNat n)), .val (.long ((own_x33 ((own_x33 y) * (-49064778989728563 : Int64))) * (-4265267296055464877 : Int64))), .second, .val (.int (Int32.ofNat n))] [(.long ((((own_x33 ((own_x33 y) * (-49064778989728563 : Int64))) * (-4265267296055464877 : Int64)).toUInt64 >>> ((33 : Int32) &&& 0x3f).toInt64.toUInt64).toInt64)), (.long ((own_x33 ((own_x33 y) * (-49064778989728563 : Int64))) * (-4265267296055464877 : Int64)))])) _
    refine XS.lxor XL.here hx rfl (hb hby d3_68) rfl ?_
    show Steps p.tables e below (TL.setTop (mkF m 69 #[.val (.ref a1), .val (.int (Int32.ofNat n)), .val (.long ((own_x33 ((own_x33 y) * (-49064778989728563 : Int64))) * (-4265267296055464877 : Int64))), .second, .val (.int (Int32.ofNat n))] [(.long (((own_x33 ((own_x33 y) * (-49064778989728563 : Int64))) * (-4265267296055464877 : Int64)) ^^^ ((((own_x33 ((own_x33 y) * (-49064778989728563 : Int64))) * (-4265267296055464877 : Int64)).toUInt64 >>> ((33 : Int32) &&& 0x3f).toInt64.toUInt64).toInt64)))])) _
    refine XS.lstoreN XL.here hx rfl (hb hby d3_69) rfl (l' := #[.val (.ref a1), .val (.int (Int32.ofNat n)), .val (.long (((own_x33 ((own_x33 y) * (-49064778989728563 : Int64))) * (-4265267296055464877 : Int64)) ^^^ ((((own_x33 ((own_x33 y) * (-49064778989728563 : Int64))) * (-4265267296055464877 : Int64)).toUInt64 >>> ((33 : Int32) &&& 0x3f).toInt64.toUInt64).toInt64))), .second, .val (.int (Int32.ofNat n))]) rfl ?_
    show Steps p.tables e below (TL.setTop (mkF m 70 #[.val (.ref a1), .val (.int (Int32.ofNat n)), .val (.long (own_x33 ((own_x33 ((own_x33 y) * (-49064778989728563 : Int64))) * (-4265267296055464877 : Int64)))), .second, .val (.int (Int32.ofNat n))] [])) _
    refine XS.lloadN XL.here hx rfl (hb hby d3_70) rfl ?_
    show Steps p.tables e below (TL.setTop (mkF m 71 #[.val (.ref a1), .val (.int (Int32.ofNat n)), .val (.long (own_x33 ((own_x33 ((own_x33 y) * (-49064778989728563 : Int64))) * (-4265267296055464877 : Int64)))), .second, .val (.int (Int32.ofNat n))] [(.long (own_x33 ((own_x33 ((own_x33 y) * (-49064778989728563 : Int64))) * (-4265267296055464877 : Int64))))])) _
    exact retOut XL hx Bd.returns rfl (by simp [Value.isRef, FieldType.isReference]) (hb hby d3_71) hr
  · show Q3 f n h0 n0 _ TL.heap _
    rw [eL]
    exact ⟨by rw [hy], NL, rfl⟩
theorem pd0_0 : parseMethodDescriptor "(JB)J" = some ⟨[.long, .byte], some .long⟩ := by decide +kernel
theorem pd0_1 : parseMethodDescriptor "([BI)J" = some ⟨[(.array .byte), .int], some .long⟩ := by decide +kernel
theorem pd0_2 : parseMethodDescriptor "(J)J" = some ⟨[.long], some .long⟩ := by decide +kernel
def Q0 (n0 : Nat) (v : Option Value) (h : Heap) (L : List Loc) : Prop := v = some (.int (1 : Int32)) ∧ Fr n0 L
theorem pn0 : plainName "com/example/keelson/keelson/core/checkpoint/StateFilesHashPinLaw" = true := by first | (simp [plainName, overriddenIn]; done) | decide +kernel
theorem ef0 (m : MethodId) (x0 : Int64) (x1 : Int32) : entryFrame m #[(.long x0), (.int x1)] maxLocals = mkF m 0 #[.val (.long x0), .second, .val (.int x1), .unset, .unset, .unset, .unset] [] := by first | (simp [entryFrame, mkF, argsToLocals, Value.category, maxLocals]; done) | rfl
set_option maxRecDepth 65536 in
set_option maxHeartbeats 40000000 in
theorem rm0 (l : Launch) (Z : State) (a0 : Array Value) (hw : ∀ d ∈ tables_1, d.before a0 Z = true) (ws : List Jvm.Cond) (q1 : Int64) (p2 : Int32) (h0 : Heap) (n0 : Nat) (Z0 : n0 ≤ h0.size)  :
    MetFree l x (head1 (Jvm.Cond.code x code maxLocals ret :: ws) room_1) (fun a U => a = #[(.long q1), (.int p2)] ∧ Z.Warmed39 U.vm ∧ U.heap = h0) (fun _ _ _ _ _ => True) (fun _ U o U' => ∃ v L, o = .returned v ∧ Q0 n0 v U'.heap L ∧ FrameEnd U o U' L room_1.cells room_1.slots) := by
  refine MetFree.of_bodySF (plainFor_of_name pn0) hisR ?_
  intro p e s m args below meth c s₁ Bd hml0 hP hK
  obtain ⟨rfl, hZ, hh⟩ := hP
  have hx := Bd.exec
  have hby := Bd.bytes
  have hml : c.maxLocals = 7 := hml0
  have hown : s.vm.findClass "com/example/keelson/keelson/core/checkpoint/StateFilesHashPinLaw" = some m.cls := findClass_of_methodNamed Bd.named
  have hnm := (name_of_methodNamed Bd.named Bd.method).1
  have X0 : Stand p l e room_1 s m #[(.long q1), (.int p2)] below meth c s₁ [] 0 0 := Stand.of_body Bd
  have e0 : s₁.heap = h0 := by rw [← hh, Bd.state]; rfl
  have N0 := Fr.nil n0
  have pre0 : ∀ t, Steps p.tables e below (s₁.setTop (mkF m 0 #[.val (.long q1), .second, .val (.int p2), .unset, .unset, .unset, .unset] [])) t → Steps p.tables e below (s₁.setTop (entryFrame m #[(.long q1), (.int p2)] maxLocals)) t := fun t k => castTop (ef0 m q1 p2) k
  obtain ⟨T1, h1, k1, X1, e1, E1, A1, st1⟩ := newP X0 hx hZ (hw _ (List.mem_of_getElem? (i := 0) rfl)) e0 (g := (mkF m 2 #[.val (.long q1), .second, .val (.int p2), .unset, .unset, .unset, .unset] [(.int (8 : Int32))])) rfl (hb hby at_2) rfl (by decide) (cap := 8) (by decide) (by decide) (by decide) (by decide)
  obtain ⟨b1, g1⟩ : ∃ z, z = h0.size := ⟨_, rfl⟩
  rw [← g1] at A1 st1
  have gn_b1 : n0 ≤ b1 := Nat.le_trans Z0 (Nat.le_of_eq g1.symm)
  have Zs1 : n0 ≤ h1.size := Nat.le_trans Z0 E1.1
  have Va_b1 : Arv Z h1 b1 k1 .byte (8 : Int32) [(.int (0 : Int32)), (.int (0 : Int32)), (.int (0 : Int32)), (.int (0 : Int32)), (.int (0 : Int32)), (.int (0 : Int32)), (.int (0 : Int32)), (.int (0 : Int32))] (.int (0 : Int32)) := (Arv.new A1 (by decide)).pad (pad_rep [] (.int (0 : Int32)) 8)
  obtain ⟨c0, ec0⟩ : ∃ z : Int32, z = ((q1.toInt32).toInt8.toInt32) := ⟨_, rfl⟩
  obtain ⟨cl2, Ar2, q2, Sz2, Nn2, Hs2, Gs2⟩ := Va_b1
  have hin2 : ¬ ((0 : Int32) < 0 ∨ cl2.slots.size ≤ ((0 : Int32)).toNatClampNeg) := inb_of Sz2 ⟨by decide, by decide⟩
  obtain ⟨T3, h3, X3, e3, W3, st3⟩ := stB X1 hx hZ e1 Ar2 (j := (0 : Int32)) hin2 (g := (mkF m 10 #[.val (.long q1), .second, .val (.int p2), .val (.ref b1), .unset, .unset, .unset] [(.int c0), (.int (0 : Int32)), (.ref b1)])) rfl rfl (hb hby at_10)
  have Va_b1_W3 := Arv.set Ar2 q2 Sz2 Nn2 Hs2 Gs2 (fits_nar_byte _) W3 0 rfl (Nat.le_of_ble_eq_true rfl)
  have N3 := Fr.snoc X3 N0 gn_b1
  have Zs3 : n0 ≤ h3.size := Nat.le_trans Zs1 (Keep.of_wr W3).1
  obtain ⟨c1, ec1⟩ : ∃ z : Int32, z = ((((q1.toUInt64 >>> ((8 : Int32) &&& 0x3f).toInt64.toUInt64).toInt64).toInt32).toInt8.toInt32) := ⟨_, rfl⟩
  obtain ⟨cl4, Ar4, q4, Sz4, Nn4, Hs4, Gs4⟩ := Va_b1_W3
  have hin4 : ¬ ((1 : Int32) < 0 ∨ cl4.slots.size ≤ ((1 : Int32)).toNatClampNeg) := inb_of Sz4 ⟨by decide, by decide⟩
  obtain ⟨T5, h5, X5, e5, W5, st5⟩ := stB X3 hx hZ e3 Ar4 (j := (1 : Int32)) hin4 (g := (mkF m 19 #[.val (.long q1), .second, .val (.int p2), .val (.ref b1), .unset, .unset, .unset] [(.int c1), (.int (1 : Int32)), (.ref b1)])) rfl rfl (hb hby at_19)
  have Va_b1_W5 := Arv.set Ar4 q4 Sz4 Nn4 Hs4 Gs4 (fits_nar_byte _) W5 1 rfl (Nat.le_of_ble_eq_true rfl)
  have N5 := Fr.snoc X5 N3 gn_b1
  have Zs5 : n0 ≤ h5.size := Nat.le_trans Zs3 (Keep.of_wr W5).1
  obtain ⟨c2, ec2⟩ : ∃ z : Int32, z = ((((q1.toUInt64 >>> ((16 : Int32) &&& 0x3f).toInt64.toUInt64).toInt64).toInt32).toInt8.toInt32) := ⟨_, rfl⟩
  obtain ⟨cl6, Ar6, q6, Sz6, Nn6, Hs6, Gs6⟩ := Va_b1_W5
  have hin6 : ¬ ((2 : Int32) < 0 ∨ cl6.slots.size ≤ ((2 : Int32)).toNatClampNeg) := inb_of Sz6 ⟨by decide, by decide⟩
  obtain ⟨T7, h7, X7, e7, W7, st7⟩ := stB X5 hx hZ e5 Ar6 (j := (2 : Int32)) hin6 (g := (mkF m 28 #[.val (.long q1), .second, .val (.int p2), .val (.ref b1), .unset, .unset, .unset] [(.int c2), (.int (2 : Int32)), (.ref b1)])) rfl rfl (hb hby at_28)
  have Va_b1_W7 := Arv.set Ar6 q6 Sz6 Nn6 Hs6 Gs6 (fits_nar_byte _) W7 2 rfl (Nat.le_of_ble_eq_true rfl)
  have N7 := Fr.snoc X7 N5 gn_b1
  have Zs7 : n0 ≤ h7.size := Nat.le_trans Zs5 (Keep.of_wr W7).1
  obtain ⟨c3, ec3⟩ : ∃ z : Int32, z = ((((q1.toUInt64 >>> ((24 : Int32) &&& 0x3f).toInt64.toUInt64).toInt64).toInt32).toInt8.toInt32) := ⟨_, rfl⟩
  obtain ⟨cl8, Ar8, q8, Sz8, Nn8, Hs8, Gs8⟩ := Va_b1_W7
  have hin8 : ¬ ((3 : Int32) < 0 ∨ cl8.slots.size ≤ ((3 : Int32)).toNatClampNeg) := inb_of Sz8 ⟨by decide, by decide⟩
  obtain ⟨T9, h9, X9, e9, W9, st9⟩ := stB X7 hx hZ e7 Ar8 (j := (3 : Int32)) hin8 (g := (mkF m 37 #[.val (.long q1), .second, .val (.int p2), .val (.ref b1), .unset, .unset, .unset] [(.int c3), (.int (3 : Int32)), (.ref b1)])) rfl rfl (hb hby at_37)
  have Va_b1_W9 := Arv.set Ar8 q8 Sz8 Nn8 Hs8 Gs8 (fits_nar_byte _) W9 3 rfl (Nat.le_of_ble_eq_true rfl)
  have N9 := Fr.snoc X9 N7 gn_b1
  have Zs9 : n0 ≤ h9.size := Nat.le_trans Zs7 (Keep.of_wr W9).1
  obtain ⟨c4, ec4⟩ : ∃ z : Int32, z = ((((q1.toUInt64 >>> ((32 : Int32) &&& 0x3f).toInt64.toUInt64).toInt64).toInt32).toInt8.toInt32) := ⟨_, rfl⟩
  obtain ⟨cl10, Ar10, q10, Sz10, Nn10, Hs10, Gs10⟩ := Va_b1_W9
  have hin10 : ¬ ((4 : Int32) < 0 ∨ cl10.slots.size ≤ ((4 : Int32)).toNatClampNeg) := inb_of Sz10 ⟨by decide, by decide⟩
  obtain ⟨T11, h11, X11, e11, W11, st11⟩ := stB X9 hx hZ e9 Ar10 (j := (4 : Int32)) hin10 (g := (mkF m 46 #[.val (.long q1), .second, .val (.int p2), .val (.ref b1), .unset, .unset, .unset] [(.int c4), (.int (4 : Int32)), (.ref b1)])) rfl rfl (hb hby at_46)
  have Va_b1_W11 := Arv.set Ar10 q10 Sz10 Nn10 Hs10 Gs10 (fits_nar_byte _) W11 4 rfl (Nat.le_of_ble_eq_true rfl)
  have N11 := Fr.snoc X11 N9 gn_b1
  have Zs11 : n0 ≤ h11.size := Nat.le_trans Zs9 (Keep.of_wr W11).1
  obtain ⟨c5, ec5⟩ : ∃ z : Int32, z = ((((q1.toUInt64 >>> ((40 : Int32) &&& 0x3f).toInt64.toUInt64).toInt64).toInt32).toInt8.toInt32) := ⟨_, rfl⟩
  obtain ⟨cl12, Ar12, q12, Sz12, Nn12, Hs12, Gs12⟩ := Va_b1_W11
  have hin12 : ¬ ((5 : Int32) < 0 ∨ cl12.slots.size ≤ ((5 : Int32)).toNatClampNeg) := inb_of Sz12 ⟨by decide, by decide⟩
  obtain ⟨T13, h13, X13, e13, W13, st13⟩ := stB X11 hx hZ e11 Ar12 (j := (5 : Int32)) hin12 (g := (mkF m 55 #[.val (.long q1), .second, .val (.int p2), .val (.ref b1), .unset, .unset, .unset] [(.int c5), (.int (5 : Int32)), (.ref b1)])) rfl rfl (hb hby at_55)
  have Va_b1_W13 := Arv.set Ar12 q12 Sz12 Nn12 Hs12 Gs12 (fits_nar_byte _) W13 5 rfl (Nat.le_of_ble_eq_true rfl)
  have N13 := Fr.snoc X13 N11 gn_b1
  have Zs13 : n0 ≤ h13.size := Nat.le_trans Zs11 (Keep.of_wr W13).1
  obtain ⟨c6, ec6⟩ : ∃ z : Int32, z = ((((q1.toUInt64 >>> ((48 : Int32) &&& 0x3f).toInt64.toUInt64).toInt64).toInt32).toInt8.toInt32) := ⟨_, rfl⟩
  obtain ⟨cl14, Ar14, q14, Sz14, Nn14, Hs14, Gs14⟩ := Va_b1_W13
  have hin14 : ¬ ((6 : Int32) < 0 ∨ cl14.slots.size ≤ ((6 : Int32)).toNatClampNeg) := inb_of Sz14 ⟨by decide, by decide⟩
  obtain ⟨T15, h15, X15, e15, W15, st15⟩ := stB X13 hx hZ e13 Ar14 (j := (6 : Int32)) hin14 (g := (mkF m 65 #[.val (.long q1), .second, .val (.int p2), .val (.ref b1), .unset, .unset, .unset] [(.int c6), (.int (6 : Int32)), (.ref b1)])) rfl rfl (hb hby at_65)
  have Va_b1_W15 := Arv.set Ar14 q14 Sz14 Nn14 Hs14 Gs14 (fits_nar_byte _) W15 6 rfl (Nat.le_of_ble_eq_true rfl)
  have N15 := Fr.snoc X15 N13 gn_b1
  have Zs15 : n0 ≤ h15.size := Nat.le_trans Zs13 (Keep.of_wr W15).1
  obtain ⟨c7, ec7⟩ : ∃ z : Int32, z = ((((q1.toUInt64 >>> ((56 : Int32) &&& 0x3f).toInt64.toUInt64).toInt64).toInt32).toInt8.toInt32) := ⟨_, rfl⟩
  obtain ⟨cl16, Ar16, q16, Sz16, Nn16, Hs16, Gs16⟩ := Va_b1_W15
  have hin16 : ¬ ((7 : Int32) < 0 ∨ cl16.slots.size ≤ ((7 : Int32)).toNatClampNeg) := inb_of Sz16 ⟨by decide, by decide⟩
  obtain ⟨T17, h17, X17, e17, W17, st17⟩ := stB X15 hx hZ e15 Ar16 (j := (7 : Int32)) hin16 (g := (mkF m 75 #[.val (.long q1), .second, .val (.int p2), .val (.ref b1), .unset, .unset, .unset] [(.int c7), (.int (7 : Int32)), (.ref b1)])) rfl rfl (hb hby at_75)
  have Va_b1_W17 := Arv.set Ar16 q16 Sz16 Nn16 Hs16 Gs16 (fits_nar_byte _) W17 7 rfl (Nat.le_of_ble_eq_true rfl)
  have N17 := Fr.snoc X17 N15 gn_b1
  have Zs17 : n0 ≤ h17.size := Nat.le_trans Zs15 (Keep.of_wr W17).1
  obtain ⟨n, hn, hm⟩ := own_rem p2
  obtain ⟨cl, Ar, qk, Sz0, Nn, Hs, Gs⟩ := Va_b1_W17
  have Sz : cl.slots.size = 8 := Sz0
  obtain ⟨f, hf⟩ : ∃ f : Nat → Int32, f = fun j => ([nar .byte c0, nar .byte c1, nar .byte c2, nar .byte c3, nar .byte c4, nar .byte c5, nar .byte c6, nar .byte c7] : List Int32).getD j 0 := ⟨_, rfl⟩
  have hat : ∀ j, j < 8 → cl.slots[j]? = some (.int (f j)) := fun j hj => by
    rw [Hs j (by rw [Sz]; exact hj), hf]
    match j, hj with
    | 0, _ | 1, _ | 2, _ | 3, _ | 4, _ | 5, _ | 6, _ | 7, _ => rfl
  have hin : ∀ i, i < 8 → ¬ (Int32.ofNat i < 0 ∨ cl.slots.size ≤ (Int32.ofNat i).toNatClampNeg) := fun i hi => by
    rw [Sz, own_n32 i (by omega)]
    exact fun q => q.elim (own_nn i (by omega)) (fun q => by omega)
  have hats : ∀ i, i < 8 → cl.slots[(Int32.ofNat i).toNatClampNeg]? = some (.int (f i)) := fun i hi => by rw [own_n32 i (by omega)]; exact hat i hi
  have hm0 : own_h f (min 0 n) = (-3750763034362895579 : Int64) := by rw [Nat.zero_min]; rfl
  obtain ⟨T18, L18, X18, e18, N18, st18⟩ : ∃ (T' : State) (L' : List Loc), Stand p l e room_1 s m #[(.long q1), (.int p2)] below meth c T' L' 1 8 ∧ T'.heap = h17 ∧ Fr n0 L' ∧ ∀ target, Steps p.tables e below (T'.setTop (mkF m 105 #[.val (.long q1), .second, .val (.int p2), .val (.ref b1), .val (.int (Int32.ofNat n)), .val (.long (own_h f (min 1 n))), .second] [])) target → Steps p.tables e below (T17.setTop (mkF m 90 #[.val (.long q1), .second, .val (.int p2), .val (.ref b1), .val (.int (Int32.ofNat n)), .val (.long (own_h f (min 0 n))), .second] [])) target := by
    by_cases hc0 : (0 : Int32) < (Int32.ofNat n)
    · have hk0 : 0 < n := own_lt n hn 0 (by decide) hc0
      have hma0 : own_h f (min 0 n) = own_h f 0 := by rw [Nat.min_eq_left (by omega)]
      have hmb0 : own_h f (min 1 n) = own_step (own_h f 0) (f 0) := by rw [Nat.min_eq_left (by omega)]; rfl
      obtain ⟨_, _, ⟨T19, L19, k19, n19⟩, -, X19, ⟨Lc19, hQ19, l19, y19, z19⟩, st19⟩ := Jvm.LawKit.callS X17 hx (y := (⟨"com/example/keelson/keelson/core/checkpoint/StateFilesHashPinLaw", "step", "(JB)J"⟩ : MethodName)) hown (mvT hZ (hw _ (List.mem_of_getElem? (i := 3) rfl))) (mvT hZ (hw _ (List.mem_of_getElem? (i := 4) rfl))) (mvT hZ (hw _ (List.mem_of_getElem? (i := 5) rfl))) (mvT hZ (hw _ (List.mem_of_getElem? (i := 6) rfl))) (by decide) (backOf (W := 0) (rm1 l Z a0 hw [] (own_h f 0) (f 0) h17 n0 Zs17) hZ (hw _ (List.mem_of_getElem? (i := 6) rfl)) (hw _ (List.mem_of_getElem? (i := 5) rfl)) (by decide) (by decide)) (g := (mkF m 100 #[.val (.long q1), .second, .val (.int p2), .val (.ref b1), .val (.int (Int32.ofNat n)), .val (.long (own_h f 0)), .second] [(.int (f 0)), (.long (own_h f 0))])) rfl (by rw [hml]; rfl) (argsL := [(.long (own_h f 0)), (.int (f 0))]) (rest := []) (lenOf pd0_0 rfl) rfl (by show 2 * 0 + _ ≤ _; exact Nat.le_of_eq rfl) (hb hby at_100) (fun _ _ => ⟨rfl, e17, (by decide : 1 + 0 ≤ _), (by decide : 8 + 0 ≤ _)⟩)
      dsimp only [Pt.U, Pt.locs, Pt.cells, Pt.slots] at X19 l19 y19 z19 st19 hQ19
      subst l19 y19 z19
      obtain ⟨rfl, Nq19, e19⟩ := hQ19
      have N19 := Fr.app N17 Nq19
      refine ⟨T19, _, X19, e19, N19, fun target kt => ?_⟩
      show Steps p.tables e below (T17.setTop (mkF m 90 #[.val (.long q1), .second, .val (.int p2), .val (.ref b1), .val (.int (Int32.ofNat n)), .val (.long (own_h f (min 0 n))), .second] [])) _
      refine XS.iload X17.here hx rfl (hb hby at_90) rfl ?_
      show Steps p.tables e below (T17.setTop (mkF m 92 #[.val (.long q1), .second, .val (.int p2), .val (.ref b1), .val (.int (Int32.ofNat n)), .val (.long (own_h f (min 0 n))), .second] [(.int (Int32.ofNat n))])) _
      refine XS.ifNo X17.here hx rfl (hb hby at_92) rfl ((if0 _ _).trans (tlt (hc0 : (0 : Int32) < (Int32.ofNat n))).2.2.2) ?_
      show Steps p.tables e below (T17.setTop (mkF m 95 #[.val (.long q1), .second, .val (.int p2), .val (.ref b1), .val (.int (Int32.ofNat n)), .val (.long (own_h f (min 0 n))), .second] [])) _
      rw [hma0]
      show Steps p.tables e below (T17.setTop (mkF m 95 #[.val (.long q1), .second, .val (.int p2), .val (.ref b1), .val (.int (Int32.ofNat n)), .val (.long (own_h f 0)), .second] [])) _
      refine XS.lload X17.here hx rfl (hb hby at_95) rfl ?_
      show Steps p.tables e below (T17.setTop (mkF m 97 #[.val (.long q1), .second, .val (.int p2), .val (.ref b1), .val (.int (Int32.ofNat n)), .val (.long (own_h f 0)), .second] [(.long (own_h f 0))])) _
      refine XS.aloadN X17.here hx rfl (hb hby at_97) rfl rfl ?_
      show Steps p.tables e below (T17.setTop (mkF m 98 #[.val (.long q1), .second, .val (.int p2), .val (.ref b1), .val (.int (Int32.ofNat n)), .val (.long (own_h f 0)), .second] [(.ref b1), (.long (own_h f 0))])) _
      refine XS.iconst X17.here hx rfl (hb hby at_98) ?_
      show Steps p.tables e below (T17.setTop (mkF m 99 #[.val (.long q1), .second, .val (.int p2), .val (.ref b1), .val (.int (Int32.ofNat n)), .val (.long (own_h f 0)), .second] [(.int (0 : Int32)), (.ref b1), (.long (own_h f 0))])) _
      refine X17.baloadBytes hx (j := (0 : Int32)) (v := (.int (f 0))) (by rw [e17]; exact Ar.1) (State.isArrayOf_alike hZ.alike Ar.2.1) Ar.2.2 (hin 0 (by decide)) (hats 0 (by decide)) (g := (mkF m 99 #[.val (.long q1), .second, .val (.int p2), .val (.ref b1), .val (.int (Int32.ofNat n)), .val (.long (own_h f 0)), .second] [(.int (0 : Int32)), (.ref b1), (.long (own_h f 0))])) rfl rfl (hb hby at_99) _ ?_
      show Steps p.tables e below (T17.setTop (mkF m 100 #[.val (.long q1), .second, .val (.int p2), .val (.ref b1), .val (.int (Int32.ofNat n)), .val (.long (own_h f 0)), .second] [(.int (f 0)), (.long (own_h f 0))])) _
      refine st19 _ ?_
      show Steps p.tables e below (T19.setTop (mkF m 103 #[.val (.long q1), .second, .val (.int p2), .val (.ref b1), .val (.int (Int32.ofNat n)), .val (.long (own_h f 0)), .second] [(.long (own_step (own_h f 0) (f 0)))])) _
      refine XS.lstore X19.here hx rfl (hb hby at_103) rfl (l' := #[.val (.long q1), .second, .val (.int p2), .val (.ref b1), .val (.int (Int32.ofNat n)), .val (.long (own_step (own_h f 0) (f 0))), .second]) rfl ?_
      show Steps p.tables e below (T19.setTop (mkF m 105 #[.val (.long q1), .second, .val (.int p2), .val (.ref b1), .val (.int (Int32.ofNat n)), .val (.long (own_step (own_h f 0) (f 0))), .second] [])) _
      rw [← hmb0]
      exact kt
    · have hk0 : n ≤ 0 := own_nlt n hn 0 (by decide) hc0
      have hmb0 : own_h f (min 1 n) = own_h f (min 0 n) := by rw [Nat.min_eq_right (by omega), Nat.min_eq_right (by omega)]
      refine ⟨T17, _, X17, e17, N17, fun target kt => ?_⟩
      show Steps p.tables e below (T17.setTop (mkF m 90 #[.val (.long q1), .second, .val (.int p2), .val (.ref b1), .val (.int (Int32.ofNat n)), .val (.long (own_h f (min 0 n))), .second] [])) _
      refine XS.iload X17.here hx rfl (hb hby at_90) rfl ?_
      show Steps p.tables e below (T17.setTop (mkF m 92 #[.val (.long q1), .second, .val (.int p2), .val (.ref b1), .val (.int (Int32.ofNat n)), .val (.long (own_h f (min 0 n))), .second] [(.int (Int32.ofNat n))])) _
      refine XS.ifYes X17.here hx rfl (pc0 := 92) (pc' := 105) rfl (hb hby at_92) rfl ((if0 _ _).trans (flt (hc0 : ¬ ((0 : Int32) < (Int32.ofNat n)))).2.2.2) (by decide) (by decide) ?_
      show Steps p.tables e below (T17.setTop (mkF m 105 #[.val (.long q1), .second, .val (.int p2), .val (.ref b1), .val (.int (Int32.ofNat n)), .val (.long (own_h f (min 0 n))), .second] [])) _
      rw [← hmb0]
      exact kt
  obtain ⟨T20, L20, X20, e20, N20, st20⟩ : ∃ (T' : State) (L' : List Loc), Stand p l e room_1 s m #[(.long q1), (.int p2)] below meth c T' L' 1 8 ∧ T'.heap = h17 ∧ Fr n0 L' ∧ ∀ target, Steps p.tables e below (T'.setTop (mkF m 121 #[.val (.long q1), .second, .val (.int p2), .val (.ref b1), .val (.int (Int32.ofNat n)), .val (.long (own_h f (min 2 n))), .second] [])) target → Steps p.tables e below (T18.setTop (mkF m 105 #[.val (.long q1), .second, .val (.int p2), .val (.ref b1), .val (.int (Int32.ofNat n)), .val (.long (own_h f (min 1 n))), .second] [])) target := by
    by_cases hc1 : (1 : Int32) < (Int32.ofNat n)
    · have hk1 : 1 < n := own_lt n hn 1 (by decide) hc1
      have hma1 : own_h f (min 1 n) = own_h f 1 := by rw [Nat.min_eq_left (by omega)]
      have hmb1 : own_h f (min 2 n) = own_step (own_h f 1) (f 1) := by rw [Nat.min_eq_left (by omega)]; rfl
      obtain ⟨_, _, ⟨T21, L21, k21, n21⟩, -, X21, ⟨Lc21, hQ21, l21, y21, z21⟩, st21⟩ := Jvm.LawKit.callS X18 hx (y := (⟨"com/example/keelson/keelson/core/checkpoint/StateFilesHashPinLaw", "step", "(JB)J"⟩ : MethodName)) hown (mvT hZ (hw _ (List.mem_of_getElem? (i := 3) rfl))) (mvT hZ (hw _ (List.mem_of_getElem? (i := 4) rfl))) (mvT hZ (hw _ (List.mem_of_getElem? (i := 5) rfl))) (mvT hZ (hw _ (List.mem_of_getElem? (i := 6) rfl))) (by decide) (backOf (W := 0) (rm1 l Z a0 hw [] (own_h f 1) (f 1) h17 n0 Zs17) hZ (hw _ (List.mem_of_getElem? (i := 6) rfl)) (hw _ (List.mem_of_getElem? (i := 5) rfl)) (by decide) (by decide)) (g := (mkF m 116 #[.val (.long q1), .second, .val (.int p2), .val (.ref b1), .val (.int (Int32.ofNat n)), .val (.long (own_h f 1)), .second] [(.int (f 1)), (.long (own_h f 1))])) rfl (by rw [hml]; rfl) (argsL := [(.long (own_h f 1)), (.int (f 1))]) (rest := []) (lenOf pd0_0 rfl) rfl (by show 2 * 0 + _ ≤ _; exact Nat.le_of_eq rfl) (hb hby at_116) (fun _ _ => ⟨rfl, e18, (by decide : 1 + 0 ≤ _), (by decide : 8 + 0 ≤ _)⟩)
      dsimp only [Pt.U, Pt.locs, Pt.cells, Pt.slots] at X21 l21 y21 z21 st21 hQ21
      subst l21 y21 z21
      obtain ⟨rfl, Nq21, e21⟩ := hQ21
      have N21 := Fr.app N18 Nq21
      refine ⟨T21, _, X21, e21, N21, fun target kt => ?_⟩
      show Steps p.tables e below (T18.setTop (mkF m 105 #[.val (.long q1), .second, .val (.int p2), .val (.ref b1), .val (.int (Int32.ofNat n)), .val (.long (own_h f (min 1 n))), .second] [])) _
      refine XS.iload X18.here hx rfl (hb hby at_105) rfl ?_
      show Steps p.tables e below (T18.setTop (mkF m 107 #[.val (.long q1), .second, .val (.int p2), .val (.ref b1), .val (.int (Int32.ofNat n)), .val (.long (own_h f (min 1 n))), .second] [(.int (Int32.ofNat n))])) _
      refine XS.iconst X18.here hx rfl (hb hby at_107) ?_
      show Steps p.tables e below (T18.setTop (mkF m 108 #[.val (.long q1), .second, .val (.int p2), .val (.ref b1), .val (.int (Int32.ofNat n)), .val (.long (own_h f (min 1 n))), .second] [(.int (1 : Int32)), (.int (Int32.ofNat n))])) _
      refine XS.icmpNo X18.here hx rfl (hb hby at_108) rfl (tlt (hc1 : (1 : Int32) < (Int32.ofNat n))).2.2.2 ?_
      show Steps p.tables e below (T18.setTop (mkF m 111 #[.val (.long q1), .second, .val (.int p2), .val (.ref b1), .val (.int (Int32.ofNat n)), .val (.long (own_h f (min 1 n))), .second] [])) _
      rw [hma1]
      show Steps p.tables e below (T18.setTop (mkF m 111 #[.val (.long q1), .second, .val (.int p2), .val (.ref b1), .val (.int (Int32.ofNat n)), .val (.long (own_h f 1)), .second] [])) _
      refine XS.lload X18.here hx rfl (hb hby at_111) rfl ?_
      show Steps p.tables e below (T18.setTop (mkF m 113 #[.val (.long q1), .second, .val (.int p2), .val (.ref b1), .val (.int (Int32.ofNat n)), .val (.long (own_h f 1)), .second] [(.long (own_h f 1))])) _
      refine XS.aloadN X18.here hx rfl (hb hby at_113) rfl rfl ?_
      show Steps p.tables e below (T18.setTop (mkF m 114 #[.val (.long q1), .second, .val (.int p2), .val (.ref b1), .val (.int (Int32.ofNat n)), .val (.long (own_h f 1)), .second] [(.ref b1), (.long (own_h f 1))])) _
      refine XS.iconst X18.here hx rfl (hb hby at_114) ?_
      show Steps p.tables e below (T18.setTop (mkF m 115 #[.val (.long q1), .second, .val (.int p2), .val (.ref b1), .val (.int (Int32.ofNat n)), .val (.long (own_h f 1)), .second] [(.int (1 : Int32)), (.ref b1), (.long (own_h f 1))])) _
      refine X18.baloadBytes hx (j := (1 : Int32)) (v := (.int (f 1))) (by rw [e18]; exact Ar.1) (State.isArrayOf_alike hZ.alike Ar.2.1) Ar.2.2 (hin 1 (by decide)) (hats 1 (by decide)) (g := (mkF m 115 #[.val (.long q1), .second, .val (.int p2), .val (.ref b1), .val (.int (Int32.ofNat n)), .val (.long (own_h f 1)), .second] [(.int (1 : Int32)), (.ref b1), (.long (own_h f 1))])) rfl rfl (hb hby at_115) _ ?_
      show Steps p.tables e below (T18.setTop (mkF m 116 #[.val (.long q1), .second, .val (.int p2), .val (.ref b1), .val (.int (Int32.ofNat n)), .val (.long (own_h f 1)), .second] [(.int (f 1)), (.long (own_h f 1))])) _
      refine st21 _ ?_
      show Steps p.tables e below (T21.setTop (mkF m 119 #[.val (.long q1), .second, .val (.int p2), .val (.ref b1), .val (.int (Int32.ofNat n)), .val (.long (own_h f 1)), .second] [(.long (own_step (own_h f 1) (f 1)))])) _
      refine XS.lstore X21.here hx rfl (hb hby at_119) rfl (l' := #[.val (.long q1), .second, .val (.int p2), .val (.ref b1), .val (.int (Int32.ofNat n)), .val (.long (own_step (own_h f 1) (f 1))), .second]) rfl ?_
      show Steps p.tables e below (T21.setTop (mkF m 121 #[.val (.long q1), .second, .val (.int p2), .val (.ref b1), .val (.int (Int32.ofNat n)), .val (.long (own_step (own_h f 1) (f 1))), .second] [])) _
      rw [← hmb1]
      exact kt
    · have hk1 : n ≤ 1 := own_nlt n hn 1 (by decide) hc1
      have hmb1 : own_h f (min 2 n) = own_h f (min 1 n) := by rw [Nat.min_eq_right (by omega), Nat.min_eq_right (by omega)]
      refine ⟨T18, _, X18, e18, N18, fun target kt => ?_⟩
      show Steps p.tables e below (T18.setTop (mkF m 105 #[.val (.long q1), .second, .val (.int p2), .val (.ref b1), .val (.int (Int32.ofNat n)), .val (.long (own_h f (min 1 n))), .second] [])) _
      refine XS.iload X18.here hx rfl (hb hby at_105) rfl ?_
      show Steps p.tables e below (T18.setTop (mkF m 107 #[.val (.long q1), .second, .val (.int p2), .val (.ref b1), .val (.int (Int32.ofNat n)), .val (.long (own_h f (min 1 n))), .second] [(.int (Int32.ofNat n))])) _
      refine XS.iconst X18.here hx rfl (hb hby at_107) ?_
      show Steps p.tables e below (T18.setTop (mkF m 108 #[.val (.long q1), .second, .val (.int p2), .val (.ref b1), .val (.int (Int32.ofNat n)), .val (.long (own_h f (min 1 n))), .second] [(.int (1 : Int32)), (.int (Int32.ofNat n))])) _
      refine XS.icmpYes X18.here hx rfl (pc0 := 108) (pc' := 121) rfl (hb hby at_108) rfl (flt (hc1 : ¬ ((1 : Int32) < (Int32.ofNat n)))).2.2.2 (by decide) (by decide) ?_
      show Steps p.tables e below (T18.setTop (mkF m 121 #[.val (.long q1), .second, .val (.int p2), .val (.ref b1), .val (.int (Int32.ofNat n)), .val (.long (own_h f (min 1 n))), .second] [])) _
      rw [← hmb1]
      exact kt
  obtain ⟨T22, L22, X22, e22, N22, st22⟩ : ∃ (T' : State) (L' : List Loc), Stand p l e room_1 s m #[(.long q1), (.int p2)] below meth c T' L' 1 8 ∧ T'.heap = h17 ∧ Fr n0 L' ∧ ∀ target, Steps p.tables e below (T'.setTop (mkF m 137 #[.val (.long q1), .second, .val (.int p2), .val (.ref b1), .val (.int (Int32.ofNat n)), .val (.long (own_h f (min 3 n))), .second] [])) target → Steps p.tables e below (T20.setTop (mkF m 121 #[.val (.long q1), .second, .val (.int p2), .val (.ref b1), .val (.int (Int32.ofNat n)), .val (.long (own_h f (min 2 n))), .second] [])) target := by
    by_cases hc2 : (2 : Int32) < (Int32.ofNat n)
    · have hk2 : 2 < n := own_lt n hn 2 (by decide) hc2
      have hma2 : own_h f (min 2 n) = own_h f 2 := by rw [Nat.min_eq_left (by omega)]
      have hmb2 : own_h f (min 3 n) = own_step (own_h f 2) (f 2) := by rw [Nat.min_eq_left (by omega)]; rfl
      obtain ⟨_, _, ⟨T23, L23, k23, n23⟩, -, X23, ⟨Lc23, hQ23, l23, y23, z23⟩, st23⟩ := Jvm.LawKit.callS X20 hx (y := (⟨"com/example/keelson/keelson/core/checkpoint/StateFilesHashPinLaw", "step", "(JB)J"⟩ : MethodName)) hown (mvT hZ (hw _ (List.mem_of_getElem? (i := 3) rfl))) (mvT hZ (hw _ (List.mem_of_getElem? (i := 4) rfl))) (mvT hZ (hw _ (List.mem_of_getElem? (i := 5) rfl))) (mvT hZ (hw _ (List.mem_of_getElem? (i := 6) rfl))) (by decide) (backOf (W := 0) (rm1 l Z a0 hw [] (own_h f 2) (f 2) h17 n0 Zs17) hZ (hw _ (List.mem_of_getElem? (i := 6) rfl)) (hw _ (List.mem_of_getElem? (i := 5) rfl)) (by decide) (by decide)) (g := (mkF m 132 #[.val (.long q1), .second, .val (.int p2), .val (.ref b1), .val (.int (Int32.ofNat n)), .val (.long (own_h f 2)), .second] [(.int (f 2)), (.long (own_h f 2))])) rfl (by rw [hml]; rfl) (argsL := [(.long (own_h f 2)), (.int (f 2))]) (rest := []) (lenOf pd0_0 rfl) rfl (by show 2 * 0 + _ ≤ _; exact Nat.le_of_eq rfl) (hb hby at_132) (fun _ _ => ⟨rfl, e20, (by decide : 1 + 0 ≤ _), (by decide : 8 + 0 ≤ _)⟩)
      dsimp only [Pt.U, Pt.locs, Pt.cells, Pt.slots] at X23 l23 y23 z23 st23 hQ23
      subst l23 y23 z23
      obtain ⟨rfl, Nq23, e23⟩ := hQ23
      have N23 := Fr.app N20 Nq23
      refine ⟨T23, _, X23, e23, N23, fun target kt => ?_⟩
      show Steps p.tables e below (T20.setTop (mkF m 121 #[.val (.long q1), .second, .val (.int p2), .val (.ref b1), .val (.int (Int32.ofNat n)), .val (.long (own_h f (min 2 n))), .second] [])) _
      refine XS.iload X20.here hx rfl (hb hby at_121) rfl ?_
      show Steps p.tables e below (T20.setTop (mkF m 123 #[.val (.long q1), .second, .val (.int p2), .val (.ref b1), .val (.int (Int32.ofNat n)), .val (.long (own_h f (min 2 n))), .second] [(.int (Int32.ofNat n))])) _
      refine XS.iconst X20.here hx rfl (hb hby at_123) ?_
      show Steps p.tables e below (T20.setTop (mkF m 124 #[.val (.long q1), .second, .val (.int p2), .val (.ref b1), .val (.int (Int32.ofNat n)), .val (.long (own_h f (min 2 n))), .second] [(.int (2 : Int32)), (.int (Int32.ofNat n))])) _
      refine XS.icmpNo X20.here hx rfl (hb hby at_124) rfl (tlt (hc2 : (2 : Int32) < (Int32.ofNat n))).2.2.2 ?_
      show Steps p.tables e below (T20.setTop (mkF m 127 #[.val (.long q1), .second, .val (.int p2), .val (.ref b1), .val (.int (Int32.ofNat n)), .val (.long (own_h f (min 2 n))), .second] [])) _
      rw [hma2]
      show Steps p.tables e below (T20.setTop (mkF m 127 #[.val (.long q1), .second, .val (.int p2), .val (.ref b1), .val (.int (Int32.ofNat n)), .val (.long (own_h f 2)), .second] [])) _
      refine XS.lload X20.here hx rfl (hb hby at_127) rfl ?_
      show Steps p.tables e below (T20.setTop (mkF m 129 #[.val (.long q1), .second, .val (.int p2), .val (.ref b1), .val (.int (Int32.ofNat n)), .val (.long (own_h f 2)), .second] [(.long (own_h f 2))])) _
      refine XS.aloadN X20.here hx rfl (hb hby at_129) rfl rfl ?_
      show Steps p.tables e below (T20.setTop (mkF m 130 #[.val (.long q1), .second, .val (.int p2), .val (.ref b1), .val (.int (Int32.ofNat n)), .val (.long (own_h f 2)), .second] [(.ref b1), (.long (own_h f 2))])) _
      refine XS.iconst X20.here hx rfl (hb hby at_130) ?_
      show Steps p.tables e below (T20.setTop (mkF m 131 #[.val (.long q1), .second, .val (.int p2), .val (.ref b1), .val (.int (Int32.ofNat n)), .val (.long (own_h f 2)), .second] [(.int (2 : Int32)), (.ref b1), (.long (own_h f 2))])) _
      refine X20.baloadBytes hx (j := (2 : Int32)) (v := (.int (f 2))) (by rw [e20]; exact Ar.1) (State.isArrayOf_alike hZ.alike Ar.2.1) Ar.2.2 (hin 2 (by decide)) (hats 2 (by decide)) (g := (mkF m 131 #[.val (.long q1), .second, .val (.int p2), .val (.ref b1), .val (.int (Int32.ofNat n)), .val (.long (own_h f 2)), .second] [(.int (2 : Int32)), (.ref b1), (.long (own_h f 2))])) rfl rfl (hb hby at_131) _ ?_
      show Steps p.tables e below (T20.setTop (mkF m 132 #[.val (.long q1), .second, .val (.int p2), .val (.ref b1), .val (.int (Int32.ofNat n)), .val (.long (own_h f 2)), .second] [(.int (f 2)), (.long (own_h f 2))])) _
      refine st23 _ ?_
      show Steps p.tables e below (T23.setTop (mkF m 135 #[.val (.long q1), .second, .val (.int p2), .val (.ref b1), .val (.int (Int32.ofNat n)), .val (.long (own_h f 2)), .second] [(.long (own_step (own_h f 2) (f 2)))])) _
      refine XS.lstore X23.here hx rfl (hb hby at_135) rfl (l' := #[.val (.long q1), .second, .val (.int p2), .val (.ref b1), .val (.int (Int32.ofNat n)), .val (.long (own_step (own_h f 2) (f 2))), .second]) rfl ?_
      show Steps p.tables e below (T23.setTop (mkF m 137 #[.val (.long q1), .second, .val (.int p2), .val (.ref b1), .val (.int (Int32.ofNat n)), .val (.long (own_step (own_h f 2) (f 2))), .second] [])) _
      rw [← hmb2]
      exact kt
    · have hk2 : n ≤ 2 := own_nlt n hn 2 (by decide) hc2
      have hmb2 : own_h f (min 3 n) = own_h f (min 2 n) := by rw [Nat.min_eq_right (by omega), Nat.min_eq_right (by omega)]
      refine ⟨T20, _, X20, e20, N20, fun target kt => ?_⟩
      show Steps p.tables e below (T20.setTop (mkF m 121 #[.val (.long q1), .second, .val (.int p2), .val (.ref b1), .val (.int (Int32.ofNat n)), .val (.long (own_h f (min 2 n))), .second] [])) _
      refine XS.iload X20.here hx rfl (hb hby at_121) rfl ?_
      show Steps p.tables e below (T20.setTop (mkF m 123 #[.val (.long q1), .second, .val (.int p2), .val (.ref b1), .val (.int (Int32.ofNat n)), .val (.long (own_h f (min 2 n))), .second] [(.int (Int32.ofNat n))])) _
      refine XS.iconst X20.here hx rfl (hb hby at_123) ?_
      show Steps p.tables e below (T20.setTop (mkF m 124 #[.val (.long q1), .second, .val (.int p2), .val (.ref b1), .val (.int (Int32.ofNat n)), .val (.long (own_h f (min 2 n))), .second] [(.int (2 : Int32)), (.int (Int32.ofNat n))])) _
      refine XS.icmpYes X20.here hx rfl (pc0 := 124) (pc' := 137) rfl (hb hby at_124) rfl (flt (hc2 : ¬ ((2 : Int32) < (Int32.ofNat n)))).2.2.2 (by decide) (by decide) ?_
      show Steps p.tables e below (T20.setTop (mkF m 137 #[.val (.long q1), .second, .val (.int p2), .val (.ref b1), .val (.int (Int32.ofNat n)), .val (.long (own_h f (min 2 n))), .second] [])) _
      rw [← hmb2]
      exact kt
  obtain ⟨T24, L24, X24, e24, N24, st24⟩ : ∃ (T' : State) (L' : List Loc), Stand p l e room_1 s m #[(.long q1), (.int p2)] below meth c T' L' 1 8 ∧ T'.heap = h17 ∧ Fr n0 L' ∧ ∀ target, Steps p.tables e below (T'.setTop (mkF m 153 #[.val (.long q1), .second, .val (.int p2), .val (.ref b1), .val (.int (Int32.ofNat n)), .val (.long (own_h f (min 4 n))), .second] [])) target → Steps p.tables e below (T22.setTop (mkF m 137 #[.val (.long q1), .second, .val (.int p2), .val (.ref b1), .val (.int (Int32.ofNat n)), .val (.long (own_h f (min 3 n))), .second] [])) target := by
    by_cases hc3 : (3 : Int32) < (Int32.ofNat n)
    · have hk3 : 3 < n := own_lt n hn 3 (by decide) hc3
      have hma3 : own_h f (min 3 n) = own_h f 3 := by rw [Nat.min_eq_left (by omega)]
      have hmb3 : own_h f (min 4 n) = own_step (own_h f 3) (f 3) := by rw [Nat.min_eq_left (by omega)]; rfl
      obtain ⟨_, _, ⟨T25, L25, k25, n25⟩, -, X25, ⟨Lc25, hQ25, l25, y25, z25⟩, st25⟩ := Jvm.LawKit.callS X22 hx (y := (⟨"com/example/keelson/keelson/core/checkpoint/StateFilesHashPinLaw", "step", "(JB)J"⟩ : MethodName)) hown (mvT hZ (hw _ (List.mem_of_getElem? (i := 3) rfl))) (mvT hZ (hw _ (List.mem_of_getElem? (i := 4) rfl))) (mvT hZ (hw _ (List.mem_of_getElem? (i := 5) rfl))) (mvT hZ (hw _ (List.mem_of_getElem? (i := 6) rfl))) (by decide) (backOf (W := 0) (rm1 l Z a0 hw [] (own_h f 3) (f 3) h17 n0 Zs17) hZ (hw _ (List.mem_of_getElem? (i := 6) rfl)) (hw _ (List.mem_of_getElem? (i := 5) rfl)) (by decide) (by decide)) (g := (mkF m 148 #[.val (.long q1), .second, .val (.int p2), .val (.ref b1), .val (.int (Int32.ofNat n)), .val (.long (own_h f 3)), .second] [(.int (f 3)), (.long (own_h f 3))])) rfl (by rw [hml]; rfl) (argsL := [(.long (own_h f 3)), (.int (f 3))]) (rest := []) (lenOf pd0_0 rfl) rfl (by show 2 * 0 + _ ≤ _; exact Nat.le_of_eq rfl) (hb hby at_148) (fun _ _ => ⟨rfl, e22, (by decide : 1 + 0 ≤ _), (by decide : 8 + 0 ≤ _)⟩)
      dsimp only [Pt.U, Pt.locs, Pt.cells, Pt.slots] at X25 l25 y25 z25 st25 hQ25
      subst l25 y25 z25
      obtain ⟨rfl, Nq25, e25⟩ := hQ25
      have N25 := Fr.app N22 Nq25
      refine ⟨T25, _, X25, e25, N25, fun target kt => ?_⟩
      show Steps p.tables e below (T22.setTop (mkF m 137 #[.val (.long q1), .second, .val (.int p2), .val (.ref b1), .val (.int (Int32.ofNat n)), .val (.long (own_h f (min 3 n))), .second] [])) _
      refine XS.iload X22.here hx rfl (hb hby at_137) rfl ?_
      show Steps p.tables e below (T22.setTop (mkF m 139 #[.val (.long q1), .second, .val (.int p2), .val (.ref b1), .val (.int (Int32.ofNat n)), .val (.long (own_h f (min 3 n))), .second] [(.int (Int32.ofNat n))])) _
      refine XS.iconst X22.here hx rfl (hb hby at_139) ?_
      show Steps p.tables e below (T22.setTop (mkF m 140 #[.val (.long q1), .second, .val (.int p2), .val (.ref b1), .val (.int (Int32.ofNat n)), .val (.long (own_h f (min 3 n))), .second] [(.int (3 : Int32)), (.int (Int32.ofNat n))])) _
      refine XS.icmpNo X22.here hx rfl (hb hby at_140) rfl (tlt (hc3 : (3 : Int32) < (Int32.ofNat n))).2.2.2 ?_
      show Steps p.tables e below (T22.setTop (mkF m 143 #[.val (.long q1), .second, .val (.int p2), .val (.ref b1), .val (.int (Int32.ofNat n)), .val (.long (own_h f (min 3 n))), .second] [])) _
      rw [hma3]
      show Steps p.tables e below (T22.setTop (mkF m 143 #[.val (.long q1), .second, .val (.int p2), .val (.ref b1), .val (.int (Int32.ofNat n)), .val (.long (own_h f 3)), .second] [])) _
      refine XS.lload X22.here hx rfl (hb hby at_143) rfl ?_
      show Steps p.tables e below (T22.setTop (mkF m 145 #[.val (.long q1), .second, .val (.int p2), .val (.ref b1), .val (.int (Int32.ofNat n)), .val (.long (own_h f 3)), .second] [(.long (own_h f 3))])) _
      refine XS.aloadN X22.here hx rfl (hb hby at_145) rfl rfl ?_
      show Steps p.tables e below (T22.setTop (mkF m 146 #[.val (.long q1), .second, .val (.int p2), .val (.ref b1), .val (.int (Int32.ofNat n)), .val (.long (own_h f 3)), .second] [(.ref b1), (.long (own_h f 3))])) _
      refine XS.iconst X22.here hx rfl (hb hby at_146) ?_
      show Steps p.tables e below (T22.setTop (mkF m 147 #[.val (.long q1), .second, .val (.int p2), .val (.ref b1), .val (.int (Int32.ofNat n)), .val (.long (own_h f 3)), .second] [(.int (3 : Int32)), (.ref b1), (.long (own_h f 3))])) _
      refine X22.baloadBytes hx (j := (3 : Int32)) (v := (.int (f 3))) (by rw [e22]; exact Ar.1) (State.isArrayOf_alike hZ.alike Ar.2.1) Ar.2.2 (hin 3 (by decide)) (hats 3 (by decide)) (g := (mkF m 147 #[.val (.long q1), .second, .val (.int p2), .val (.ref b1), .val (.int (Int32.ofNat n)), .val (.long (own_h f 3)), .second] [(.int (3 : Int32)), (.ref b1), (.long (own_h f 3))])) rfl rfl (hb hby at_147) _ ?_
      show Steps p.tables e below (T22.setTop (mkF m 148 #[.val (.long q1), .second, .val (.int p2), .val (.ref b1), .val (.int (Int32.ofNat n)), .val (.long (own_h f 3)), .second] [(.int (f 3)), (.long (own_h f 3))])) _
      refine st25 _ ?_
      show Steps p.tables e below (T25.setTop (mkF m 151 #[.val (.long q1), .second, .val (.int p2), .val (.ref b1), .val (.int (Int32.ofNat n)), .val (.long (own_h f 3)), .second] [(.long (own_step (own_h f 3) (f 3)))])) _
      refine XS.lstore X25.here hx rfl (hb hby at_151) rfl (l' := #[.val (.long q1), .second, .val (.int p2), .val (.ref b1), .val (.int (Int32.ofNat n)), .val (.long (own_step (own_h f 3) (f 3))), .second]) rfl ?_
      show Steps p.tables e below (T25.setTop (mkF m 153 #[.val (.long q1), .second, .val (.int p2), .val (.ref b1), .val (.int (Int32.ofNat n)), .val (.long (own_step (own_h f 3) (f 3))), .second] [])) _
      rw [← hmb3]
      exact kt
    · have hk3 : n ≤ 3 := own_nlt n hn 3 (by decide) hc3
      have hmb3 : own_h f (min 4 n) = own_h f (min 3 n) := by rw [Nat.min_eq_right (by omega), Nat.min_eq_right (by omega)]
      refine ⟨T22, _, X22, e22, N22, fun target kt => ?_⟩
      show Steps p.tables e below (T22.setTop (mkF m 137 #[.val (.long q1), .second, .val (.int p2), .val (.ref b1), .val (.int (Int32.ofNat n)), .val (.long (own_h f (min 3 n))), .second] [])) _
      refine XS.iload X22.here hx rfl (hb hby at_137) rfl ?_
      show Steps p.tables e below (T22.setTop (mkF m 139 #[.val (.long q1), .second, .val (.int p2), .val (.ref b1), .val (.int (Int32.ofNat n)), .val (.long (own_h f (min 3 n))), .second] [(.int (Int32.ofNat n))])) _
      refine XS.iconst X22.here hx rfl (hb hby at_139) ?_
      show Steps p.tables e below (T22.setTop (mkF m 140 #[.val (.long q1), .second, .val (.int p2), .val (.ref b1), .val (.int (Int32.ofNat n)), .val (.long (own_h f (min 3 n))), .second] [(.int (3 : Int32)), (.int (Int32.ofNat n))])) _
      refine XS.icmpYes X22.here hx rfl (pc0 := 140) (pc' := 153) rfl (hb hby at_140) rfl (flt (hc3 : ¬ ((3 : Int32) < (Int32.ofNat n)))).2.2.2 (by decide) (by decide) ?_
      show Steps p.tables e below (T22.setTop (mkF m 153 #[.val (.long q1), .second, .val (.int p2), .val (.ref b1), .val (.int (Int32.ofNat n)), .val (.long (own_h f (min 3 n))), .second] [])) _
      rw [← hmb3]
      exact kt
  obtain ⟨T26, L26, X26, e26, N26, st26⟩ : ∃ (T' : State) (L' : List Loc), Stand p l e room_1 s m #[(.long q1), (.int p2)] below meth c T' L' 1 8 ∧ T'.heap = h17 ∧ Fr n0 L' ∧ ∀ target, Steps p.tables e below (T'.setTop (mkF m 169 #[.val (.long q1), .second, .val (.int p2), .val (.ref b1), .val (.int (Int32.ofNat n)), .val (.long (own_h f (min 5 n))), .second] [])) target → Steps p.tables e below (T24.setTop (mkF m 153 #[.val (.long q1), .second, .val (.int p2), .val (.ref b1), .val (.int (Int32.ofNat n)), .val (.long (own_h f (min 4 n))), .second] [])) target := by
    by_cases hc4 : (4 : Int32) < (Int32.ofNat n)
    · have hk4 : 4 < n := own_lt n hn 4 (by decide) hc4
      have hma4 : own_h f (min 4 n) = own_h f 4 := by rw [Nat.min_eq_left (by omega)]
      have hmb4 : own_h f (min 5 n) = own_step (own_h f 4) (f 4) := by rw [Nat.min_eq_left (by omega)]; rfl
      obtain ⟨_, _, ⟨T27, L27, k27, n27⟩, -, X27, ⟨Lc27, hQ27, l27, y27, z27⟩, st27⟩ := Jvm.LawKit.callS X24 hx (y := (⟨"com/example/keelson/keelson/core/checkpoint/StateFilesHashPinLaw", "step", "(JB)J"⟩ : MethodName)) hown (mvT hZ (hw _ (List.mem_of_getElem? (i := 3) rfl))) (mvT hZ (hw _ (List.mem_of_getElem? (i := 4) rfl))) (mvT hZ (hw _ (List.mem_of_getElem? (i := 5) rfl))) (mvT hZ (hw _ (List.mem_of_getElem? (i := 6) rfl))) (by decide) (backOf (W := 0) (rm1 l Z a0 hw [] (own_h f 4) (f 4) h17 n0 Zs17) hZ (hw _ (List.mem_of_getElem? (i := 6) rfl)) (hw _ (List.mem_of_getElem? (i := 5) rfl)) (by decide) (by decide)) (g := (mkF m 164 #[.val (.long q1), .second, .val (.int p2), .val (.ref b1), .val (.int (Int32.ofNat n)), .val (.long (own_h f 4)), .second] [(.int (f 4)), (.long (own_h f 4))])) rfl (by rw [hml]; rfl) (argsL := [(.long (own_h f 4)), (.int (f 4))]) (rest := []) (lenOf pd0_0 rfl) rfl (by show 2 * 0 + _ ≤ _; exact Nat.le_of_eq rfl) (hb hby at_164) (fun _ _ => ⟨rfl, e24, (by decide : 1 + 0 ≤ _), (by decide : 8 + 0 ≤ _)⟩)
      dsimp only [Pt.U, Pt.locs, Pt.cells, Pt.slots] at X27 l27 y27 z27 st27 hQ27
      subst l27 y27 z27
      obtain ⟨rfl, Nq27, e27⟩ := hQ27
      have N27 := Fr.app N24 Nq27
      refine ⟨T27, _, X27, e27, N27, fun target kt => ?_⟩
      show Steps p.tables e below (T24.setTop (mkF m 153 #[.val (.long q1), .second, .val (.int p2), .val (.ref b1), .val (.int (Int32.ofNat n)), .val (.long (own_h f (min 4 n))), .second] [])) _
      refine XS.iload X24.here hx rfl (hb hby at_153) rfl ?_
      show Steps p.tables e below (T24.setTop (mkF m 155 #[.val (.long q1), .second, .val (.int p2), .val (.ref b1), .val (.int (Int32.ofNat n)), .val (.long (own_h f (min 4 n))), .second] [(.int (Int32.ofNat n))])) _
      refine XS.iconst X24.here hx rfl (hb hby at_155) ?_
      show Steps p.tables e below (T24.setTop (mkF m 156 #[.val (.long q1), .second, .val (.int p2), .val (.ref b1), .val (.int (Int32.ofNat n)), .val (.long (own_h f (min 4 n))), .second] [(.int (4 : Int32)), (.int (Int32.ofNat n))])) _
      refine XS.icmpNo X24.here hx rfl (hb hby at_156) rfl (tlt (hc4 : (4 : Int32) < (Int32.ofNat n))).2.2.2 ?_
      show Steps p.tables e below (T24.setTop (mkF m 159 #[.val (.long q1), .second, .val (.int p2), .val (.ref b1), .val (.int (Int32.ofNat n)), .val (.long (own_h f (min 4 n))), .second] [])) _
      rw [hma4]
      show Steps p.tables e below (T24.setTop (mkF m 159 #[.val (.long q1), .second, .val (.int p2), .val (.ref b1), .val (.int (Int32.ofNat n)), .val (.long (own_h f 4)), .second] [])) _
      refine XS.lload X24.here hx rfl (hb hby at_159) rfl ?_
      show Steps p.tables e below (T24.setTop (mkF m 161 #[.val (.long q1), .second, .val (.int p2), .val (.ref b1), .val (.int (Int32.ofNat n)), .val (.long (own_h f 4)), .second] [(.long (own_h f 4))])) _
      refine XS.aloadN X24.here hx rfl (hb hby at_161) rfl rfl ?_
      show Steps p.tables e below (T24.setTop (mkF m 162 #[.val (.long q1), .second, .val (.int p2), .val (.ref b1), .val (.int (Int32.ofNat n)), .val (.long (own_h f 4)), .second] [(.ref b1), (.long (own_h f 4))])) _
      refine XS.iconst X24.here hx rfl (hb hby at_162) ?_
      show Steps p.tables e below (T24.setTop (mkF m 163 #[.val (.long q1), .second, .val (.int p2), .val (.ref b1), .val (.int (Int32.ofNat n)), .val (.long (own_h f 4)), .second] [(.int (4 : Int32)), (.ref b1), (.long (own_h f 4))])) _
      refine X24.baloadBytes hx (j := (4 : Int32)) (v := (.int (f 4))) (by rw [e24]; exact Ar.1) (State.isArrayOf_alike hZ.alike Ar.2.1) Ar.2.2 (hin 4 (by decide)) (hats 4 (by decide)) (g := (mkF m 163 #[.val (.long q1), .second, .val (.int p2), .val (.ref b1), .val (.int (Int32.ofNat n)), .val (.long (own_h f 4)), .second] [(.int (4 : Int32)), (.ref b1), (.long (own_h f 4))])) rfl rfl (hb hby at_163) _ ?_
      show Steps p.tables e below (T24.setTop (mkF m 164 #[.val (.long q1), .second, .val (.int p2), .val (.ref b1), .val (.int (Int32.ofNat n)), .val (.long (own_h f 4)), .second] [(.int (f 4)), (.long (own_h f 4))])) _
      refine st27 _ ?_
      show Steps p.tables e below (T27.setTop (mkF m 167 #[.val (.long q1), .second, .val (.int p2), .val (.ref b1), .val (.int (Int32.ofNat n)), .val (.long (own_h f 4)), .second] [(.long (own_step (own_h f 4) (f 4)))])) _
      refine XS.lstore X27.here hx rfl (hb hby at_167) rfl (l' := #[.val (.long q1), .second, .val (.int p2), .val (.ref b1), .val (.int (Int32.ofNat n)), .val (.long (own_step (own_h f 4) (f 4))), .second]) rfl ?_
      show Steps p.tables e below (T27.setTop (mkF m 169 #[.val (.long q1), .second, .val (.int p2), .val (.ref b1), .val (.int (Int32.ofNat n)), .val (.long (own_step (own_h f 4) (f 4))), .second] [])) _
      rw [← hmb4]
      exact kt
    · have hk4 : n ≤ 4 := own_nlt n hn 4 (by decide) hc4
      have hmb4 : own_h f (min 5 n) = own_h f (min 4 n) := by rw [Nat.min_eq_right (by omega), Nat.min_eq_right (by omega)]
      refine ⟨T24, _, X24, e24, N24, fun target kt => ?_⟩
      show Steps p.tables e below (T24.setTop (mkF m 153 #[.val (.long q1), .second, .val (.int p2), .val (.ref b1), .val (.int (Int32.ofNat n)), .val (.long (own_h f (min 4 n))), .second] [])) _
      refine XS.iload X24.here hx rfl (hb hby at_153) rfl ?_
      show Steps p.tables e below (T24.setTop (mkF m 155 #[.val (.long q1), .second, .val (.int p2), .val (.ref b1), .val (.int (Int32.ofNat n)), .val (.long (own_h f (min 4 n))), .second] [(.int (Int32.ofNat n))])) _
      refine XS.iconst X24.here hx rfl (hb hby at_155) ?_
      show Steps p.tables e below (T24.setTop (mkF m 156 #[.val (.long q1), .second, .val (.int p2), .val (.ref b1), .val (.int (Int32.ofNat n)), .val (.long (own_h f (min 4 n))), .second] [(.int (4 : Int32)), (.int (Int32.ofNat n))])) _
      refine XS.icmpYes X24.here hx rfl (pc0 := 156) (pc' := 169) rfl (hb hby at_156) rfl (flt (hc4 : ¬ ((4 : Int32) < (Int32.ofNat n)))).2.2.2 (by decide) (by decide) ?_
      show Steps p.tables e below (T24.setTop (mkF m 169 #[.val (.long q1), .second, .val (.int p2), .val (.ref b1), .val (.int (Int32.ofNat n)), .val (.long (own_h f (min 4 n))), .second] [])) _
      rw [← hmb4]
      exact kt
  obtain ⟨T28, L28, X28, e28, N28, st28⟩ : ∃ (T' : State) (L' : List Loc), Stand p l e room_1 s m #[(.long q1), (.int p2)] below meth c T' L' 1 8 ∧ T'.heap = h17 ∧ Fr n0 L' ∧ ∀ target, Steps p.tables e below (T'.setTop (mkF m 185 #[.val (.long q1), .second, .val (.int p2), .val (.ref b1), .val (.int (Int32.ofNat n)), .val (.long (own_h f (min 6 n))), .second] [])) target → Steps p.tables e below (T26.setTop (mkF m 169 #[.val (.long q1), .second, .val (.int p2), .val (.ref b1), .val (.int (Int32.ofNat n)), .val (.long (own_h f (min 5 n))), .second] [])) target := by
    by_cases hc5 : (5 : Int32) < (Int32.ofNat n)
    · have hk5 : 5 < n := own_lt n hn 5 (by decide) hc5
      have hma5 : own_h f (min 5 n) = own_h f 5 := by rw [Nat.min_eq_left (by omega)]
      have hmb5 : own_h f (min 6 n) = own_step (own_h f 5) (f 5) := by rw [Nat.min_eq_left (by omega)]; rfl
      obtain ⟨_, _, ⟨T29, L29, k29, n29⟩, -, X29, ⟨Lc29, hQ29, l29, y29, z29⟩, st29⟩ := Jvm.LawKit.callS X26 hx (y := (⟨"com/example/keelson/keelson/core/checkpoint/StateFilesHashPinLaw", "step", "(JB)J"⟩ : MethodName)) hown (mvT hZ (hw _ (List.mem_of_getElem? (i := 3) rfl))) (mvT hZ (hw _ (List.mem_of_getElem? (i := 4) rfl))) (mvT hZ (hw _ (List.mem_of_getElem? (i := 5) rfl))) (mvT hZ (hw _ (List.mem_of_getElem? (i := 6) rfl))) (by decide) (backOf (W := 0) (rm1 l Z a0 hw [] (own_h f 5) (f 5) h17 n0 Zs17) hZ (hw _ (List.mem_of_getElem? (i := 6) rfl)) (hw _ (List.mem_of_getElem? (i := 5) rfl)) (by decide) (by decide)) (g := (mkF m 180 #[.val (.long q1), .second, .val (.int p2), .val (.ref b1), .val (.int (Int32.ofNat n)), .val (.long (own_h f 5)), .second] [(.int (f 5)), (.long (own_h f 5))])) rfl (by rw [hml]; rfl) (argsL := [(.long (own_h f 5)), (.int (f 5))]) (rest := []) (lenOf pd0_0 rfl) rfl (by show 2 * 0 + _ ≤ _; exact Nat.le_of_eq rfl) (hb hby at_180) (fun _ _ => ⟨rfl, e26, (by decide : 1 + 0 ≤ _), (by decide : 8 + 0 ≤ _)⟩)
      dsimp only [Pt.U, Pt.locs, Pt.cells, Pt.slots] at X29 l29 y29 z29 st29 hQ29
      subst l29 y29 z29
      obtain ⟨rfl, Nq29, e29⟩ := hQ29
      have N29 := Fr.app N26 Nq29
      refine ⟨T29, _, X29, e29, N29, fun target kt => ?_⟩
      show Steps p.tables e below (T26.setTop (mkF m 169 #[.val (.long q1), .second, .val (.int p2), .val (.ref b1), .val (.int (Int32.ofNat n)), .val (.long (own_h f (min 5 n))), .second] [])) _
      refine XS.iload X26.here hx rfl (hb hby at_169) rfl ?_
      show Steps p.tables e below (T26.setTop (mkF m 171 #[.val (.long q1), .second, .val (.int p2), .val (.ref b1), .val (.int (Int32.ofNat n)), .val (.long (own_h f (min 5 n))), .second] [(.int (Int32.ofNat n))])) _
      refine XS.iconst X26.here hx rfl (hb hby at_171) ?_
      show Steps p.tables e below (T26.setTop (mkF m 172 #[.val (.long q1), .second, .val (.int p2), .val (.ref b1), .val (.int (Int32.ofNat n)), .val (.long (own_h f (min 5 n))), .second] [(.int (5 : Int32)), (.int (Int32.ofNat n))])) _
      refine XS.icmpNo X26.here hx rfl (hb hby at_172) rfl (tlt (hc5 : (5 : Int32) < (Int32.ofNat n))).2.2.2 ?_
      show Steps p.tables e below (T26.setTop (mkF m 175 #[.val (.long q1), .second, .val (.int p2), .val (.ref b1), .val (.int (Int32.ofNat n)), .val (.long (own_h f (min 5 n))), .second] [])) _
      rw [hma5]
      show Steps p.tables e below (T26.setTop (mkF m 175 #[.val (.long q1), .second, .val (.int p2), .val (.ref b1), .val (.int (Int32.ofNat n)), .val (.long (own_h f 5)), .second] [])) _
      refine XS.lload X26.here hx rfl (hb hby at_175) rfl ?_
      show Steps p.tables e below (T26.setTop (mkF m 177 #[.val (.long q1), .second, .val (.int p2), .val (.ref b1), .val (.int (Int32.ofNat n)), .val (.long (own_h f 5)), .second] [(.long (own_h f 5))])) _
      refine XS.aloadN X26.here hx rfl (hb hby at_177) rfl rfl ?_
      show Steps p.tables e below (T26.setTop (mkF m 178 #[.val (.long q1), .second, .val (.int p2), .val (.ref b1), .val (.int (Int32.ofNat n)), .val (.long (own_h f 5)), .second] [(.ref b1), (.long (own_h f 5))])) _
      refine XS.iconst X26.here hx rfl (hb hby at_178) ?_
      show Steps p.tables e below (T26.setTop (mkF m 179 #[.val (.long q1), .second, .val (.int p2), .val (.ref b1), .val (.int (Int32.ofNat n)), .val (.long (own_h f 5)), .second] [(.int (5 : Int32)), (.ref b1), (.long (own_h f 5))])) _
      refine X26.baloadBytes hx (j := (5 : Int32)) (v := (.int (f 5))) (by rw [e26]; exact Ar.1) (State.isArrayOf_alike hZ.alike Ar.2.1) Ar.2.2 (hin 5 (by decide)) (hats 5 (by decide)) (g := (mkF m 179 #[.val (.long q1), .second, .val (.int p2), .val (.ref b1), .val (.int (Int32.ofNat n)), .val (.long (own_h f 5)), .second] [(.int (5 : Int32)), (.ref b1), (.long (own_h f 5))])) rfl rfl (hb hby at_179) _ ?_
      show Steps p.tables e below (T26.setTop (mkF m 180 #[.val (.long q1), .second, .val (.int p2), .val (.ref b1), .val (.int (Int32.ofNat n)), .val (.long (own_h f 5)), .second] [(.int (f 5)), (.long (own_h f 5))])) _
      refine st29 _ ?_
      show Steps p.tables e below (T29.setTop (mkF m 183 #[.val (.long q1), .second, .val (.int p2), .val (.ref b1), .val (.int (Int32.ofNat n)), .val (.long (own_h f 5)), .second] [(.long (own_step (own_h f 5) (f 5)))])) _
      refine XS.lstore X29.here hx rfl (hb hby at_183) rfl (l' := #[.val (.long q1), .second, .val (.int p2), .val (.ref b1), .val (.int (Int32.ofNat n)), .val (.long (own_step (own_h f 5) (f 5))), .second]) rfl ?_
      show Steps p.tables e below (T29.setTop (mkF m 185 #[.val (.long q1), .second, .val (.int p2), .val (.ref b1), .val (.int (Int32.ofNat n)), .val (.long (own_step (own_h f 5) (f 5))), .second] [])) _
      rw [← hmb5]
      exact kt
    · have hk5 : n ≤ 5 := own_nlt n hn 5 (by decide) hc5
      have hmb5 : own_h f (min 6 n) = own_h f (min 5 n) := by rw [Nat.min_eq_right (by omega), Nat.min_eq_right (by omega)]
      refine ⟨T26, _, X26, e26, N26, fun target kt => ?_⟩
      show Steps p.tables e below (T26.setTop (mkF m 169 #[.val (.long q1), .second, .val (.int p2), .val (.ref b1), .val (.int (Int32.ofNat n)), .val (.long (own_h f (min 5 n))), .second] [])) _
      refine XS.iload X26.here hx rfl (hb hby at_169) rfl ?_
      show Steps p.tables e below (T26.setTop (mkF m 171 #[.val (.long q1), .second, .val (.int p2), .val (.ref b1), .val (.int (Int32.ofNat n)), .val (.long (own_h f (min 5 n))), .second] [(.int (Int32.ofNat n))])) _
      refine XS.iconst X26.here hx rfl (hb hby at_171) ?_
      show Steps p.tables e below (T26.setTop (mkF m 172 #[.val (.long q1), .second, .val (.int p2), .val (.ref b1), .val (.int (Int32.ofNat n)), .val (.long (own_h f (min 5 n))), .second] [(.int (5 : Int32)), (.int (Int32.ofNat n))])) _
      refine XS.icmpYes X26.here hx rfl (pc0 := 172) (pc' := 185) rfl (hb hby at_172) rfl (flt (hc5 : ¬ ((5 : Int32) < (Int32.ofNat n)))).2.2.2 (by decide) (by decide) ?_
      show Steps p.tables e below (T26.setTop (mkF m 185 #[.val (.long q1), .second, .val (.int p2), .val (.ref b1), .val (.int (Int32.ofNat n)), .val (.long (own_h f (min 5 n))), .second] [])) _
      rw [← hmb5]
      exact kt
  obtain ⟨T30, L30, X30, e30, N30, st30⟩ : ∃ (T' : State) (L' : List Loc), Stand p l e room_1 s m #[(.long q1), (.int p2)] below meth c T' L' 1 8 ∧ T'.heap = h17 ∧ Fr n0 L' ∧ ∀ target, Steps p.tables e below (T'.setTop (mkF m 203 #[.val (.long q1), .second, .val (.int p2), .val (.ref b1), .val (.int (Int32.ofNat n)), .val (.long (own_h f (min 7 n))), .second] [])) target → Steps p.tables e below (T28.setTop (mkF m 185 #[.val (.long q1), .second, .val (.int p2), .val (.ref b1), .val (.int (Int32.ofNat n)), .val (.long (own_h f (min 6 n))), .second] [])) target := by
    by_cases hc6 : (6 : Int32) < (Int32.ofNat n)
    · have hk6 : 6 < n := own_lt n hn 6 (by decide) hc6
      have hma6 : own_h f (min 6 n) = own_h f 6 := by rw [Nat.min_eq_left (by omega)]
      have hmb6 : own_h f (min 7 n) = own_step (own_h f 6) (f 6) := by rw [Nat.min_eq_left (by omega)]; rfl
      obtain ⟨_, _, ⟨T31, L31, k31, n31⟩, -, X31, ⟨Lc31, hQ31, l31, y31, z31⟩, st31⟩ := Jvm.LawKit.callS X28 hx (y := (⟨"com/example/keelson/keelson/core/checkpoint/StateFilesHashPinLaw", "step", "(JB)J"⟩ : MethodName)) hown (mvT hZ (hw _ (List.mem_of_getElem? (i := 3) rfl))) (mvT hZ (hw _ (List.mem_of_getElem? (i := 4) rfl))) (mvT hZ (hw _ (List.mem_of_getElem? (i := 5) rfl))) (mvT hZ (hw _ (List.mem_of_getElem? (i := 6) rfl))) (by decide) (backOf (W := 0) (rm1 l Z a0 hw [] (own_h f 6) (f 6) h17 n0 Zs17) hZ (hw _ (List.mem_of_getElem? (i := 6) rfl)) (hw _ (List.mem_of_getElem? (i := 5) rfl)) (by decide) (by decide)) (g := (mkF m 198 #[.val (.long q1), .second, .val (.int p2), .val (.ref b1), .val (.int (Int32.ofNat n)), .val (.long (own_h f 6)), .second] [(.int (f 6)), (.long (own_h f 6))])) rfl (by rw [hml]; rfl) (argsL := [(.long (own_h f 6)), (.int (f 6))]) (rest := []) (lenOf pd0_0 rfl) rfl (by show 2 * 0 + _ ≤ _; exact Nat.le_of_eq rfl) (hb hby at_198) (fun _ _ => ⟨rfl, e28, (by decide : 1 + 0 ≤ _), (by decide : 8 + 0 ≤ _)⟩)
      dsimp only [Pt.U, Pt.locs, Pt.cells, Pt.slots] at X31 l31 y31 z31 st31 hQ31
      subst l31 y31 z31
      obtain ⟨rfl, Nq31, e31⟩ := hQ31
      have N31 := Fr.app N28 Nq31
      refine ⟨T31, _, X31, e31, N31, fun target kt => ?_⟩
      show Steps p.tables e below (T28.setTop (mkF m 185 #[.val (.long q1), .second, .val (.int p2), .val (.ref b1), .val (.int (Int32.ofNat n)), .val (.long (own_h f (min 6 n))), .second] [])) _
      refine XS.iload X28.here hx rfl (hb hby at_185) rfl ?_
      show Steps p.tables e below (T28.setTop (mkF m 187 #[.val (.long q1), .second, .val (.int p2), .val (.ref b1), .val (.int (Int32.ofNat n)), .val (.long (own_h f (min 6 n))), .second] [(.int (Int32.ofNat n))])) _
      refine XS.bipush X28.here hx rfl (hb hby at_187) ?_
      show Steps p.tables e below (T28.setTop (mkF m 189 #[.val (.long q1), .second, .val (.int p2), .val (.ref b1), .val (.int (Int32.ofNat n)), .val (.long (own_h f (min 6 n))), .second] [(.int (6 : Int32)), (.int (Int32.ofNat n))])) _
      refine XS.icmpNo X28.here hx rfl (hb hby at_189) rfl (tlt (hc6 : (6 : Int32) < (Int32.ofNat n))).2.2.2 ?_
      show Steps p.tables e below (T28.setTop (mkF m 192 #[.val (.long q1), .second, .val (.int p2), .val (.ref b1), .val (.int (Int32.ofNat n)), .val (.long (own_h f (min 6 n))), .second] [])) _
      rw [hma6]
      show Steps p.tables e below (T28.setTop (mkF m 192 #[.val (.long q1), .second, .val (.int p2), .val (.ref b1), .val (.int (Int32.ofNat n)), .val (.long (own_h f 6)), .second] [])) _
      refine XS.lload X28.here hx rfl (hb hby at_192) rfl ?_
      show Steps p.tables e below (T28.setTop (mkF m 194 #[.val (.long q1), .second, .val (.int p2), .val (.ref b1), .val (.int (Int32.ofNat n)), .val (.long (own_h f 6)), .second] [(.long (own_h f 6))])) _
      refine XS.aloadN X28.here hx rfl (hb hby at_194) rfl rfl ?_
      show Steps p.tables e below (T28.setTop (mkF m 195 #[.val (.long q1), .second, .val (.int p2), .val (.ref b1), .val (.int (Int32.ofNat n)), .val (.long (own_h f 6)), .second] [(.ref b1), (.long (own_h f 6))])) _
      refine XS.bipush X28.here hx rfl (hb hby at_195) ?_
      show Steps p.tables e below (T28.setTop (mkF m 197 #[.val (.long q1), .second, .val (.int p2), .val (.ref b1), .val (.int (Int32.ofNat n)), .val (.long (own_h f 6)), .second] [(.int (6 : Int32)), (.ref b1), (.long (own_h f 6))])) _
      refine X28.baloadBytes hx (j := (6 : Int32)) (v := (.int (f 6))) (by rw [e28]; exact Ar.1) (State.isArrayOf_alike hZ.alike Ar.2.1) Ar.2.2 (hin 6 (by decide)) (hats 6 (by decide)) (g := (mkF m 197 #[.val (.long q1), .second, .val (.int p2), .val (.ref b1), .val (.int (Int32.ofNat n)), .val (.long (own_h f 6)), .second] [(.int (6 : Int32)), (.ref b1), (.long (own_h f 6))])) rfl rfl (hb hby at_197) _ ?_
      show Steps p.tables e below (T28.setTop (mkF m 198 #[.val (.long q1), .second, .val (.int p2), .val (.ref b1), .val (.int (Int32.ofNat n)), .val (.long (own_h f 6)), .second] [(.int (f 6)), (.long (own_h f 6))])) _
      refine st31 _ ?_
      show Steps p.tables e below (T31.setTop (mkF m 201 #[.val (.long q1), .second, .val (.int p2), .val (.ref b1), .val (.int (Int32.ofNat n)), .val (.long (own_h f 6)), .second] [(.long (own_step (own_h f 6) (f 6)))])) _
      refine XS.lstore X31.here hx rfl (hb hby at_201) rfl (l' := #[.val (.long q1), .second, .val (.int p2), .val (.ref b1), .val (.int (Int32.ofNat n)), .val (.long (own_step (own_h f 6) (f 6))), .second]) rfl ?_
      show Steps p.tables e below (T31.setTop (mkF m 203 #[.val (.long q1), .second, .val (.int p2), .val (.ref b1), .val (.int (Int32.ofNat n)), .val (.long (own_step (own_h f 6) (f 6))), .second] [])) _
      rw [← hmb6]
      exact kt
    · have hk6 : n ≤ 6 := own_nlt n hn 6 (by decide) hc6
      have hmb6 : own_h f (min 7 n) = own_h f (min 6 n) := by rw [Nat.min_eq_right (by omega), Nat.min_eq_right (by omega)]
      refine ⟨T28, _, X28, e28, N28, fun target kt => ?_⟩
      show Steps p.tables e below (T28.setTop (mkF m 185 #[.val (.long q1), .second, .val (.int p2), .val (.ref b1), .val (.int (Int32.ofNat n)), .val (.long (own_h f (min 6 n))), .second] [])) _
      refine XS.iload X28.here hx rfl (hb hby at_185) rfl ?_
      show Steps p.tables e below (T28.setTop (mkF m 187 #[.val (.long q1), .second, .val (.int p2), .val (.ref b1), .val (.int (Int32.ofNat n)), .val (.long (own_h f (min 6 n))), .second] [(.int (Int32.ofNat n))])) _
      refine XS.bipush X28.here hx rfl (hb hby at_187) ?_
      show Steps p.tables e below (T28.setTop (mkF m 189 #[.val (.long q1), .second, .val (.int p2), .val (.ref b1), .val (.int (Int32.ofNat n)), .val (.long (own_h f (min 6 n))), .second] [(.int (6 : Int32)), (.int (Int32.ofNat n))])) _
      refine XS.icmpYes X28.here hx rfl (pc0 := 189) (pc' := 203) rfl (hb hby at_189) rfl (flt (hc6 : ¬ ((6 : Int32) < (Int32.ofNat n)))).2.2.2 (by decide) (by decide) ?_
      show Steps p.tables e below (T28.setTop (mkF m 203 #[.val (.long q1), .second, .val (.int p2), .val (.ref b1), .val (.int (Int32.ofNat n)), .val (.long (own_h f (min 6 n))), .second] [])) _
      rw [← hmb6]
      exact kt
  obtain ⟨T32, L32, X32, e32, N32, st32⟩ : ∃ (T' : State) (L' : List Loc), Stand p l e room_1 s m #[(.long q1), (.int p2)] below meth c T' L' 1 8 ∧ T'.heap = h17 ∧ Fr n0 L' ∧ ∀ target, Steps p.tables e below (T'.setTop (mkF m 221 #[.val (.long q1), .second, .val (.int p2), .val (.ref b1), .val (.int (Int32.ofNat n)), .val (.long (own_h f (min 8 n))), .second] [])) target → Steps p.tables e below (T30.setTop (mkF m 203 #[.val (.long q1), .second, .val (.int p2), .val (.ref b1), .val (.int (Int32.ofNat n)), .val (.long (own_h f (min 7 n))), .second] [])) target := by
    by_cases hc7 : (7 : Int32) < (Int32.ofNat n)
    · have hk7 : 7 < n := own_lt n hn 7 (by decide) hc7
      have hma7 : own_h f (min 7 n) = own_h f 7 := by rw [Nat.min_eq_left (by omega)]
      have hmb7 : own_h f (min 8 n) = own_step (own_h f 7) (f 7) := by rw [Nat.min_eq_left (by omega)]; rfl
      obtain ⟨_, _, ⟨T33, L33, k33, n33⟩, -, X33, ⟨Lc33, hQ33, l33, y33, z33⟩, st33⟩ := Jvm.LawKit.callS X30 hx (y := (⟨"com/example/keelson/keelson/core/checkpoint/StateFilesHashPinLaw", "step", "(JB)J"⟩ : MethodName)) hown (mvT hZ (hw _ (List.mem_of_getElem? (i := 3) rfl))) (mvT hZ (hw _ (List.mem_of_getElem? (i := 4) rfl))) (mvT hZ (hw _ (List.mem_of_getElem? (i := 5) rfl))) (mvT hZ (hw _ (List.mem_of_getElem? (i := 6) rfl))) (by decide) (backOf (W := 0) (rm1 l Z a0 hw [] (own_h f 7) (f 7) h17 n0 Zs17) hZ (hw _ (List.mem_of_getElem? (i := 6) rfl)) (hw _ (List.mem_of_getElem? (i := 5) rfl)) (by decide) (by decide)) (g := (mkF m 216 #[.val (.long q1), .second, .val (.int p2), .val (.ref b1), .val (.int (Int32.ofNat n)), .val (.long (own_h f 7)), .second] [(.int (f 7)), (.long (own_h f 7))])) rfl (by rw [hml]; rfl) (argsL := [(.long (own_h f 7)), (.int (f 7))]) (rest := []) (lenOf pd0_0 rfl) rfl (by show 2 * 0 + _ ≤ _; exact Nat.le_of_eq rfl) (hb hby at_216) (fun _ _ => ⟨rfl, e30, (by decide : 1 + 0 ≤ _), (by decide : 8 + 0 ≤ _)⟩)
      dsimp only [Pt.U, Pt.locs, Pt.cells, Pt.slots] at X33 l33 y33 z33 st33 hQ33
      subst l33 y33 z33
      obtain ⟨rfl, Nq33, e33⟩ := hQ33
      have N33 := Fr.app N30 Nq33
      refine ⟨T33, _, X33, e33, N33, fun target kt => ?_⟩
      show Steps p.tables e below (T30.setTop (mkF m 203 #[.val (.long q1), .second, .val (.int p2), .val (.ref b1), .val (.int (Int32.ofNat n)), .val (.long (own_h f (min 7 n))), .second] [])) _
      refine XS.iload X30.here hx rfl (hb hby at_203) rfl ?_
      show Steps p.tables e below (T30.setTop (mkF m 205 #[.val (.long q1), .second, .val (.int p2), .val (.ref b1), .val (.int (Int32.ofNat n)), .val (.long (own_h f (min 7 n))), .second] [(.int (Int32.ofNat n))])) _
      refine XS.bipush X30.here hx rfl (hb hby at_205) ?_
      show Steps p.tables e below (T30.setTop (mkF m 207 #[.val (.long q1), .second, .val (.int p2), .val (.ref b1), .val (.int (Int32.ofNat n)), .val (.long (own_h f (min 7 n))), .second] [(.int (7 : Int32)), (.int (Int32.ofNat n))])) _
      refine XS.icmpNo X30.here hx rfl (hb hby at_207) rfl (tlt (hc7 : (7 : Int32) < (Int32.ofNat n))).2.2.2 ?_
      show Steps p.tables e below (T30.setTop (mkF m 210 #[.val (.long q1), .second, .val (.int p2), .val (.ref b1), .val (.int (Int32.ofNat n)), .val (.long (own_h f (min 7 n))), .second] [])) _
      rw [hma7]
      show Steps p.tables e below (T30.setTop (mkF m 210 #[.val (.long q1), .second, .val (.int p2), .val (.ref b1), .val (.int (Int32.ofNat n)), .val (.long (own_h f 7)), .second] [])) _
      refine XS.lload X30.here hx rfl (hb hby at_210) rfl ?_
      show Steps p.tables e below (T30.setTop (mkF m 212 #[.val (.long q1), .second, .val (.int p2), .val (.ref b1), .val (.int (Int32.ofNat n)), .val (.long (own_h f 7)), .second] [(.long (own_h f 7))])) _
      refine XS.aloadN X30.here hx rfl (hb hby at_212) rfl rfl ?_
      show Steps p.tables e below (T30.setTop (mkF m 213 #[.val (.long q1), .second, .val (.int p2), .val (.ref b1), .val (.int (Int32.ofNat n)), .val (.long (own_h f 7)), .second] [(.ref b1), (.long (own_h f 7))])) _
      refine XS.bipush X30.here hx rfl (hb hby at_213) ?_
      show Steps p.tables e below (T30.setTop (mkF m 215 #[.val (.long q1), .second, .val (.int p2), .val (.ref b1), .val (.int (Int32.ofNat n)), .val (.long (own_h f 7)), .second] [(.int (7 : Int32)), (.ref b1), (.long (own_h f 7))])) _
      refine X30.baloadBytes hx (j := (7 : Int32)) (v := (.int (f 7))) (by rw [e30]; exact Ar.1) (State.isArrayOf_alike hZ.alike Ar.2.1) Ar.2.2 (hin 7 (by decide)) (hats 7 (by decide)) (g := (mkF m 215 #[.val (.long q1), .second, .val (.int p2), .val (.ref b1), .val (.int (Int32.ofNat n)), .val (.long (own_h f 7)), .second] [(.int (7 : Int32)), (.ref b1), (.long (own_h f 7))])) rfl rfl (hb hby at_215) _ ?_
      show Steps p.tables e below (T30.setTop (mkF m 216 #[.val (.long q1), .second, .val (.int p2), .val (.ref b1), .val (.int (Int32.ofNat n)), .val (.long (own_h f 7)), .second] [(.int (f 7)), (.long (own_h f 7))])) _
      refine st33 _ ?_
      show Steps p.tables e below (T33.setTop (mkF m 219 #[.val (.long q1), .second, .val (.int p2), .val (.ref b1), .val (.int (Int32.ofNat n)), .val (.long (own_h f 7)), .second] [(.long (own_step (own_h f 7) (f 7)))])) _
      refine XS.lstore X33.here hx rfl (hb hby at_219) rfl (l' := #[.val (.long q1), .second, .val (.int p2), .val (.ref b1), .val (.int (Int32.ofNat n)), .val (.long (own_step (own_h f 7) (f 7))), .second]) rfl ?_
      show Steps p.tables e below (T33.setTop (mkF m 221 #[.val (.long q1), .second, .val (.int p2), .val (.ref b1), .val (.int (Int32.ofNat n)), .val (.long (own_step (own_h f 7) (f 7))), .second] [])) _
      rw [← hmb7]
      exact kt
    · have hk7 : n ≤ 7 := own_nlt n hn 7 (by decide) hc7
      have hmb7 : own_h f (min 8 n) = own_h f (min 7 n) := by rw [Nat.min_eq_right (by omega), Nat.min_eq_right (by omega)]
      refine ⟨T30, _, X30, e30, N30, fun target kt => ?_⟩
      show Steps p.tables e below (T30.setTop (mkF m 203 #[.val (.long q1), .second, .val (.int p2), .val (.ref b1), .val (.int (Int32.ofNat n)), .val (.long (own_h f (min 7 n))), .second] [])) _
      refine XS.iload X30.here hx rfl (hb hby at_203) rfl ?_
      show Steps p.tables e below (T30.setTop (mkF m 205 #[.val (.long q1), .second, .val (.int p2), .val (.ref b1), .val (.int (Int32.ofNat n)), .val (.long (own_h f (min 7 n))), .second] [(.int (Int32.ofNat n))])) _
      refine XS.bipush X30.here hx rfl (hb hby at_205) ?_
      show Steps p.tables e below (T30.setTop (mkF m 207 #[.val (.long q1), .second, .val (.int p2), .val (.ref b1), .val (.int (Int32.ofNat n)), .val (.long (own_h f (min 7 n))), .second] [(.int (7 : Int32)), (.int (Int32.ofNat n))])) _
      refine XS.icmpYes X30.here hx rfl (pc0 := 207) (pc' := 221) rfl (hb hby at_207) rfl (flt (hc7 : ¬ ((7 : Int32) < (Int32.ofNat n)))).2.2.2 (by decide) (by decide) ?_
      show Steps p.tables e below (T30.setTop (mkF m 221 #[.val (.long q1), .second, .val (.int p2), .val (.ref b1), .val (.int (Int32.ofNat n)), .val (.long (own_h f (min 7 n))), .second] [])) _
      rw [← hmb7]
      exact kt
  obtain ⟨_, _, ⟨T34, L34, k34, n34⟩, -, X34, ⟨Lc34, hQ34, l34, y34, z34⟩, st34⟩ := Jvm.LawKit.callS X32 hx (y := (⟨"com/example/keelson/keelson/core/checkpoint/StateFiles", "hash", "([BI)J"⟩ : MethodName)) hown (mvT hZ (hw _ (List.mem_of_getElem? (i := 8) rfl))) (mvT hZ (hw _ (List.mem_of_getElem? (i := 9) rfl))) (mvT hZ (hw _ (List.mem_of_getElem? (i := 10) rfl))) (mvT hZ (hw _ (List.mem_of_getElem? (i := 11) rfl))) (by decide) (backOf (W := 0) (rm3 l Z a0 hw [] b1 n f cl h17 n0 Zs17 hn Ar Sz hat) hZ (hw _ (List.mem_of_getElem? (i := 11) rfl)) (hw _ (List.mem_of_getElem? (i := 10) rfl)) (by decide) (by decide)) (g := (mkF m 224 #[.val (.long q1), .second, .val (.int p2), .val (.ref b1), .val (.int (Int32.ofNat n)), .val (.long (own_h f (min 8 n))), .second] [(.int (Int32.ofNat n)), (.ref b1)])) rfl (by rw [hml]; rfl) (argsL := [(.ref b1), (.int (Int32.ofNat n))]) (rest := []) (lenOf pd0_1 rfl) rfl (by show 2 * 0 + _ ≤ _; exact Nat.le_of_eq rfl) (hb hby at_224) (fun _ _ => ⟨rfl, e32, (by decide : 1 + 0 ≤ _), (by decide : 8 + 0 ≤ _)⟩)
  dsimp only [Pt.U, Pt.locs, Pt.cells, Pt.slots] at X34 l34 y34 z34 st34 hQ34
  subst l34 y34 z34
  obtain ⟨rfl, Nq34, e34⟩ := hQ34
  have N34 := Fr.app N32 Nq34
  obtain ⟨_, _, ⟨T35, L35, k35, n35⟩, -, X35, ⟨Lc35, hQ35, l35, y35, z35⟩, st35⟩ := Jvm.LawKit.callS X34 hx (y := (⟨"com/example/keelson/keelson/core/checkpoint/StateFilesHashPinLaw", "mix", "(J)J"⟩ : MethodName)) hown (mvT hZ (hw _ (List.mem_of_getElem? (i := 16) rfl))) (mvT hZ (hw _ (List.mem_of_getElem? (i := 17) rfl))) (mvT hZ (hw _ (List.mem_of_getElem? (i := 5) rfl))) (mvT hZ (hw _ (List.mem_of_getElem? (i := 18) rfl))) (by decide) (backOf (W := 2) (rm2 l Z a0 hw [] (own_h f (min 8 n)) h17 n0 Zs17) hZ (hw _ (List.mem_of_getElem? (i := 18) rfl)) (hw _ (List.mem_of_getElem? (i := 5) rfl)) (by decide) (by decide)) (g := (mkF m 229 #[.val (.long q1), .second, .val (.int p2), .val (.ref b1), .val (.int (Int32.ofNat n)), .val (.long (own_h f (min 8 n))), .second] [(.long (own_h f (min 8 n))), (.long (own_mix (own_h f n)))])) rfl (by rw [hml]; rfl) (argsL := [(.long (own_h f (min 8 n)))]) (rest := [(.long (own_mix (own_h f n)))]) (lenOf pd0_2 rfl) rfl (by show 2 * 0 + _ ≤ _; exact Nat.le_of_eq rfl) (hb hby at_229) (fun _ _ => ⟨rfl, e34, (by decide : 1 + 0 ≤ _), (by decide : 8 + 0 ≤ _)⟩)
  dsimp only [Pt.U, Pt.locs, Pt.cells, Pt.slots] at X35 l35 y35 z35 st35 hQ35
  subst l35 y35 z35
  obtain ⟨rfl, Nq35, e35⟩ := hQ35
  have N35 := Fr.app N34 Nq35
  obtain ⟨fs, hr, hrun, hended, hW, hsame⟩ := X35.leave (v := some (.int (1 : Int32))) (fun h => by rw [Bd.returns] at h; cases h)
  refine ⟨_, _, pre0 _ ?_, hrun, hended, _, _, rfl, ?_, ⟨_, rfl⟩, hW, hsame.mono (by decide) (by decide)⟩
  · show Steps p.tables e below (s₁.setTop (mkF m 0 #[.val (.long q1), .second, .val (.int p2), .unset, .unset, .unset, .unset] [])) _
    refine XS.bipush X0.here hx rfl (hb hby at_0) ?_
    show Steps p.tables e below (s₁.setTop (mkF m 2 #[.val (.long q1), .second, .val (.int p2), .unset, .unset, .unset, .unset] [(.int (8 : Int32))])) _
    refine st1 _ ?_
    show Steps p.tables e below (T1.setTop (mkF m 4 #[.val (.long q1), .second, .val (.int p2), .unset, .unset, .unset, .unset] [(.ref b1)])) _
    refine XS.astoreN X1.here hx rfl (hb hby at_4) rfl rfl (l' := #[.val (.long q1), .second, .val (.int p2), .val (.ref b1), .unset, .unset, .unset]) rfl ?_
    show Steps p.tables e below (T1.setTop (mkF m 5 #[.val (.long q1), .second, .val (.int p2), .val (.ref b1), .unset, .unset, .unset] [])) _
    refine XS.aloadN X1.here hx rfl (hb hby at_5) rfl rfl ?_
    show Steps p.tables e below (T1.setTop (mkF m 6 #[.val (.long q1), .second, .val (.int p2), .val (.ref b1), .unset, .unset, .unset] [(.ref b1)])) _
    refine XS.iconst X1.here hx rfl (hb hby at_6) ?_
    show Steps p.tables e below (T1.setTop (mkF m 7 #[.val (.long q1), .second, .val (.int p2), .val (.ref b1), .unset, .unset, .unset] [(.int (0 : Int32)), (.ref b1)])) _
    refine XS.lloadN X1.here hx rfl (hb hby at_7) rfl ?_
    show Steps p.tables e below (T1.setTop (mkF m 8 #[.val (.long q1), .second, .val (.int p2), .val (.ref b1), .unset, .unset, .unset] [(.long q1), (.int (0 : Int32)), (.ref b1)])) _
    refine XS.l2i X1.here hx rfl (hb hby at_8) rfl ?_
    show Steps p.tables e below (T1.setTop (mkF m 9 #[.val (.long q1), .second, .val (.int p2), .val (.ref b1), .unset, .unset, .unset] [(.int (q1.toInt32)), (.int (0 : Int32)), (.ref b1)])) _
    refine XS.i2b X1.here hx rfl (hb hby at_9) rfl ?_
    show Steps p.tables e below (T1.setTop (mkF m 10 #[.val (.long q1), .second, .val (.int p2), .val (.ref b1), .unset, .unset, .unset] [(.int ((q1.toInt32).toInt8.toInt32)), (.int (0 : Int32)), (.ref b1)])) _
    rw [← ec0]
    show Steps p.tables e below (T1.setTop (mkF m 10 #[.val (.long q1), .second, .val (.int p2), .val (.ref b1), .unset, .unset, .unset] [(.int c0), (.int (0 : Int32)), (.ref b1)])) _
    refine st3 _ ?_
    show Steps p.tables e below (T3.setTop (mkF m 11 #[.val (.long q1), .second, .val (.int p2), .val (.ref b1), .unset, .unset, .unset] [])) _
    refine XS.aloadN X3.here hx rfl (hb hby at_11) rfl rfl ?_
    show Steps p.tables e below (T3.setTop (mkF m 12 #[.val (.long q1), .second, .val (.int p2), .val (.ref b1), .unset, .unset, .unset] [(.ref b1)])) _
    refine XS.iconst X3.here hx rfl (hb hby at_12) ?_
    show Steps p.tables e below (T3.setTop (mkF m 13 #[.val (.long q1), .second, .val (.int p2), .val (.ref b1), .unset, .unset, .unset] [(.int (1 : Int32)), (.ref b1)])) _
    refine XS.lloadN X3.here hx rfl (hb hby at_13) rfl ?_
    show Steps p.tables e below (T3.setTop (mkF m 14 #[.val (.long q1), .second, .val (.int p2), .val (.ref b1), .unset, .unset, .unset] [(.long q1), (.int (1 : Int32)), (.ref b1)])) _
    refine XS.bipush X3.here hx rfl (hb hby at_14) ?_
    show Steps p.tables e below (T3.setTop (mkF m 16 #[.val (.long q1), .second, .val (.int p2), .val (.ref b1), .unset, .unset, .unset] [(.int (8 : Int32)), (.long q1), (.int (1 : Int32)), (.ref b1)])) _
    refine XS.lushr X3.here hx rfl (hb hby at_16) rfl ?_
    show Steps p.tables e below (T3.setTop (mkF m 17 #[.val (.long q1), .second, .val (.int p2), .val (.ref b1), .unset, .unset, .unset] [(.long ((q1.toUInt64 >>> ((8 : Int32) &&& 0x3f).toInt64.toUInt64).toInt64)), (.int (1 : Int32)), (.ref b1)])) _
    refine XS.l2i X3.here hx rfl (hb hby at_17) rfl ?_
    show Steps p.tables e below (T3.setTop (mkF m 18 #[.val (.long q1), .second, .val (.int p2), .val (.ref b1), .unset, .unset, .unset] [(.int (((q1.toUInt64 >>> ((8 : Int32) &&& 0x3f).toInt64.toUInt64).toInt64).toInt32)), (.int (1 : Int32)), (.ref b1)])) _
    refine XS.i2b X3.here hx rfl (hb hby at_18) rfl ?_
    show Steps p.tables e below (T3.setTop (mkF m 19 #[.val (.long q1), .second, .val (.int p2), .val (.ref b1), .unset, .unset, .unset] [(.int ((((q1.toUInt64 >>> ((8 : Int32) &&& 0x3f).toInt64.toUInt64).toInt64).toInt32).toInt8.toInt32)), (.int (1 : Int32)), (.ref b1)])) _
    rw [← ec1]
    show Steps p.tables e below (T3.setTop (mkF m 19 #[.val (.long q1), .second, .val (.int p2), .val (.ref b1), .unset, .unset, .unset] [(.int c1), (.int (1 : Int32)), (.ref b1)])) _
    refine st5 _ ?_
    show Steps p.tables e below (T5.setTop (mkF m 20 #[.val (.long q1), .second, .val (.int p2), .val (.ref b1), .unset, .unset, .unset] [])) _
    refine XS.aloadN X5.here hx rfl (hb hby at_20) rfl rfl ?_
    show Steps p.tables e below (T5.setTop (mkF m 21 #[.val (.long q1), .second, .val (.int p2), .val (.ref b1), .unset, .unset, .unset] [(.ref b1)])) _
    refine XS.iconst X5.here hx rfl (hb hby at_21) ?_
    show Steps p.tables e below (T5.setTop (mkF m 22 #[.val (.long q1), .second, .val (.int p2), .val (.ref b1), .unset, .unset, .unset] [(.int (2 : Int32)), (.ref b1)])) _
    refine XS.lloadN X5.here hx rfl (hb hby at_22) rfl ?_
    show Steps p.tables e below (T5.setTop (mkF m 23 #[.val (.long q1), .second, .val (.int p2), .val (.ref b1), .unset, .unset, .unset] [(.long q1), (.int (2 : Int32)), (.ref b1)])) _
    refine XS.bipush X5.here hx rfl (hb hby at_23) ?_
    show Steps p.tables e below (T5.setTop (mkF m 25 #[.val (.long q1), .second, .val (.int p2), .val (.ref b1), .unset, .unset, .unset] [(.int (16 : Int32)), (.long q1), (.int (2 : Int32)), (.ref b1)])) _
    refine XS.lushr X5.here hx rfl (hb hby at_25) rfl ?_
    show Steps p.tables e below (T5.setTop (mkF m 26 #[.val (.long q1), .second, .val (.int p2), .val (.ref b1), .unset, .unset, .unset] [(.long ((q1.toUInt64 >>> ((16 : Int32) &&& 0x3f).toInt64.toUInt64).toInt64)), (.int (2 : Int32)), (.ref b1)])) _
    refine XS.l2i X5.here hx rfl (hb hby at_26) rfl ?_
    show Steps p.tables e below (T5.setTop (mkF m 27 #[.val (.long q1), .second, .val (.int p2), .val (.ref b1), .unset, .unset, .unset] [(.int (((q1.toUInt64 >>> ((16 : Int32) &&& 0x3f).toInt64.toUInt64).toInt64).toInt32)), (.int (2 : Int32)), (.ref b1)])) _
    refine XS.i2b X5.here hx rfl (hb hby at_27) rfl ?_
    show Steps p.tables e below (T5.setTop (mkF m 28 #[.val (.long q1), .second, .val (.int p2), .val (.ref b1), .unset, .unset, .unset] [(.int ((((q1.toUInt64 >>> ((16 : Int32) &&& 0x3f).toInt64.toUInt64).toInt64).toInt32).toInt8.toInt32)), (.int (2 : Int32)), (.ref b1)])) _
    rw [← ec2]
    show Steps p.tables e below (T5.setTop (mkF m 28 #[.val (.long q1), .second, .val (.int p2), .val (.ref b1), .unset, .unset, .unset] [(.int c2), (.int (2 : Int32)), (.ref b1)])) _
    refine st7 _ ?_
    show Steps p.tables e below (T7.setTop (mkF m 29 #[.val (.long q1), .second, .val (.int p2), .val (.ref b1), .unset, .unset, .unset] [])) _
    refine XS.aloadN X7.here hx rfl (hb hby at_29) rfl rfl ?_
    show Steps p.tables e below (T7.setTop (mkF m 30 #[.val (.long q1), .second, .val (.int p2), .val (.ref b1), .unset, .unset, .unset] [(.ref b1)])) _
    refine XS.iconst X7.here hx rfl (hb hby at_30) ?_
    show Steps p.tables e below (T7.setTop (mkF m 31 #[.val (.long q1), .second, .val (.int p2), .val (.ref b1), .unset, .unset, .unset] [(.int (3 : Int32)), (.ref b1)])) _
    refine XS.lloadN X7.here hx rfl (hb hby at_31) rfl ?_
    show Steps p.tables e below (T7.setTop (mkF m 32 #[.val (.long q1), .second, .val (.int p2), .val (.ref b1), .unset, .unset, .unset] [(.long q1), (.int (3 : Int32)), (.ref b1)])) _
    refine XS.bipush X7.here hx rfl (hb hby at_32) ?_
    show Steps p.tables e below (T7.setTop (mkF m 34 #[.val (.long q1), .second, .val (.int p2), .val (.ref b1), .unset, .unset, .unset] [(.int (24 : Int32)), (.long q1), (.int (3 : Int32)), (.ref b1)])) _
    refine XS.lushr X7.here hx rfl (hb hby at_34) rfl ?_
    show Steps p.tables e below (T7.setTop (mkF m 35 #[.val (.long q1), .second, .val (.int p2), .val (.ref b1), .unset, .unset, .unset] [(.long ((q1.toUInt64 >>> ((24 : Int32) &&& 0x3f).toInt64.toUInt64).toInt64)), (.int (3 : Int32)), (.ref b1)])) _
    refine XS.l2i X7.here hx rfl (hb hby at_35) rfl ?_
    show Steps p.tables e below (T7.setTop (mkF m 36 #[.val (.long q1), .second, .val (.int p2), .val (.ref b1), .unset, .unset, .unset] [(.int (((q1.toUInt64 >>> ((24 : Int32) &&& 0x3f).toInt64.toUInt64).toInt64).toInt32)), (.int (3 : Int32)), (.ref b1)])) _
    refine XS.i2b X7.here hx rfl (hb hby at_36) rfl ?_
    show Steps p.tables e below (T7.setTop (mkF m 37 #[.val (.long q1), .second, .val (.int p2), .val (.ref b1), .unset, .unset, .unset] [(.int ((((q1.toUInt64 >>> ((24 : Int32) &&& 0x3f).toInt64.toUInt64).toInt64).toInt32).toInt8.toInt32)), (.int (3 : Int32)), (.ref b1)])) _
    rw [← ec3]
    show Steps p.tables e below (T7.setTop (mkF m 37 #[.val (.long q1), .second, .val (.int p2), .val (.ref b1), .unset, .unset, .unset] [(.int c3), (.int (3 : Int32)), (.ref b1)])) _
    refine st9 _ ?_
    show Steps p.tables e below (T9.setTop (mkF m 38 #[.val (.long q1), .second, .val (.int p2), .val (.ref b1), .unset, .unset, .unset] [])) _
    refine XS.aloadN X9.here hx rfl (hb hby at_38) rfl rfl ?_
    show Steps p.tables e below (T9.setTop (mkF m 39 #[.val (.long q1), .second, .val (.int p2), .val (.ref b1), .unset, .unset, .unset] [(.ref b1)])) _
    refine XS.iconst X9.here hx rfl (hb hby at_39) ?_
    show Steps p.tables e below (T9.setTop (mkF m 40 #[.val (.long q1), .second, .val (.int p2), .val (.ref b1), .unset, .unset, .unset] [(.int (4 : Int32)), (.ref b1)])) _
    refine XS.lloadN X9.here hx rfl (hb hby at_40) rfl ?_
    show Steps p.tables e below (T9.setTop (mkF m 41 #[.val (.long q1), .second, .val (.int p2), .val (.ref b1), .unset, .unset, .unset] [(.long q1), (.int (4 : Int32)), (.ref b1)])) _
    refine XS.bipush X9.here hx rfl (hb hby at_41) ?_
    show Steps p.tables e below (T9.setTop (mkF m 43 #[.val (.long q1), .second, .val (.int p2), .val (.ref b1), .unset, .unset, .unset] [(.int (32 : Int32)), (.long q1), (.int (4 : Int32)), (.ref b1)])) _
    refine XS.lushr X9.here hx rfl (hb hby at_43) rfl ?_
    show Steps p.tables e below (T9.setTop (mkF m 44 #[.val (.long q1), .second, .val (.int p2), .val (.ref b1), .unset, .unset, .unset] [(.long ((q1.toUInt64 >>> ((32 : Int32) &&& 0x3f).toInt64.toUInt64).toInt64)), (.int (4 : Int32)), (.ref b1)])) _
    refine XS.l2i X9.here hx rfl (hb hby at_44) rfl ?_
    show Steps p.tables e below (T9.setTop (mkF m 45 #[.val (.long q1), .second, .val (.int p2), .val (.ref b1), .unset, .unset, .unset] [(.int (((q1.toUInt64 >>> ((32 : Int32) &&& 0x3f).toInt64.toUInt64).toInt64).toInt32)), (.int (4 : Int32)), (.ref b1)])) _
    refine XS.i2b X9.here hx rfl (hb hby at_45) rfl ?_
    show Steps p.tables e below (T9.setTop (mkF m 46 #[.val (.long q1), .second, .val (.int p2), .val (.ref b1), .unset, .unset, .unset] [(.int ((((q1.toUInt64 >>> ((32 : Int32) &&& 0x3f).toInt64.toUInt64).toInt64).toInt32).toInt8.toInt32)), (.int (4 : Int32)), (.ref b1)])) _
    rw [← ec4]
    show Steps p.tables e below (T9.setTop (mkF m 46 #[.val (.long q1), .second, .val (.int p2), .val (.ref b1), .unset, .unset, .unset] [(.int c4), (.int (4 : Int32)), (.ref b1)])) _
    refine st11 _ ?_
    show Steps p.tables e below (T11.setTop (mkF m 47 #[.val (.long q1), .second, .val (.int p2), .val (.ref b1), .unset, .unset, .unset] [])) _
    refine XS.aloadN X11.here hx rfl (hb hby at_47) rfl rfl ?_
    show Steps p.tables e below (T11.setTop (mkF m 48 #[.val (.long q1), .second, .val (.int p2), .val (.ref b1), .unset, .unset, .unset] [(.ref b1)])) _
    refine XS.iconst X11.here hx rfl (hb hby at_48) ?_
    show Steps p.tables e below (T11.setTop (mkF m 49 #[.val (.long q1), .second, .val (.int p2), .val (.ref b1), .unset, .unset, .unset] [(.int (5 : Int32)), (.ref b1)])) _
    refine XS.lloadN X11.here hx rfl (hb hby at_49) rfl ?_
    show Steps p.tables e below (T11.setTop (mkF m 50 #[.val (.long q1), .second, .val (.int p2), .val (.ref b1), .unset, .unset, .unset] [(.long q1), (.int (5 : Int32)), (.ref b1)])) _
    refine XS.bipush X11.here hx rfl (hb hby at_50) ?_
    show Steps p.tables e below (T11.setTop (mkF m 52 #[.val (.long q1), .second, .val (.int p2), .val (.ref b1), .unset, .unset, .unset] [(.int (40 : Int32)), (.long q1), (.int (5 : Int32)), (.ref b1)])) _
    refine XS.lushr X11.here hx rfl (hb hby at_52) rfl ?_
    show Steps p.tables e below (T11.setTop (mkF m 53 #[.val (.long q1), .second, .val (.int p2), .val (.ref b1), .unset, .unset, .unset] [(.long ((q1.toUInt64 >>> ((40 : Int32) &&& 0x3f).toInt64.toUInt64).toInt64)), (.int (5 : Int32)), (.ref b1)])) _
    refine XS.l2i X11.here hx rfl (hb hby at_53) rfl ?_
    show Steps p.tables e below (T11.setTop (mkF m 54 #[.val (.long q1), .second, .val (.int p2), .val (.ref b1), .unset, .unset, .unset] [(.int (((q1.toUInt64 >>> ((40 : Int32) &&& 0x3f).toInt64.toUInt64).toInt64).toInt32)), (.int (5 : Int32)), (.ref b1)])) _
    refine XS.i2b X11.here hx rfl (hb hby at_54) rfl ?_
    show Steps p.tables e below (T11.setTop (mkF m 55 #[.val (.long q1), .second, .val (.int p2), .val (.ref b1), .unset, .unset, .unset] [(.int ((((q1.toUInt64 >>> ((40 : Int32) &&& 0x3f).toInt64.toUInt64).toInt64).toInt32).toInt8.toInt32)), (.int (5 : Int32)), (.ref b1)])) _
    rw [← ec5]
    show Steps p.tables e below (T11.setTop (mkF m 55 #[.val (.long q1), .second, .val (.int p2), .val (.ref b1), .unset, .unset, .unset] [(.int c5), (.int (5 : Int32)), (.ref b1)])) _
    refine st13 _ ?_
    show Steps p.tables e below (T13.setTop (mkF m 56 #[.val (.long q1), .second, .val (.int p2), .val (.ref b1), .unset, .unset, .unset] [])) _
    refine XS.aloadN X13.here hx rfl (hb hby at_56) rfl rfl ?_
    show Steps p.tables e below (T13.setTop (mkF m 57 #[.val (.long q1), .second, .val (.int p2), .val (.ref b1), .unset, .unset, .unset] [(.ref b1)])) _
    refine XS.bipush X13.here hx rfl (hb hby at_57) ?_
    show Steps p.tables e below (T13.setTop (mkF m 59 #[.val (.long q1), .second, .val (.int p2), .val (.ref b1), .unset, .unset, .unset] [(.int (6 : Int32)), (.ref b1)])) _
    refine XS.lloadN X13.here hx rfl (hb hby at_59) rfl ?_
    show Steps p.tables e below (T13.setTop (mkF m 60 #[.val (.long q1), .second, .val (.int p2), .val (.ref b1), .unset, .unset, .unset] [(.long q1), (.int (6 : Int32)), (.ref b1)])) _
    refine XS.bipush X13.here hx rfl (hb hby at_60) ?_
    show Steps p.tables e below (T13.setTop (mkF m 62 #[.val (.long q1), .second, .val (.int p2), .val (.ref b1), .unset, .unset, .unset] [(.int (48 : Int32)), (.long q1), (.int (6 : Int32)), (.ref b1)])) _
    refine XS.lushr X13.here hx rfl (hb hby at_62) rfl ?_
    show Steps p.tables e below (T13.setTop (mkF m 63 #[.val (.long q1), .second, .val (.int p2), .val (.ref b1), .unset, .unset, .unset] [(.long ((q1.toUInt64 >>> ((48 : Int32) &&& 0x3f).toInt64.toUInt64).toInt64)), (.int (6 : Int32)), (.ref b1)])) _
    refine XS.l2i X13.here hx rfl (hb hby at_63) rfl ?_
    show Steps p.tables e below (T13.setTop (mkF m 64 #[.val (.long q1), .second, .val (.int p2), .val (.ref b1), .unset, .unset, .unset] [(.int (((q1.toUInt64 >>> ((48 : Int32) &&& 0x3f).toInt64.toUInt64).toInt64).toInt32)), (.int (6 : Int32)), (.ref b1)])) _
    refine XS.i2b X13.here hx rfl (hb hby at_64) rfl ?_
    show Steps p.tables e below (T13.setTop (mkF m 65 #[.val (.long q1), .second, .val (.int p2), .val (.ref b1), .unset, .unset, .unset] [(.int ((((q1.toUInt64 >>> ((48 : Int32) &&& 0x3f).toInt64.toUInt64).toInt64).toInt32).toInt8.toInt32)), (.int (6 : Int32)), (.ref b1)])) _
    rw [← ec6]
    show Steps p.tables e below (T13.setTop (mkF m 65 #[.val (.long q1), .second, .val (.int p2), .val (.ref b1), .unset, .unset, .unset] [(.int c6), (.int (6 : Int32)), (.ref b1)])) _
    refine st15 _ ?_
    show Steps p.tables e below (T15.setTop (mkF m 66 #[.val (.long q1), .second, .val (.int p2), .val (.ref b1), .unset, .unset, .unset] [])) _
    refine XS.aloadN X15.here hx rfl (hb hby at_66) rfl rfl ?_
    show Steps p.tables e below (T15.setTop (mkF m 67 #[.val (.long q1), .second, .val (.int p2), .val (.ref b1), .unset, .unset, .unset] [(.ref b1)])) _
    refine XS.bipush X15.here hx rfl (hb hby at_67) ?_
    show Steps p.tables e below (T15.setTop (mkF m 69 #[.val (.long q1), .second, .val (.int p2), .val (.ref b1), .unset, .unset, .unset] [(.int (7 : Int32)), (.ref b1)])) _
    refine XS.lloadN X15.here hx rfl (hb hby at_69) rfl ?_
    show Steps p.tables e below (T15.setTop (mkF m 70 #[.val (.long q1), .second, .val (.int p2), .val (.ref b1), .unset, .unset, .unset] [(.long q1), (.int (7 : Int32)), (.ref b1)])) _
    refine XS.bipush X15.here hx rfl (hb hby at_70) ?_
    show Steps p.tables e below (T15.setTop (mkF m 72 #[.val (.long q1), .second, .val (.int p2), .val (.ref b1), .unset, .unset, .unset] [(.int (56 : Int32)), (.long q1), (.int (7 : Int32)), (.ref b1)])) _
    refine XS.lushr X15.here hx rfl (hb hby at_72) rfl ?_
    show Steps p.tables e below (T15.setTop (mkF m 73 #[.val (.long q1), .second, .val (.int p2), .val (.ref b1), .unset, .unset, .unset] [(.long ((q1.toUInt64 >>> ((56 : Int32) &&& 0x3f).toInt64.toUInt64).toInt64)), (.int (7 : Int32)), (.ref b1)])) _
    refine XS.l2i X15.here hx rfl (hb hby at_73) rfl ?_
    show Steps p.tables e below (T15.setTop (mkF m 74 #[.val (.long q1), .second, .val (.int p2), .val (.ref b1), .unset, .unset, .unset] [(.int (((q1.toUInt64 >>> ((56 : Int32) &&& 0x3f).toInt64.toUInt64).toInt64).toInt32)), (.int (7 : Int32)), (.ref b1)])) _
    refine XS.i2b X15.here hx rfl (hb hby at_74) rfl ?_
    show Steps p.tables e below (T15.setTop (mkF m 75 #[.val (.long q1), .second, .val (.int p2), .val (.ref b1), .unset, .unset, .unset] [(.int ((((q1.toUInt64 >>> ((56 : Int32) &&& 0x3f).toInt64.toUInt64).toInt64).toInt32).toInt8.toInt32)), (.int (7 : Int32)), (.ref b1)])) _
    rw [← ec7]
    show Steps p.tables e below (T15.setTop (mkF m 75 #[.val (.long q1), .second, .val (.int p2), .val (.ref b1), .unset, .unset, .unset] [(.int c7), (.int (7 : Int32)), (.ref b1)])) _
    refine st17 _ ?_
    show Steps p.tables e below (T17.setTop (mkF m 76 #[.val (.long q1), .second, .val (.int p2), .val (.ref b1), .unset, .unset, .unset] [])) _
    refine XS.iloadN X17.here hx rfl (hb hby at_76) rfl ?_
    show Steps p.tables e below (T17.setTop (mkF m 77 #[.val (.long q1), .second, .val (.int p2), .val (.ref b1), .unset, .unset, .unset] [(.int p2)])) _
    refine X17.ldcInt hx hown (mvT hZ (hw _ (List.mem_of_getElem? (i := 1) rfl))) (g := (mkF m 77 #[.val (.long q1), .second, .val (.int p2), .val (.ref b1), .unset, .unset, .unset] [(.int p2)])) rfl (hb hby at_77) _ ?_
    show Steps p.tables e below (T17.setTop (mkF m 79 #[.val (.long q1), .second, .val (.int p2), .val (.ref b1), .unset, .unset, .unset] [(.int (2147483647 : Int32)), (.int p2)])) _
    refine XS.iand X17.here hx rfl (hb hby at_79) rfl ?_
    show Steps p.tables e below (T17.setTop (mkF m 80 #[.val (.long q1), .second, .val (.int p2), .val (.ref b1), .unset, .unset, .unset] [(.int (p2 &&& (2147483647 : Int32)))])) _
    refine XS.bipush X17.here hx rfl (hb hby at_80) ?_
    show Steps p.tables e below (T17.setTop (mkF m 82 #[.val (.long q1), .second, .val (.int p2), .val (.ref b1), .unset, .unset, .unset] [(.int (9 : Int32)), (.int (p2 &&& (2147483647 : Int32)))])) _
    refine iremM X17 hx rfl (hb hby at_82) rfl (by decide) ?_
    show Steps p.tables e below (T17.setTop (mkF m 83 #[.val (.long q1), .second, .val (.int p2), .val (.ref b1), .unset, .unset, .unset] [(.int ((p2 &&& (2147483647 : Int32)) % (9 : Int32)))])) _
    rw [hm]
    show Steps p.tables e below (T17.setTop (mkF m 83 #[.val (.long q1), .second, .val (.int p2), .val (.ref b1), .unset, .unset, .unset] [(.int (Int32.ofNat n))])) _
    refine XS.istore X17.here hx rfl (hb hby at_83) rfl (l' := #[.val (.long q1), .second, .val (.int p2), .val (.ref b1), .val (.int (Int32.ofNat n)), .unset, .unset]) rfl ?_
    show Steps p.tables e below (T17.setTop (mkF m 85 #[.val (.long q1), .second, .val (.int p2), .val (.ref b1), .val (.int (Int32.ofNat n)), .unset, .unset] [])) _
    refine X17.ldc2Long hx hown (mvT hZ (hw _ (List.mem_of_getElem? (i := 2) rfl))) (g := (mkF m 85 #[.val (.long q1), .second, .val (.int p2), .val (.ref b1), .val (.int (Int32.ofNat n)), .unset, .unset] [])) rfl (hb hby at_85) _ ?_
    show Steps p.tables e below (T17.setTop (mkF m 88 #[.val (.long q1), .second, .val (.int p2), .val (.ref b1), .val (.int (Int32.ofNat n)), .unset, .unset] [(.long (-3750763034362895579 : Int64))])) _
    refine XS.lstore X17.here hx rfl (hb hby at_88) rfl (l' := #[.val (.long q1), .second, .val (.int p2), .val (.ref b1), .val (.int (Int32.ofNat n)), .val (.long (-3750763034362895579 : Int64)), .second]) rfl ?_
    show Steps p.tables e below (T17.setTop (mkF m 90 #[.val (.long q1), .second, .val (.int p2), .val (.ref b1), .val (.int (Int32.ofNat n)), .val (.long (-3750763034362895579 : Int64)), .second] [])) _
    rw [← hm0]
    show Steps p.tables e below (T17.setTop (mkF m 90 #[.val (.long q1), .second, .val (.int p2), .val (.ref b1), .val (.int (Int32.ofNat n)), .val (.long (own_h f (min 0 n))), .second] [])) _
    refine st18 _ ?_
    show Steps p.tables e below (T18.setTop (mkF m 105 #[.val (.long q1), .second, .val (.int p2), .val (.ref b1), .val (.int (Int32.ofNat n)), .val (.long (own_h f (min 1 n))), .second] [])) _
    refine st20 _ ?_
    show Steps p.tables e below (T20.setTop (mkF m 121 #[.val (.long q1), .second, .val (.int p2), .val (.ref b1), .val (.int (Int32.ofNat n)), .val (.long (own_h f (min 2 n))), .second] [])) _
    refine st22 _ ?_
    show Steps p.tables e below (T22.setTop (mkF m 137 #[.val (.long q1), .second, .val (.int p2), .val (.ref b1), .val (.int (Int32.ofNat n)), .val (.long (own_h f (min 3 n))), .second] [])) _
    refine st24 _ ?_
    show Steps p.tables e below (T24.setTop (mkF m 153 #[.val (.long q1), .second, .val (.int p2), .val (.ref b1), .val (.int (Int32.ofNat n)), .val (.long (own_h f (min 4 n))), .second] [])) _
    refine st26 _ ?_
    show Steps p.tables e below (T26.setTop (mkF m 169 #[.val (.long q1), .second, .val (.int p2), .val (.ref b1), .val (.int (Int32.ofNat n)), .val (.long (own_h f (min 5 n))), .second] [])) _
    refine st28 _ ?_
    show Steps p.tables e below (T28.setTop (mkF m 185 #[.val (.long q1), .second, .val (.int p2), .val (.ref b1), .val (.int (Int32.ofNat n)), .val (.long (own_h f (min 6 n))), .second] [])) _
    refine st30 _ ?_
    show Steps p.tables e below (T30.setTop (mkF m 203 #[.val (.long q1), .second, .val (.int p2), .val (.ref b1), .val (.int (Int32.ofNat n)), .val (.long (own_h f (min 7 n))), .second] [])) _
    refine st32 _ ?_
    show Steps p.tables e below (T32.setTop (mkF m 221 #[.val (.long q1), .second, .val (.int p2), .val (.ref b1), .val (.int (Int32.ofNat n)), .val (.long (own_h f (min 8 n))), .second] [])) _
    refine XS.aloadN X32.here hx rfl (hb hby at_221) rfl rfl ?_
    show Steps p.tables e below (T32.setTop (mkF m 222 #[.val (.long q1), .second, .val (.int p2), .val (.ref b1), .val (.int (Int32.ofNat n)), .val (.long (own_h f (min 8 n))), .second] [(.ref b1)])) _
    refine XS.iload X32.here hx rfl (hb hby at_222) rfl ?_
    show Steps p.tables e below (T32.setTop (mkF m 224 #[.val (.long q1), .second, .val (.int p2), .val (.ref b1), .val (.int (Int32.ofNat n)), .val (.long (own_h f (min 8 n))), .second] [(.int (Int32.ofNat n)), (.ref b1)])) _
    refine st34 _ ?_
    show Steps p.tables e below (T34.setTop (mkF m 227 #[.val (.long q1), .second, .val (.int p2), .val (.ref b1), .val (.int (Int32.ofNat n)), .val (.long (own_h f (min 8 n))), .second] [(.long (own_mix (own_h f n)))])) _
    refine XS.lload X34.here hx rfl (hb hby at_227) rfl ?_
    show Steps p.tables e below (T34.setTop (mkF m 229 #[.val (.long q1), .second, .val (.int p2), .val (.ref b1), .val (.int (Int32.ofNat n)), .val (.long (own_h f (min 8 n))), .second] [(.long (own_h f (min 8 n))), (.long (own_mix (own_h f n)))])) _
    refine st35 _ ?_
    show Steps p.tables e below (T35.setTop (mkF m 232 #[.val (.long q1), .second, .val (.int p2), .val (.ref b1), .val (.int (Int32.ofNat n)), .val (.long (own_h f (min 8 n))), .second] [(.long (own_mix (own_h f (min 8 n)))), (.long (own_mix (own_h f n)))])) _
    refine XS.lcmp X35.here hx rfl (hb hby at_232) rfl ?_
    show Steps p.tables e below (T35.setTop (mkF m 233 #[.val (.long q1), .second, .val (.int p2), .val (.ref b1), .val (.int (Int32.ofNat n)), .val (.long (own_h f (min 8 n))), .second] [(.int (lcmpW (own_mix (own_h f n)) (own_mix (own_h f (min 8 n)))))])) _
    refine XS.ifNo X35.here hx rfl (hb hby at_233) rfl ((if0 _ _).trans (teq (((lw_eq _ _).mpr (by rw [Nat.min_eq_right (by omega)])) : (lcmpW (own_mix (own_h f n)) (own_mix (own_h f (min 8 n)))) = (0 : Int32))).2) ?_
    show Steps p.tables e below (T35.setTop (mkF m 236 #[.val (.long q1), .second, .val (.int p2), .val (.ref b1), .val (.int (Int32.ofNat n)), .val (.long (own_h f (min 8 n))), .second] [])) _
    refine XS.iconst X35.here hx rfl (hb hby at_236) ?_
    show Steps p.tables e below (T35.setTop (mkF m 237 #[.val (.long q1), .second, .val (.int p2), .val (.ref b1), .val (.int (Int32.ofNat n)), .val (.long (own_h f (min 8 n))), .second] [(.int (1 : Int32))])) _
    refine XS.goto X35.here hx rfl (pc0 := 237) (pc' := 241) rfl (hb hby at_237) (by decide) (by decide) ?_
    show Steps p.tables e below (T35.setTop (mkF m 241 #[.val (.long q1), .second, .val (.int p2), .val (.ref b1), .val (.int (Int32.ofNat n)), .val (.long (own_h f (min 8 n))), .second] [(.int (1 : Int32))])) _
    exact retN X35 hx (t := .boolean) Bd.returns (by simp) (hb hby at_241) hr
  · show Q0 n0 _ T35.heap _
    exact ⟨rfl, N35⟩
set_option maxRecDepth 65536 in
set_option maxHeartbeats 40000000 in
theorem comes_1 {Post : Tables → Env → Array Value → State → Outcome → State → Prop} (hpost : ∀ tb e args s v u, (limb_1_1.after args s (.returned v) u = true ∧ limb_1_2.after args s (.returned v) u = true ∧ True) → FrameEnd s (.returned v) u (Jvm.fieldLocs frame_1_writes args s ++ Jvm.arrayLocs frame_1_arrays args s ++ Jvm.staticLocs frame_1_statics s) 16 128 → Post tb e args s (.returned v) u) :
    ArmFor flags0 classFile x code maxLocals ret World_1 tables_1 room_1 Calls_1 rest_1 Pre_1 Post := by
  intro l hfl _ _ p e ha hc hk s m args below hf hA hF happ hP
  obtain ⟨hcalls, hrest, hpre⟩ := hP
  obtain ⟨-, -, -, hnamed, -, -, -, hat⟩ := (Spec.applies_iff hf).mp happ
  obtain ⟨hg, hn⟩ := and_e (Cond.before_iff.mp (show (Jvm.Cond.and given_1 narrow_1).before args s = true from hpre))
  obtain ⟨u0, u1⟩ := and_e hg
  obtain ⟨v0, u2⟩ := and_e u1
  have v1 := u2
  obtain ⟨w0, w1, rfl⟩ : ∃ w0 w1 : Value, args = #[w0, w1] := by
    have hs : args.size = 2 := by simpa [Cond.value, given_1] using u0
    obtain ⟨L⟩ := args
    match L, hs with
    | [w0, w1], _ => exact ⟨w0, w1, rfl⟩
  have hw := fun d (hd : d ∈ tables_1) => atoms_spec (ws := Jvm.Cond.code x code maxLocals ret :: tables_1) hat d (List.mem_cons_of_mem _ hd)
  obtain ⟨i0, ei0⟩ := isL_v v0
  obtain rfl : w0 = (.long i0) := Option.some.inj ei0
  obtain ⟨i1, ei1⟩ := is_v v1
  obtain rfl : w1 = (.int i1) := Option.some.inj ei1
  obtain ⟨n, o, h1, h2, h3, _, L, rfl, ⟨rfl, N⟩, hq⟩ := rm0 l s _ hw tables_1 i0 i1 s.heap s.heap.size (Nat.le_refl _) p e ha hc hk s m _ below hf ((Spec.applies_iff_loose hf).mp happ).1 ⟨rfl, State.Warmed39.refl s, rfl⟩ trivial
  refine ⟨n, _, h1, h2, h3, hpost _ _ _ _ _ _ ⟨Cond.after_iff.mpr rfl, Cond.after_iff.mpr (eq_i res_at (Term.int_eval (1)) rfl), trivial⟩ ⟨hq.1, hq.2.1, (hq.2.2.sift fun y hy => Or.inr (N y hy)).mono (by decide) (by decide)⟩⟩
theorem main_1_1 : Claimed_1_1 := comes_1 fun _ _ _ _ _ _ h hF => ⟨h.1, hF⟩
theorem main_1_2 : Claimed_1_2 := comes_1 fun _ _ _ _ _ _ h hF => ⟨h.2.1, hF⟩
end Jvm.Pilot.@@N@@
namespace Jvm.Pilot.@@N@@
open Jvm Jvm.ClassFile Sem Op Lib Jvm.Free Jvm.Stand Jvm.Pilot.@@N@@.Jvm.D
/-! MADE BY PROGRAM (witnessworld.py) out of the Statement's table words and the real class files: 9 classes; the members and pool entries that the words name. The judged class is class 1, her method 1. -/
namespace start1
open Jvm.ClassFile
def u (s : String) : CpInfo := .utf8 (stringToUtf16 s)
/-- a pool by its gaps: so many unusable entries, then the entry; so many at the end -/
def gap : Nat → List CpInfo → List CpInfo
  | 0, r => r
  | n + 1, r => .unusable :: gap n r
def poolList (es : List (Nat × CpInfo)) (last : Nat) : List CpInfo := es.foldr (fun e r => gap e.1 (e.2 :: r)) (gap last [])
def pool (es : List (Nat × CpInfo)) (last : Nat) : Array CpInfo := ⟨poolList es last⟩
def fileOf (pool : Array CpInfo) (this : Nat) (attrs : Array Attribute := #[]) (ms : Array MethodInfo := #[]) (fl : Nat := 33) (sup : Nat := 0) (ifs : Array Nat := #[]) (fds : Array FieldInfo := #[]) : ClassFile where
  minorVersion := 0
  majorVersion := 65
  constantPool := pool
  accessFlags := fl
  thisClass := this
  superClass := sup
  interfaces := ifs
  fields := fds
  methods := ms
  attributes := attrs
def plain (name : String) (sup : Option ClassId) : Class where
  name := name
  kind := .ordinary
  loader := none
  accessFlags := 33
  super := sup
  interfaces := #[]
  cf := none
  fields := #[]
  methods := #[]
  instanceTypes := #[]
  staticTypes := #[]
  resolved := #[]
  callSites := []
  init := .initialized
  statics := none
  mirror := none

def pool0 : Array CpInfo := pool [(5, u "<init>"), (0, u "()V"), (1, .class_ 10), (1, u "java/lang/Object")] 113

def k0m0 : Method := { name := "<init>", desc := "()V", sig := { parameters := [], returnType := none }, accessFlags := 1, code := none }
/-- java/lang/Object -/
def k0 : Class := { plain "java/lang/Object" none with
  accessFlags := 33
  interfaces := #[]
  cf := some (fileOf pool0 8 #[] #[{ accessFlags := 1, nameIndex := 5, descriptorIndex := 6, attributes := #[] }] 33 0 #[] #[])
  fields := #[]
  methods := #[k0m0]
  instanceTypes := #[]
  staticTypes := #[]
  resolved := Array.replicate 124 none
  statics := none }

def pool1 : Array CpInfo := pool [(2, .class_ 4), (1, u "java/lang/Object"), (0, u "<init>"), (0, u "()V"), (0, .integer 2147483647), (0, .long 14695981039346656037), (1, .methodref 11 12), (0, .class_ 13), (0, .nameAndType 14 15), (0, u "com/example/keelson/keelson/core/checkpoint/StateFilesHashPinLaw"), (0, u "step"), (0, u "(JB)J"), (0, .methodref 17 18), (0, .class_ 19), (0, .nameAndType 20 21), (0, u "com/example/keelson/keelson/core/checkpoint/StateFiles"), (0, u "hash"), (0, u "([BI)J"), (0, .methodref 11 23), (0, .nameAndType 24 25), (0, u "mix"), (0, u "(J)J"), (0, .long 1099511628211), (1, .long 18397679294719823053), (1, .long 14181476777654086739), (3, u "law"), (0, u "(JI)Z")] 5

def k1m0 : Method := { name := "<init>", desc := "()V", sig := { parameters := [], returnType := none }, accessFlags := 1, code := none }
def k1c1 : Code := { maxStack := 5, maxLocals := 7, code := code, exceptionTable := #[], attributes := #[] }
def k1m1 : Method := { name := "law", desc := "(JI)Z", sig := { parameters := [.long, .int], returnType := some .boolean }, accessFlags := 9, code := some k1c1 }
def k1c2 : Code := { maxStack := 4, maxLocals := 3, code := method_3_code, exceptionTable := #[], attributes := #[] }
def k1m2 : Method := { name := "step", desc := "(JB)J", sig := { parameters := [.long, .byte], returnType := some .long }, accessFlags := 10, code := some k1c2 }
def k1c3 : Code := { maxStack := 5, maxLocals := 4, code := method_4_code, exceptionTable := #[], attributes := #[] }
def k1m3 : Method := { name := "mix", desc := "(J)J", sig := { parameters := [.long], returnType := some .long }, accessFlags := 10, code := some k1c3 }
/-- com/example/keelson/keelson/core/checkpoint/StateFilesHashPinLaw -/
def k1 : Class := { plain "com/example/keelson/keelson/core/checkpoint/StateFilesHashPinLaw" (some 0) with
  accessFlags := 49
  interfaces := #[]
  cf := some (fileOf pool1 11 #[] #[{ accessFlags := 1, nameIndex := 5, descriptorIndex := 6, attributes := #[] }, { accessFlags := 9, nameIndex := 34, descriptorIndex := 35, attributes := #[] }, { accessFlags := 10, nameIndex := 14, descriptorIndex := 15, attributes := #[] }, { accessFlags := 10, nameIndex := 24, descriptorIndex := 25, attributes := #[] }] 49 2 #[] #[])
  fields := #[]
  methods := #[k1m0, k1m1, k1m2, k1m3]
  instanceTypes := #[]
  staticTypes := #[]
  resolved := Array.replicate 41 none
  statics := none }

def pool2 : Array CpInfo := pool [(6, .class_ 8), (1, u "java/lang/Object"), (0, u "<init>"), (0, u "()V"), (7, .class_ 20), (1, u "com/example/keelson/keelson/core/checkpoint/StateFiles$Output"), (2, .class_ 24), (0, u "com/example/keelson/keelson/core/checkpoint/StateFiles$MapEntries"), (39, .class_ 66), (1, u "com/example/keelson/keelson/core/checkpoint/StateFiles$Input"), (10, .class_ 78), (0, u "com/example/keelson/keelson/core/checkpoint/StateFiles$Merged"), (9, .class_ 90), (1, u "com/example/keelson/keelson/core/checkpoint/StateFiles"), (13, .class_ 105), (0, u "com/example/keelson/keelson/core/checkpoint/StateFiles$Held"), (19, .class_ 127), (1, u "com/example/keelson/keelson/core/checkpoint/StateFiles$Entries"), (34, .class_ 163), (0, u "com/example/keelson/keelson/core/checkpoint/StateFiles$Opened"), (155, .class_ 321), (1, u "com/example/keelson/keelson/core/checkpoint/StateFiles$Encoded"), (1, u "[B"), (14, u "I"), (16, .long 14695981039346656037), (1, .long 1099511628211), (1, .long 18397679294719823053), (1, .long 14181476777654086739), (3, u "BIT_MULTIPLIERS"), (0, u "[I"), (8, u "MAGIC"), (8, u "INDEX_INTERVAL"), (2, u "PLACE_BYTES"), (1, u "GROUP_BYTES"), (1, u "FILTER_BLOCK"), (1, u "FILTER_BITS_PER_KEY"), (1, u "FOOTER"), (1, u "CHUNK"), (1, u "MOST_STRING_BYTES"), (1, u "NOT_A_STRING"), (0, u "Ljava/lang/String;"), (2, u "NO_GROUP"), (2, u "NOT_A_NUMBER"), (2, u "SHARES_AT_A_PLACE"), (2, u "SHARES_TOO_MANY"), (46, u "hash"), (0, u "([BI)J")] 31

def k2m0 : Method := { name := "<init>", desc := "()V", sig := { parameters := [], returnType := none }, accessFlags := 2, code := none }
def k2c1 : Code := { maxStack := 5, maxLocals := 5, code := prog_111_method_25_code, exceptionTable := #[], attributes := #[] }
def k2m1 : Method := { name := "hash", desc := "([BI)J", sig := { parameters := [(.array .byte), .int], returnType := some .long }, accessFlags := 8, code := some k2c1 }
/-- com/example/keelson/keelson/core/checkpoint/StateFiles -/
def k2 : Class := { plain "com/example/keelson/keelson/core/checkpoint/StateFiles" (some 0) with
  accessFlags := 49
  interfaces := #[]
  cf := some (fileOf pool2 88 #[.nestMembers #[18, 64, 77, 23, 125, 162, 319, 104]] #[{ accessFlags := 2, nameIndex := 9, descriptorIndex := 10, attributes := #[] }, { accessFlags := 8, nameIndex := 461, descriptorIndex := 462, attributes := #[] }] 49 6 #[] #[{ accessFlags := 26, nameIndex := 375, descriptorIndex := 323, attributes := #[] }, { accessFlags := 24, nameIndex := 384, descriptorIndex := 338, attributes := #[] }, { accessFlags := 24, nameIndex := 387, descriptorIndex := 338, attributes := #[] }, { accessFlags := 26, nameIndex := 389, descriptorIndex := 338, attributes := #[] }, { accessFlags := 24, nameIndex := 391, descriptorIndex := 338, attributes := #[] }, { accessFlags := 26, nameIndex := 393, descriptorIndex := 338, attributes := #[] }, { accessFlags := 26, nameIndex := 365, descriptorIndex := 366, attributes := #[] }, { accessFlags := 26, nameIndex := 395, descriptorIndex := 338, attributes := #[] }, { accessFlags := 26, nameIndex := 397, descriptorIndex := 338, attributes := #[] }, { accessFlags := 24, nameIndex := 399, descriptorIndex := 338, attributes := #[] }, { accessFlags := 24, nameIndex := 401, descriptorIndex := 402, attributes := #[] }, { accessFlags := 24, nameIndex := 405, descriptorIndex := 402, attributes := #[] }, { accessFlags := 24, nameIndex := 408, descriptorIndex := 402, attributes := #[] }, { accessFlags := 24, nameIndex := 411, descriptorIndex := 402, attributes := #[] }, { accessFlags := 24, nameIndex := 414, descriptorIndex := 402, attributes := #[] }])
  fields := #[{ name := "MAGIC", type := (.array .byte), accessFlags := 26, slot := 0, constantValue := 0 }, { name := "INDEX_INTERVAL", type := .int, accessFlags := 24, slot := 1, constantValue := 0 }, { name := "PLACE_BYTES", type := .int, accessFlags := 24, slot := 2, constantValue := 0 }, { name := "GROUP_BYTES", type := .int, accessFlags := 26, slot := 3, constantValue := 0 }, { name := "FILTER_BLOCK", type := .int, accessFlags := 24, slot := 4, constantValue := 0 }, { name := "FILTER_BITS_PER_KEY", type := .int, accessFlags := 26, slot := 5, constantValue := 0 }, { name := "BIT_MULTIPLIERS", type := (.array .int), accessFlags := 26, slot := 6, constantValue := 0 }, { name := "FOOTER", type := .int, accessFlags := 26, slot := 7, constantValue := 0 }, { name := "CHUNK", type := .int, accessFlags := 26, slot := 8, constantValue := 0 }, { name := "MOST_STRING_BYTES", type := .int, accessFlags := 24, slot := 9, constantValue := 0 }, { name := "NOT_A_STRING", type := (.object "java/lang/String"), accessFlags := 24, slot := 10, constantValue := 0 }, { name := "NO_GROUP", type := (.object "java/lang/String"), accessFlags := 24, slot := 11, constantValue := 0 }, { name := "NOT_A_NUMBER", type := (.object "java/lang/String"), accessFlags := 24, slot := 12, constantValue := 0 }, { name := "SHARES_AT_A_PLACE", type := (.object "java/lang/String"), accessFlags := 24, slot := 13, constantValue := 0 }, { name := "SHARES_TOO_MANY", type := (.object "java/lang/String"), accessFlags := 24, slot := 14, constantValue := 0 }]
  methods := #[k2m0, k2m1]
  instanceTypes := #[]
  staticTypes := #[(.array .byte), .int, .int, .int, .int, .int, (.array .int), .int, .int, .int, (.object "java/lang/String"), (.object "java/lang/String"), (.object "java/lang/String"), (.object "java/lang/String"), (.object "java/lang/String")]
  resolved := Array.replicate 494 none
  statics := none }

def pool3 : Array CpInfo := pool [(1, u "java/lang/Cloneable"), (0, .class_ 1), (0, u "java/lang/Object"), (0, .class_ 3)] 3

/-- java/lang/Cloneable -/
def k3 : Class := { plain "java/lang/Cloneable" (some 0) with
  accessFlags := 1537
  interfaces := #[]
  cf := some (fileOf pool3 2 #[] #[] 1537 4 #[] #[])
  fields := #[]
  methods := #[]
  instanceTypes := #[]
  staticTypes := #[]
  resolved := Array.replicate 8 none
  statics := none }

def pool4 : Array CpInfo := pool [(1, u "java/io/Serializable"), (0, .class_ 1), (0, u "java/lang/Object"), (0, .class_ 3)] 3

/-- java/io/Serializable -/
def k4 : Class := { plain "java/io/Serializable" (some 0) with
  accessFlags := 1537
  interfaces := #[]
  cf := some (fileOf pool4 2 #[] #[] 1537 4 #[] #[])
  fields := #[]
  methods := #[]
  instanceTypes := #[]
  staticTypes := #[]
  resolved := Array.replicate 8 none
  statics := none }

/-- the primitive byte -/
def k5 : Class := { plain "byte" none with kind := .primitive 'B', accessFlags := 0x411 }
/-- [B -/
def k6 : Class := { plain "[B" (some 0) with kind := .array 5 .byte, interfaces := #[3, 4], accessFlags := 1041 }

/-- the primitive int -/
def k7 : Class := { plain "int" none with kind := .primitive 'I', accessFlags := 0x411 }
/-- [I -/
def k8 : Class := { plain "[I" (some 0) with kind := .array 7 .int, interfaces := #[3, 4], accessFlags := 1041 }

def heap : Heap := #[]
def classes : Array Class := #[k0, k1, k2, k3, k4, k5, k6, k7, k8]
def interned : List (Array UInt16 × Addr) := []
def slotsUsed : Nat := 0
def theMethod : MethodId := ⟨1, 1⟩
def args0 : Array Value := #[.long 5, .int 3]
def aboutOver (below : List Frame) : State where
  vm := { classes := classes, interned := interned.toArray }
  heap := heap
  slotsUsed := slotsUsed
  threads := #[{ frames := .invoking theMethod args0 :: below }]
def below0 : List Frame := [.native { method := ⟨0, 0⟩, args := #[] }]
def about1 : State := aboutOver below0
def p0 : Program := .bare "" "" ""
def e0 : Env := launch0.env 0 0 0
theorem w_frames : about1.frames = Frame.invoking theMethod args0 :: below0 := rfl
set_option maxRecDepth 65536 in
theorem w_args : argsFit about1.vm theMethod args0 = true := by decide +kernel
set_option maxRecDepth 65536 in
theorem w_heap : heapFits about1 = true := by decide +kernel
set_option maxRecDepth 65536 in
theorem w_runnable : about1.curStatus? = some .runnable := by decide +kernel
set_option maxRecDepth 65536 in
theorem w_alone : about1.alone = true := by decide +kernel
set_option maxRecDepth 65536 in
theorem w_named : about1.methodNamed? x = some theMethod := by decide +kernel
set_option maxRecDepth 65536 in
theorem w_hears : about1.hears theMethod below0 = true := by decide +kernel
set_option maxRecDepth 65536 in
theorem w_ripe : about1.ripe theMethod args0 below0 = true := by decide +kernel
theorem w_running : about1.status = .running := rfl
set_option maxRecDepth 65536 in
theorem w_room : about1.hasRoom e0.platform room_1 = true :=
  launch0.hasRoom_least _ room_1 (by decide +kernel) (by decide +kernel) (by decide +kernel) (by decide +kernel) (by decide +kernel) (by decide +kernel)
theorem allAtoms_all (ts : List Jvm.Cond) (a : Array Jvm.Value) (st : Jvm.State) : (allAtoms ts).before a st = ts.all (fun c => c.before a st) := by
  induction ts with
  | nil => rfl
  | cons c t ih =>
    show (Jvm.Cond.and c (allAtoms t)).before a st = _
    rw [Jvm.Cond.before_and, ih, List.all_cons]
def words1 : List Jvm.Cond := Jvm.Cond.code x code maxLocals ret :: tables_1
/-- a 'code' word, met by the world's own term for the bytes: nothing is compared byte by byte -/
theorem code_word {y : MethodName} {bytes : ByteArray} {mx : Nat} {rt : Option FieldType} {a : Array Value} {s : State} {m : MethodId} {meth : Method} {c : Code} (h1 : s.methodNamed? y = some m) (h2 : s.vm.method? m = some meth) (h3 : meth.code = some c) (h4 : c.code = bytes)
    (h5 : (c.maxLocals == mx && c.exceptionTable.isEmpty && decide (c.maxStack ≤ mostOperands) && decide (meth.sig.returnType = rt) && !meth.locks && decide (parseMethodDescriptor y.desc = some meth.sig)) = true) : (Jvm.Cond.code y bytes mx rt).before a s = true := by
  simp only [Bool.and_eq_true, beq_iff_eq, Bool.not_eq_true', decide_eq_true_eq] at h5
  obtain ⟨⟨⟨⟨⟨g1, g2⟩, g3⟩, g4⟩, g5⟩, g6⟩ := h5
  simp [Cond.before, Cond.holds, Cond.value, h1, h2, h3, h4, g1, g2, g3, g4, g5, g6]
def isCode : Jvm.Cond → Bool
  | .code _ _ _ _ => true
  | _ => false
theorem all_split {L : List Jvm.Cond} {P : Jvm.Cond → Bool} (h1 : L.all (fun c => isCode c || P c) = true) (h2 : ∀ c ∈ L.filter isCode, P c = true) : L.all P = true := by
  refine List.all_eq_true.mpr fun c hc => ?_
  have h := List.all_eq_true.mp h1 c hc
  rcases Bool.eq_false_or_eq_true (isCode c) with hi | hi
  · exact h2 c (List.mem_filter.mpr ⟨hc, hi⟩)
  · simpa [hi] using h
set_option maxRecDepth 65536 in
theorem w_c0 : (Jvm.Cond.code x code maxLocals ret).before args0 about1 = true := code_word (m := ⟨1, 1⟩) (meth := k1m1) (c := k1c1) (by decide +kernel) rfl rfl rfl (by decide +kernel)
set_option maxRecDepth 65536 in
theorem w_c1 : (Jvm.Cond.code ({ cls := "com/example/keelson/keelson/core/checkpoint/StateFilesHashPinLaw", name := "step", desc := "(JB)J" } : Jvm.MethodName) method_3_code (3 : Nat) (Option.some Jvm.ClassFile.FieldType.long)).before args0 about1 = true := code_word (m := ⟨1, 2⟩) (meth := k1m2) (c := k1c2) (by decide +kernel) rfl rfl rfl (by decide +kernel)
set_option maxRecDepth 65536 in
theorem w_c2 : (Jvm.Cond.code ({ cls := "com/example/keelson/keelson/core/checkpoint/StateFiles", name := "hash", desc := "([BI)J" } : Jvm.MethodName) prog_111_method_25_code (5 : Nat) (Option.some Jvm.ClassFile.FieldType.long)).before args0 about1 = true := code_word (m := ⟨2, 1⟩) (meth := k2m1) (c := k2c1) (by decide +kernel) rfl rfl rfl (by decide +kernel)
set_option maxRecDepth 65536 in
theorem w_c3 : (Jvm.Cond.code ({ cls := "com/example/keelson/keelson/core/checkpoint/StateFilesHashPinLaw", name := "mix", desc := "(J)J" } : Jvm.MethodName) method_4_code (4 : Nat) (Option.some Jvm.ClassFile.FieldType.long)).before args0 about1 = true := code_word (m := ⟨1, 3⟩) (meth := k1m3) (c := k1c3) (by decide +kernel) rfl rfl rfl (by decide +kernel)
def codes1 : List Jvm.Cond := [Jvm.Cond.code x code maxLocals ret, Jvm.Cond.code ({ cls := "com/example/keelson/keelson/core/checkpoint/StateFilesHashPinLaw", name := "step", desc := "(JB)J" } : Jvm.MethodName) method_3_code (3 : Nat) (Option.some Jvm.ClassFile.FieldType.long), Jvm.Cond.code ({ cls := "com/example/keelson/keelson/core/checkpoint/StateFiles", name := "hash", desc := "([BI)J" } : Jvm.MethodName) prog_111_method_25_code (5 : Nat) (Option.some Jvm.ClassFile.FieldType.long), Jvm.Cond.code ({ cls := "com/example/keelson/keelson/core/checkpoint/StateFilesHashPinLaw", name := "mix", desc := "(J)J" } : Jvm.MethodName) method_4_code (4 : Nat) (Option.some Jvm.ClassFile.FieldType.long)]
set_option maxRecDepth 65536 in
theorem codes_eq : words1.filter isCode = codes1 := rfl
theorem w_codes : ∀ c ∈ words1.filter isCode, c.before args0 about1 = true := by
  rw [codes_eq]
  intro c hc
  simp only [codes1, List.mem_cons, List.not_mem_nil, or_false] at hc
  rcases hc with rfl | rfl | rfl | rfl
  · exact w_c0
  · exact w_c1
  · exact w_c2
  · exact w_c3
set_option maxRecDepth 65536 in
theorem w_t1 : words1.all (fun c => isCode c || c.before args0 about1) = true := by decide +kernel
theorem w_tables : (allAtoms (Jvm.Cond.code x code maxLocals ret :: tables_1)).before args0 about1 = true := by
  rw [allAtoms_all]
  show words1.all (fun c => c.before args0 about1) = true
  refine all_split ?_ w_codes
  rw [w_t1]
set_option maxRecDepth 65536 in
theorem w_case : (Jvm.Cond.and given_1 narrow_1).before args0 about1 = true := by decide +kernel
theorem w_applies : (headSpec (Jvm.Cond.code x code maxLocals ret :: tables_1) room_1).applies x e0.platform about1 = true :=
  (Spec.applies_iff w_frames).mpr ⟨w_running, w_runnable, w_alone, w_named, w_hears, w_ripe, w_room, w_tables⟩
theorem atStart : AtStart classFile x code maxLocals ret World_1 tables_1 room_1 Calls_1 rest_1 Pre_1 launch0 p0 e0 about1 theMethod args0 below0 :=
  ⟨lists_1, trivial, launch0.admits_env _ _ _, launch0.least_env, fairChoices_fair.cas, fairChoices_fair.clock, w_frames, w_args, w_heap, w_applies, trivial, trivial, w_case⟩
end start1
theorem witness_1 : WitnessClaimed_1 := ⟨start1.p0, start1.e0, start1.about1, start1.theMethod, start1.args0, start1.below0, start1.atStart⟩
end Jvm.Pilot.@@N@@
