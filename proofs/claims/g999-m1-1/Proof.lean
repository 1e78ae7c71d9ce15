import JvmDerived
import JvmDerived.Pilot.@@N@@Statement
import JvmDerived.Pilot.@@N@@Code
set_option linter.unusedVariables false
set_option linter.unusedSimpArgs false
namespace Jvm.RoadKit
open Sem ClassFile Op Lib Jvm.Stand Jvm.Free Jvm.LawKit
section New
variable {p : Program} {l : Launch} {e : Env} {R : Room} {s : State} {m : MethodId} {args : Array Value} {below : List Frame} {meth : Method} {c : Code} {T : State} {locs : List Loc} {cells slots : Nat}
theorem retI (X : Stand p l e R s m args below meth c T locs cells slots) (hx : p.tables.exec = Jvm.exec) {pc : Nat} {Ls : Array Slot} {z : Int32} {rest : List Value} (hret : meth.sig.returnType = some .int) (hd : decode c.code pc = .ok (.ireturn, 1)) {fs : List Frame}
    (hl : ∀ (f : JFrame) (acts : List Action), f.method = m → f.locked = none → f.entered = [] → (doReturn e (T.setTop f) acts (some (.int z))).1 = T.setFrames fs) : Steps p.tables e below (T.setTop (mkF m pc Ls (.int z :: rest))) (T.setFrames fs) := by
  have hm' : T.vm.method? m = some meth := X.method'
  have hn : narrow .int (.int z) = .int z := rfl
  show Steps p.tables e below (T.setTop { method := m, pc := pc, locals := Ls, stack := _ :: rest, locked := none }) _
  jvm_step X.here [X.here.top, hx, hd, hm', hret, hn]
  first | (intro acts; rw [hl _ acts rfl rfl rfl]) | rw [hl _ _ rfl rfl rfl]
  exact Steps.refl _
end New
end Jvm.RoadKit
namespace Jvm.Pilot.@@N@@
open Jvm Jvm.ClassFile Sem Op Lib Jvm.Free Jvm.Stand Jvm.LawKit Jvm.RoadKit Bundle Jvm.Pilot.@@N@@.Jvm.D
theorem own_go {tb : Tables} {e : Env} {below : List Frame} {T T' : State} {g g' : JFrame} {P : State → Outcome → Prop} (st : ∀ t, Steps tb e below (T'.setTop g') t → Steps tb e below (T.setTop g) t) (k : ∃ s₂ o, Steps tb e below (T'.setTop g') s₂ ∧ P s₂ o) : ∃ s₂ o, Steps tb e below (T.setTop g) s₂ ∧ P s₂ o := by
  obtain ⟨s₂, o, h, r⟩ := k
  exact ⟨s₂, o, st _ h, r⟩
def own_max (x y : Int32) : Int32 := if x < y then y else x
def own_send (f : Int64) (r : Int32) : Int64 := ((f / (r.toInt64)) * (1000000000 : Int64)) + ((((((f - (f / (r.toInt64)) * (r.toInt64)) * (1000000000 : Int64)) + (r.toInt64)) - (1 : Int64))) / (r.toInt64))
theorem own_f (x : Int64) (q : Int32) : 0 ≤ (((x &&& (9223372036854775807 : Int64)).toUInt64 >>> (q &&& 0x3f).toInt64.toUInt64).toInt64).toInt := by
  have h : (x &&& (9223372036854775807 : Int64)).toInt = x.toInt % (2 ^ 63 : Nat) := c_maskL x _ 63 (by decide) (by decide)
  generalize x &&& (9223372036854775807 : Int64) = y at h ⊢
  have hy : y.toBitVec.toNat < 2 ^ 63 := by
    have h2 : 0 ≤ y.toBitVec.toInt := by show 0 ≤ y.toInt; omega
    rw [BitVec.toInt_eq_toNat_cond] at h2
    have := y.toBitVec.isLt
    split at h2 <;> omega
  generalize (q &&& 0x3f).toInt64.toUInt64 = k
  have e1 : (y.toUInt64 >>> k).toNat = y.toUInt64.toNat >>> (k.toNat % 64) := UInt64.toNat_shiftRight _ _
  have e2 : y.toUInt64.toNat = y.toBitVec.toNat := rfl
  have e3 : (y.toUInt64 >>> k).toNat ≤ y.toBitVec.toNat := by rw [e1, e2, Nat.shiftRight_eq_div_pow]; exact Nat.div_le_self _ _
  show 0 ≤ (y.toUInt64 >>> k).toInt64.toBitVec.toInt
  have e4 : (y.toUInt64 >>> k).toInt64.toBitVec.toNat = (y.toUInt64 >>> k).toNat := rfl
  rw [BitVec.toInt_eq_toNat_cond, e4]
  split <;> omega
theorem own_r (x : Int32) : 1 ≤ (own_max (1 : Int32) (x &&& (2147483647 : Int32))).toInt := by
  unfold own_max
  have k1 : (1 : Int32).toInt = 1 := rfl
  by_cases h : (1 : Int32) < x &&& 2147483647
  · rw [if_pos h]; rw [Int32.lt_iff_toInt_lt] at h; omega
  · rw [if_neg h]; omega
theorem own_nz (r : Int32) (h : 1 ≤ r.toInt) : ¬ (r.toInt64 = (0 : Int64)) := fun q => by
  have e := c_i2l r
  rw [q] at e
  have : (0 : Int64).toInt = 0 := rfl
  omega
theorem own_fix (x : Int64) (y : Int) (h : (x.toInt - y) % 18446744073709551616 = 0) (c : -9223372036854775808 ≤ y) (d : y < 9223372036854775808) : x.toInt = y := by
  have := Int64.le_toInt x
  have := Int64.toInt_lt x
  omega
theorem own_n1 (Q : Int) (h0 : 0 ≤ Q) (h1 : ¬ 9223372035 < Q) : -9223372036854775808 ≤ Q * 1000000000 ∧ Q * 1000000000 < 9223372036854775808 := by omega
theorem own_n2 (M d : Int) (h0 : 0 ≤ M) (h1 : M < d) (h2 : d < 2147483648) : (-9223372036854775808 ≤ M * 1000000000 ∧ M * 1000000000 < 9223372036854775808) ∧ (-9223372036854775808 ≤ M * 1000000000 + d ∧ M * 1000000000 + d < 9223372036854775808) ∧ (-9223372036854775808 ≤ M * 1000000000 + d - 1 ∧ M * 1000000000 + d - 1 < 9223372036854775808) ∧ 0 ≤ M * 1000000000 + d - 1 := by omega
theorem own_n3 (M d : Int) (h0 : 0 ≤ M) (h1 : M < d) : (M * 1000000000 + d - 1) / d ≤ 1000000000 := by
  have : (M * 1000000000 + d - 1) / d < 1000000001 := Int.ediv_lt_of_lt_mul (by omega) (by omega)
  omega
theorem own_n4 (Q K : Int) (h0 : 0 ≤ Q) (h1 : ¬ 9223372035 < Q) (h2 : 0 ≤ K) (h3 : K ≤ 1000000000) : (-9223372036854775808 ≤ Q * 1000000000 + K ∧ Q * 1000000000 + K < 9223372036854775808) ∧ (-9223372036854775808 ≤ Q * 1000000000 + 1000000000 ∧ Q * 1000000000 + 1000000000 < 9223372036854775808) := by omega
theorem own_n5 (D tR fN dQ dK F M d J : Int) (h1 : (D - (tR - fN)) % 18446744073709551616 = 0) (h2 : (tR - (1000000000 * dQ + dK)) % 18446744073709551616 = 0) (h3 : (fN - F * 1000000000) % 18446744073709551616 = 0) (h4 : dQ + M = F) (h5 : dK + J = M * 1000000000 + d - 1) : (D - (d - 1 - J)) % 18446744073709551616 = 0 := by omega
theorem own_n6 (Q K d J : Int) (h0 : 0 ≤ K) (h1 : K ≤ 1000000000) (h2 : 0 ≤ J) (h3 : J < d) : ¬ (Q * 1000000000 + K < Q * 1000000000) ∧ ¬ (Q * 1000000000 + 1000000000 < Q * 1000000000 + K) ∧ ¬ (d - 1 - J < 0) ∧ d - 1 - J < d := by omega
theorem own_n7 (d J : Int) (h0 : d < 2147483648) (h2 : 0 ≤ J) (h3 : J < d) : -9223372036854775808 ≤ d - 1 - J ∧ d - 1 - J < 9223372036854775808 := by omega
set_option maxHeartbeats 8000000 in
theorem own_spec (f : Int64) (r : Int32) (hf : 0 ≤ f.toInt) (hr : 1 ≤ r.toInt) (hq : ¬ (9223372035 : Int64) < f / r.toInt64) : ¬ own_send f r < (f / r.toInt64) * (1000000000 : Int64) ∧ ¬ ((f / r.toInt64) * (1000000000 : Int64) + (1000000000 : Int64) < own_send f r) ∧ ¬ (own_send f r * r.toInt64 - f * (1000000000 : Int64)) < (0 : Int64) ∧ (own_send f r * r.toInt64 - f * (1000000000 : Int64)) < r.toInt64 := by
  have eR := c_i2l r
  have r2 : r.toInt < 2147483648 := by have := Int32.toInt_lt r; omega
  unfold own_send
  generalize r.toInt64 = R at *
  generalize r.toInt = d at *
  have k9 : (1000000000 : Int64).toInt = 1000000000 := rfl
  have k1 : (1 : Int64).toInt = 1 := rfl
  have k0 : (0 : Int64).toInt = 0 := rfl
  have kq : (9223372035 : Int64).toInt = 9223372035 := rfl
  have hm1 : R ≠ -1 := fun q => by rw [q] at eR; have : (-1 : Int64).toInt = -1 := rfl; omega
  have hd0 : d ≠ 0 := by omega
  have hdp : 0 < d := by omega
  have e1 := (c_ldiv f R d eR hm1).1 hf
  have e2 := (c_lrem f R d eR).1 hf
  have hQ := Int.mul_ediv_add_emod f.toInt d
  have hM1 := Int.emod_nonneg f.toInt hd0
  have hM2 := Int.emod_lt_of_pos f.toInt hdp
  have hQ0 : 0 ≤ f.toInt / d := Int.ediv_nonneg hf (Int.le_of_lt hdp)
  rw [Int64.lt_iff_toInt_lt, e1, kq] at hq
  generalize f / R = q at *
  generalize f - q * R = m at *
  generalize f.toInt / d = Q at *
  generalize f.toInt % d = M at *
  have p1 := c_lmul q 1000000000
  rw [e1, k9] at p1
  have p1' := own_fix _ _ p1 (own_n1 Q hQ0 hq).1 (own_n1 Q hQ0 hq).2
  have p2 := c_lmul m 1000000000
  rw [e2, k9] at p2
  have N2 := own_n2 M d hM1 hM2 r2
  have p2' := own_fix _ _ p2 N2.1.1 N2.1.2
  generalize q * 1000000000 = lo at *
  generalize m * 1000000000 = mn at *
  have p3 := c_ladd mn R
  rw [p2', eR] at p3
  have p3' := own_fix _ _ p3 N2.2.1.1 N2.2.1.2
  generalize mn + R = s1 at *
  have p4 := c_lsub s1 1
  rw [p3', k1] at p4
  have p4' := own_fix _ _ p4 N2.2.2.1.1 N2.2.2.1.2
  generalize s1 - 1 = A at *
  have p5 := (c_ldiv A R d eR hm1).1 (by rw [p4']; exact N2.2.2.2)
  rw [p4'] at p5
  have hK := Int.mul_ediv_add_emod (M * 1000000000 + d - 1) d
  have hK1 := Int.emod_nonneg (M * 1000000000 + d - 1) hd0
  have hK2 := Int.emod_lt_of_pos (M * 1000000000 + d - 1) hdp
  have hK0 : 0 ≤ (M * 1000000000 + d - 1) / d := Int.ediv_nonneg N2.2.2.2 (Int.le_of_lt hdp)
  have hKb := own_n3 M d hM1 hM2
  generalize A / R = kk at *
  generalize (M * 1000000000 + d - 1) / d = K at *
  generalize (M * 1000000000 + d - 1) % d = J at *
  have N4 := own_n4 Q K hQ0 hq hK0 hKb
  have p6 := c_ladd lo kk
  rw [p1', p5] at p6
  have p6' := own_fix _ _ p6 N4.1.1 N4.1.2
  generalize lo + kk = t at *
  have p7 := c_ladd lo 1000000000
  rw [p1', k9] at p7
  have p7' := own_fix _ _ p7 N4.2.1 N4.2.2
  have p8 := c_lmul t R
  have p9 := c_lmul f 1000000000
  have p10 := c_lsub (t * R) (f * 1000000000)
  have hp : (Q * 1000000000 + K) * d = 1000000000 * (d * Q) + d * K := by rw [Int.add_mul, Int.mul_comm Q 1000000000, Int.mul_assoc, Int.mul_comm Q d, Int.mul_comm K d]
  rw [p6', eR, hp] at p8
  rw [k9] at p9
  have pD := own_n5 _ _ _ _ _ _ M d J p10 p8 p9 hQ hK
  have pD' := own_fix _ _ pD (own_n7 d J r2 hK1 hK2).1 (own_n7 d J r2 hK1 hK2).2
  simp only [Int64.lt_iff_toInt_lt]
  rw [p6', p1', p7', pD', k0, eR]
  exact own_n6 Q K d J hK0 hKb hK1 hK2
theorem own_eqL {args : Array Value} {s : State} {t : Term} {n : Int64} (h : (Jvm.Cond.eq t (.long n)).value args s none s [] = some true) : t.eval args s none [] s = some (.long n) := by
  simp only [Cond.value, Term.eval] at h
  cases ht : t.eval args s none [] s with
  | none => simp [ht] at h
  | some x => cases x <;> simp [ht] at h ⊢; exact h
theorem ef_1 (m : MethodId) (x0 : Int32) (x1 : Int32) : entryFrame m #[(.int x0), (.int x1)] 2 = mkF m 0 #[.val (.int x0), .val (.int x1)] [] := by first | (simp [entryFrame, mkF, argsToLocals, Value.category]; done) | rfl
def Q_rmax (Z : State) (p1 : Int32) (p2 : Int32) (h0 : Heap) (n0 : Nat) (v : Option Value) (h : Heap) (L : List Loc) : Prop := v = some (.int (own_max p1 p2)) ∧ Fr n0 L ∧ h = h0
theorem d1_0 : decode jdk_29_method_65_code 0 = .ok (.iload_n 0, 1) := by decide +kernel
theorem d1_1 : decode jdk_29_method_65_code 1 = .ok (.iload_n 1, 1) := by decide +kernel
theorem d1_2 : decode jdk_29_method_65_code 2 = .ok (.if_icmp .lt 7, 3) := by decide +kernel
theorem d1_9 : decode jdk_29_method_65_code 9 = .ok (.iload_n 1, 1) := by decide +kernel
theorem d1_10 : decode jdk_29_method_65_code 10 = .ok (.ireturn, 1) := by decide +kernel
theorem d1_5 : decode jdk_29_method_65_code 5 = .ok (.iload_n 0, 1) := by decide +kernel
theorem d1_6 : decode jdk_29_method_65_code 6 = .ok (.goto 4, 3) := by decide +kernel
set_option maxRecDepth 65536 in
set_option maxHeartbeats 40000000 in
theorem rmax (l : Launch) (Z : State) (a0 : Array Value) (hw : ∀ d ∈ tables_1, d.before a0 Z = true) (ws : List Jvm.Cond) (p1 : Int32) (p2 : Int32) (h0 : Heap) (n0 : Nat) (Z0 : n0 ≤ h0.size)  :
    MetFree l (⟨"java/lang/Math", "max", "(II)I"⟩ : MethodName) (head1 (Jvm.Cond.code (⟨"java/lang/Math", "max", "(II)I"⟩ : MethodName) jdk_29_method_65_code 2 (some .int) :: ws) ({ frames := 0, cells := 0, slots := 0, locals := 0 } : Room)) (fun a U => a = #[(.int p1), (.int p2)] ∧ Z.Warmed39 U.vm ∧ U.heap = h0) (fun _ _ _ _ _ => True) (fun _ U o U' => ∃ v L, o = .returned v ∧ Q_rmax Z p1 p2 h0 n0 v U'.heap L ∧ FrameEnd U o U' L ({ frames := 0, cells := 0, slots := 0, locals := 0 } : Room).cells ({ frames := 0, cells := 0, slots := 0, locals := 0 } : Room).slots) := by
  refine MetFree.of_bodySF (Jvm.Free.JP.mathPlain rfl (by decide +kernel)) hisR ?_
  intro p e s m args below meth c s₁ Bd hml0 hP hK
  obtain ⟨rfl, hZ, hh⟩ := hP
  have hx := Bd.exec
  have hby := Bd.bytes
  have hml : c.maxLocals = 2 := hml0
  have hown : s.vm.findClass "java/lang/Math" = some m.cls := findClass_of_methodNamed Bd.named
  have hnm := (name_of_methodNamed Bd.named Bd.method).1
  have X0 : Stand p l e ({ frames := 0, cells := 0, slots := 0, locals := 0 } : Room) s m #[(.int p1), (.int p2)] below meth c s₁ [] 0 0 := Stand.of_body Bd
  have e0 : s₁.heap = h0 := by rw [← hh, Bd.state]; rfl
  have N0 := Fr.nil n0
  refine own_go (g' := (mkF m 0 #[.val (.int p1), .val (.int p2)] [])) (fun t k => castTop (ef_1 m (p1) (p2)) k) ?_
  refine own_go (T' := s₁) (g' := (mkF m 2 #[.val (.int p1), .val (.int p2)] [(.int p2), (.int p1)])) (fun t kt => ?_) ?_
  · show Steps p.tables e below (s₁.setTop (mkF m 0 #[.val (.int p1), .val (.int p2)] [])) t
    refine XS.iloadN X0.here hx rfl (hb hby d1_0) rfl ?_
    show Steps p.tables e below (s₁.setTop (mkF m 1 #[.val (.int p1), .val (.int p2)] [(.int p1)])) t
    refine XS.iloadN X0.here hx rfl (hb hby d1_1) rfl ?_
    exact kt
  by_cases hc2 : p1 < p2
  · refine own_go (T' := s₁) (g' := (mkF m 10 #[.val (.int p1), .val (.int p2)] [(.int p2)])) (fun t kt => ?_) ?_
    · show Steps p.tables e below (s₁.setTop (mkF m 2 #[.val (.int p1), .val (.int p2)] [(.int p2), (.int p1)])) t
      refine XS.icmpYes X0.here hx rfl (pc0 := 2) (pc' := 9) rfl (hb hby d1_2) rfl (tlt hc2).1 (by decide) (by decide) ?_
      show Steps p.tables e below (s₁.setTop (mkF m 9 #[.val (.int p1), .val (.int p2)] [])) t
      refine XS.iloadN X0.here hx rfl (hb hby d1_9) rfl ?_
      exact kt
    obtain ⟨fs, hr, hrun, hended, hW, hsame⟩ := X0.leave (v := some (.int p2)) (fun h => by rw [Bd.returns] at h; cases h)
    refine ⟨_, _, ?_, hrun, hended, _, _, rfl, ?_, ⟨_, rfl⟩, hW, hsame.mono (by decide) (by decide)⟩
    · exact retI X0 hx Bd.returns (hb hby d1_10) hr
    · show Q_rmax Z _ _ h0 n0 _ s₁.heap _
      rw [e0]
      exact ⟨congrArg (fun z => some (Value.int z)) (if_pos hc2).symm, N0, rfl⟩
  · refine own_go (T' := s₁) (g' := (mkF m 10 #[.val (.int p1), .val (.int p2)] [(.int p1)])) (fun t kt => ?_) ?_
    · show Steps p.tables e below (s₁.setTop (mkF m 2 #[.val (.int p1), .val (.int p2)] [(.int p2), (.int p1)])) t
      refine XS.icmpNo X0.here hx rfl (hb hby d1_2) rfl (flt hc2).1 ?_
      show Steps p.tables e below (s₁.setTop (mkF m 5 #[.val (.int p1), .val (.int p2)] [])) t
      refine XS.iloadN X0.here hx rfl (hb hby d1_5) rfl ?_
      show Steps p.tables e below (s₁.setTop (mkF m 6 #[.val (.int p1), .val (.int p2)] [(.int p1)])) t
      refine XS.goto X0.here hx rfl (pc0 := 6) (pc' := 10) rfl (hb hby d1_6) (by decide) (by decide) ?_
      exact kt
    obtain ⟨fs, hr, hrun, hended, hW, hsame⟩ := X0.leave (v := some (.int p1)) (fun h => by rw [Bd.returns] at h; cases h)
    refine ⟨_, _, ?_, hrun, hended, _, _, rfl, ?_, ⟨_, rfl⟩, hW, hsame.mono (by decide) (by decide)⟩
    · exact retI X0 hx Bd.returns (hb hby d1_10) hr
    · show Q_rmax Z _ _ h0 n0 _ s₁.heap _
      rw [e0]
      exact ⟨congrArg (fun z => some (Value.int z)) (if_neg hc2).symm, N0, rfl⟩
theorem pn_2 : plainName "com/example/orrery/orrery/Station" = true := by first | (simp [plainName, overriddenIn]; done) | decide +kernel
theorem ef_2 (m : MethodId) (x0 : Int64) (x1 : Int32) : entryFrame m #[(.long x0), (.int x1)] 3 = mkF m 0 #[.val (.long x0), .second, .val (.int x1)] [] := by first | (simp [entryFrame, mkF, argsToLocals, Value.category]; done) | rfl
def Q_rsend (Z : State) (q1 : Int64) (p2 : Int32) (h0 : Heap) (n0 : Nat) (v : Option Value) (h : Heap) (L : List Loc) : Prop := v = some (.long (own_send q1 p2)) ∧ Fr n0 L ∧ h = h0
theorem d2_0 : decode prog_34_method_5_code 0 = .ok (.lload_n 0, 1) := by decide +kernel
theorem d2_1 : decode prog_34_method_5_code 1 = .ok (.iload_n 2, 1) := by decide +kernel
theorem d2_2 : decode prog_34_method_5_code 2 = .ok (.i2l, 1) := by decide +kernel
theorem d2_3 : decode prog_34_method_5_code 3 = .ok (.ldiv, 1) := by decide +kernel
theorem d2_4 : decode prog_34_method_5_code 4 = .ok (.getstatic 132, 3) := by decide +kernel
theorem d2_7 : decode prog_34_method_5_code 7 = .ok (.lmul, 1) := by decide +kernel
theorem d2_8 : decode prog_34_method_5_code 8 = .ok (.lload_n 0, 1) := by decide +kernel
theorem d2_9 : decode prog_34_method_5_code 9 = .ok (.iload_n 2, 1) := by decide +kernel
theorem d2_10 : decode prog_34_method_5_code 10 = .ok (.i2l, 1) := by decide +kernel
theorem d2_11 : decode prog_34_method_5_code 11 = .ok (.lrem, 1) := by decide +kernel
theorem d2_12 : decode prog_34_method_5_code 12 = .ok (.getstatic 132, 3) := by decide +kernel
theorem d2_15 : decode prog_34_method_5_code 15 = .ok (.lmul, 1) := by decide +kernel
theorem d2_16 : decode prog_34_method_5_code 16 = .ok (.iload_n 2, 1) := by decide +kernel
theorem d2_17 : decode prog_34_method_5_code 17 = .ok (.i2l, 1) := by decide +kernel
theorem d2_18 : decode prog_34_method_5_code 18 = .ok (.ladd, 1) := by decide +kernel
theorem d2_19 : decode prog_34_method_5_code 19 = .ok (.lconst 1, 1) := by decide +kernel
theorem d2_20 : decode prog_34_method_5_code 20 = .ok (.lsub, 1) := by decide +kernel
theorem d2_21 : decode prog_34_method_5_code 21 = .ok (.iload_n 2, 1) := by decide +kernel
theorem d2_22 : decode prog_34_method_5_code 22 = .ok (.i2l, 1) := by decide +kernel
theorem d2_23 : decode prog_34_method_5_code 23 = .ok (.ldiv, 1) := by decide +kernel
theorem d2_24 : decode prog_34_method_5_code 24 = .ok (.ladd, 1) := by decide +kernel
theorem d2_25 : decode prog_34_method_5_code 25 = .ok (.lreturn, 1) := by decide +kernel
set_option maxRecDepth 65536 in
set_option maxHeartbeats 40000000 in
theorem rsend (l : Launch) (Z : State) (a0 : Array Value) (hw : ∀ d ∈ tables_1, d.before a0 Z = true) (ws : List Jvm.Cond) (q1 : Int64) (p2 : Int32) (h0 : Heap) (n0 : Nat) (Z0 : n0 ≤ h0.size) (S0 : Sta Z h0 "com/example/orrery/orrery/Station" "NANOS_PER_SECOND" "J" (.long (1000000000 : Int64))) (hnz : ¬ (p2.toInt64 = (0 : Int64))) :
    MetFree l (⟨"com/example/orrery/orrery/Station", "sendTime", "(JI)J"⟩ : MethodName) (head1 (Jvm.Cond.code (⟨"com/example/orrery/orrery/Station", "sendTime", "(JI)J"⟩ : MethodName) prog_34_method_5_code 3 (some .long) :: ws) ({ frames := 0, cells := 0, slots := 0, locals := 0 } : Room)) (fun a U => a = #[(.long q1), (.int p2)] ∧ Z.Warmed39 U.vm ∧ U.heap = h0) (fun _ _ _ _ _ => True) (fun _ U o U' => ∃ v L, o = .returned v ∧ Q_rsend Z q1 p2 h0 n0 v U'.heap L ∧ FrameEnd U o U' L ({ frames := 0, cells := 0, slots := 0, locals := 0 } : Room).cells ({ frames := 0, cells := 0, slots := 0, locals := 0 } : Room).slots) := by
  refine MetFree.of_bodySF (plainFor_of_name pn_2) hisR ?_
  intro p e s m args below meth c s₁ Bd hml0 hP hK
  obtain ⟨rfl, hZ, hh⟩ := hP
  have hx := Bd.exec
  have hby := Bd.bytes
  have hml : c.maxLocals = 3 := hml0
  have hown : s.vm.findClass "com/example/orrery/orrery/Station" = some m.cls := findClass_of_methodNamed Bd.named
  have hnm := (name_of_methodNamed Bd.named Bd.method).1
  have X0 : Stand p l e ({ frames := 0, cells := 0, slots := 0, locals := 0 } : Room) s m #[(.long q1), (.int p2)] below meth c s₁ [] 0 0 := Stand.of_body Bd
  have e0 : s₁.heap = h0 := by rw [← hh, Bd.state]; rfl
  have N0 := Fr.nil n0
  refine own_go (g' := (mkF m 0 #[.val (.long q1), .second, .val (.int p2)] [])) (fun t k => castTop (ef_2 m (q1) (p2)) k) ?_
  refine own_go (T' := s₁) (g' := (mkF m 4 #[.val (.long q1), .second, .val (.int p2)] [(.long (q1 / (p2.toInt64)))])) (fun t kt => ?_) ?_
  · show Steps p.tables e below (s₁.setTop (mkF m 0 #[.val (.long q1), .second, .val (.int p2)] [])) t
    refine XS.lloadN X0.here hx rfl (hb hby d2_0) rfl ?_
    show Steps p.tables e below (s₁.setTop (mkF m 1 #[.val (.long q1), .second, .val (.int p2)] [(.long q1)])) t
    refine XS.iloadN X0.here hx rfl (hb hby d2_1) rfl ?_
    show Steps p.tables e below (s₁.setTop (mkF m 2 #[.val (.long q1), .second, .val (.int p2)] [(.int p2), (.long q1)])) t
    refine XS.i2l X0.here hx rfl (hb hby d2_2) rfl ?_
    show Steps p.tables e below (s₁.setTop (mkF m 3 #[.val (.long q1), .second, .val (.int p2)] [(.long (p2.toInt64)), (.long q1)])) t
    refine XS.ldiv X0.here hx rfl (hb hby d2_3) rfl hnz ?_
    exact kt
  obtain ⟨T_1, X_1, e_1, st_1⟩ := getS2 X0 hx hZ hown (host := "") (Or.inl (hw _ (List.mem_of_getElem? (i := 12) rfl))) Via.refl e0 S0 (g := (mkF m 4 #[.val (.long q1), .second, .val (.int p2)] [(.long (q1 / (p2.toInt64)))])) rfl (hb hby d2_4)
  refine own_go (g' := (mkF m 7 #[.val (.long q1), .second, .val (.int p2)] [(.long (1000000000 : Int64)), (.long (q1 / (p2.toInt64)))])) st_1 ?_
  refine own_go (T' := T_1) (g' := (mkF m 12 #[.val (.long q1), .second, .val (.int p2)] [(.long (q1 - (q1 / (p2.toInt64)) * (p2.toInt64))), (.long ((q1 / (p2.toInt64)) * (1000000000 : Int64)))])) (fun t kt => ?_) ?_
  · show Steps p.tables e below (T_1.setTop (mkF m 7 #[.val (.long q1), .second, .val (.int p2)] [(.long (1000000000 : Int64)), (.long (q1 / (p2.toInt64)))])) t
    refine XS.lmul X_1.here hx rfl (hb hby d2_7) rfl ?_
    show Steps p.tables e below (T_1.setTop (mkF m 8 #[.val (.long q1), .second, .val (.int p2)] [(.long ((q1 / (p2.toInt64)) * (1000000000 : Int64)))])) t
    refine XS.lloadN X_1.here hx rfl (hb hby d2_8) rfl ?_
    show Steps p.tables e below (T_1.setTop (mkF m 9 #[.val (.long q1), .second, .val (.int p2)] [(.long q1), (.long ((q1 / (p2.toInt64)) * (1000000000 : Int64)))])) t
    refine XS.iloadN X_1.here hx rfl (hb hby d2_9) rfl ?_
    show Steps p.tables e below (T_1.setTop (mkF m 10 #[.val (.long q1), .second, .val (.int p2)] [(.int p2), (.long q1), (.long ((q1 / (p2.toInt64)) * (1000000000 : Int64)))])) t
    refine XS.i2l X_1.here hx rfl (hb hby d2_10) rfl ?_
    show Steps p.tables e below (T_1.setTop (mkF m 11 #[.val (.long q1), .second, .val (.int p2)] [(.long (p2.toInt64)), (.long q1), (.long ((q1 / (p2.toInt64)) * (1000000000 : Int64)))])) t
    refine XS.lrem X_1.here hx rfl (hb hby d2_11) rfl hnz ?_
    exact kt
  obtain ⟨T_2, X_2, e_2, st_2⟩ := getS2 X_1 hx hZ hown (host := "") (Or.inl (hw _ (List.mem_of_getElem? (i := 12) rfl))) Via.refl e_1 S0 (g := (mkF m 12 #[.val (.long q1), .second, .val (.int p2)] [(.long (q1 - (q1 / (p2.toInt64)) * (p2.toInt64))), (.long ((q1 / (p2.toInt64)) * (1000000000 : Int64)))])) rfl (hb hby d2_12)
  refine own_go (g' := (mkF m 15 #[.val (.long q1), .second, .val (.int p2)] [(.long (1000000000 : Int64)), (.long (q1 - (q1 / (p2.toInt64)) * (p2.toInt64))), (.long ((q1 / (p2.toInt64)) * (1000000000 : Int64)))])) st_2 ?_
  refine own_go (T' := T_2) (g' := (mkF m 25 #[.val (.long q1), .second, .val (.int p2)] [(.long (((q1 / (p2.toInt64)) * (1000000000 : Int64)) + (((((q1 - (q1 / (p2.toInt64)) * (p2.toInt64)) * (1000000000 : Int64)) + (p2.toInt64)) - (1 : Int64)) / (p2.toInt64))))])) (fun t kt => ?_) ?_
  · show Steps p.tables e below (T_2.setTop (mkF m 15 #[.val (.long q1), .second, .val (.int p2)] [(.long (1000000000 : Int64)), (.long (q1 - (q1 / (p2.toInt64)) * (p2.toInt64))), (.long ((q1 / (p2.toInt64)) * (1000000000 : Int64)))])) t
    refine XS.lmul X_2.here hx rfl (hb hby d2_15) rfl ?_
    show Steps p.tables e below (T_2.setTop (mkF m 16 #[.val (.long q1), .second, .val (.int p2)] [(.long ((q1 - (q1 / (p2.toInt64)) * (p2.toInt64)) * (1000000000 : Int64))), (.long ((q1 / (p2.toInt64)) * (1000000000 : Int64)))])) t
    refine XS.iloadN X_2.here hx rfl (hb hby d2_16) rfl ?_
    show Steps p.tables e below (T_2.setTop (mkF m 17 #[.val (.long q1), .second, .val (.int p2)] [(.int p2), (.long ((q1 - (q1 / (p2.toInt64)) * (p2.toInt64)) * (1000000000 : Int64))), (.long ((q1 / (p2.toInt64)) * (1000000000 : Int64)))])) t
    refine XS.i2l X_2.here hx rfl (hb hby d2_17) rfl ?_
    show Steps p.tables e below (T_2.setTop (mkF m 18 #[.val (.long q1), .second, .val (.int p2)] [(.long (p2.toInt64)), (.long ((q1 - (q1 / (p2.toInt64)) * (p2.toInt64)) * (1000000000 : Int64))), (.long ((q1 / (p2.toInt64)) * (1000000000 : Int64)))])) t
    refine XS.ladd X_2.here hx rfl (hb hby d2_18) rfl ?_
    show Steps p.tables e below (T_2.setTop (mkF m 19 #[.val (.long q1), .second, .val (.int p2)] [(.long (((q1 - (q1 / (p2.toInt64)) * (p2.toInt64)) * (1000000000 : Int64)) + (p2.toInt64))), (.long ((q1 / (p2.toInt64)) * (1000000000 : Int64)))])) t
    refine XS.lconst X_2.here hx rfl (hb hby d2_19) ?_
    show Steps p.tables e below (T_2.setTop (mkF m 20 #[.val (.long q1), .second, .val (.int p2)] [(.long (1 : Int64)), (.long (((q1 - (q1 / (p2.toInt64)) * (p2.toInt64)) * (1000000000 : Int64)) + (p2.toInt64))), (.long ((q1 / (p2.toInt64)) * (1000000000 : Int64)))])) t
    refine XS.lsub X_2.here hx rfl (hb hby d2_20) rfl ?_
    show Steps p.tables e below (T_2.setTop (mkF m 21 #[.val (.long q1), .second, .val (.int p2)] [(.long ((((q1 - (q1 / (p2.toInt64)) * (p2.toInt64)) * (1000000000 : Int64)) + (p2.toInt64)) - (1 : Int64))), (.long ((q1 / (p2.toInt64)) * (1000000000 : Int64)))])) t
    refine XS.iloadN X_2.here hx rfl (hb hby d2_21) rfl ?_
    show Steps p.tables e below (T_2.setTop (mkF m 22 #[.val (.long q1), .second, .val (.int p2)] [(.int p2), (.long ((((q1 - (q1 / (p2.toInt64)) * (p2.toInt64)) * (1000000000 : Int64)) + (p2.toInt64)) - (1 : Int64))), (.long ((q1 / (p2.toInt64)) * (1000000000 : Int64)))])) t
    refine XS.i2l X_2.here hx rfl (hb hby d2_22) rfl ?_
    show Steps p.tables e below (T_2.setTop (mkF m 23 #[.val (.long q1), .second, .val (.int p2)] [(.long (p2.toInt64)), (.long ((((q1 - (q1 / (p2.toInt64)) * (p2.toInt64)) * (1000000000 : Int64)) + (p2.toInt64)) - (1 : Int64))), (.long ((q1 / (p2.toInt64)) * (1000000000 : Int64)))])) t
    refine XS.ldiv X_2.here hx rfl (hb hby d2_23) rfl hnz ?_
    show Steps p.tables e below (T_2.setTop (mkF m 24 #[.val (.long q1), .second, .val (.int p2)] [(.long (((((q1 - (q1 / (p2.toInt64)) * (p2.toInt64)) * (1000000000 : Int64)) + (p2.toInt64)) - (1 : Int64)) / (p2.toInt64))), (.long ((q1 / (p2.toInt64)) * (1000000000 : Int64)))])) t
    refine XS.ladd X_2.here hx rfl (hb hby d2_24) rfl ?_
    exact kt
  obtain ⟨fs, hr, hrun, hended, hW, hsame⟩ := X_2.leave (v := some (.long (((q1 / (p2.toInt64)) * (1000000000 : Int64)) + (((((q1 - (q1 / (p2.toInt64)) * (p2.toInt64)) * (1000000000 : Int64)) + (p2.toInt64)) - (1 : Int64)) / (p2.toInt64))))) (fun h => by rw [Bd.returns] at h; cases h)
  refine ⟨_, _, ?_, hrun, hended, _, _, rfl, ?_, ⟨_, rfl⟩, hW, hsame.mono (by decide) (by decide)⟩
  · exact X_2.lreturnOut hx Bd.returns (hb hby d2_25) hr
  · show Q_rsend Z _ _ h0 n0 _ T_2.heap _
    rw [e_2]
    exact ⟨rfl, N0, rfl⟩
theorem pn_0 : plainName "com/example/orrery/orrery/StationSendTimePinLaw" = true := by first | (simp [plainName, overriddenIn]; done) | decide +kernel
theorem ef_0 (m : MethodId) (x0 : Int64) (x1 : Int32) (x2 : Int32) : entryFrame m #[(.long x0), (.int x1), (.int x2)] maxLocals = mkF m 0 #[.val (.long x0), .second, .val (.int x1), .val (.int x2), .unset, .unset, .unset, .unset, .unset, .unset, .unset, .unset, .unset, .unset, .unset, .unset, .unset, .unset, .unset] [] := by first | (simp [entryFrame, mkF, argsToLocals, Value.category, maxLocals]; done) | rfl
def Q_rm0 (Z : State) (q1 : Int64) (p2 : Int32) (p3 : Int32) (h0 : Heap) (n0 : Nat) (v : Option Value) (h : Heap) (L : List Loc) : Prop := v = some (.int (1 : Int32)) ∧ Fr n0 L
theorem pd_0 : parseMethodDescriptor "(II)I" = some ⟨[.int, .int], some .int⟩ := by decide +kernel
theorem pd_1 : parseMethodDescriptor "(JI)J" = some ⟨[.long, .int], some .long⟩ := by decide +kernel
set_option maxRecDepth 65536 in
set_option maxHeartbeats 40000000 in
theorem rm0 (l : Launch) (Z : State) (a0 : Array Value) (hw : ∀ d ∈ tables_1, d.before a0 Z = true) (ws : List Jvm.Cond) (q1 : Int64) (p2 : Int32) (p3 : Int32) (h0 : Heap) (n0 : Nat) (Z0 : n0 ≤ h0.size) (S0 : Sta Z h0 "com/example/orrery/orrery/Station" "NANOS_PER_SECOND" "J" (.long (1000000000 : Int64))) :
    MetFree l x (head1 (Jvm.Cond.code x code maxLocals ret :: ws) room_1) (fun a U => a = #[(.long q1), (.int p2), (.int p3)] ∧ Z.Warmed39 U.vm ∧ U.heap = h0) (fun _ _ _ _ _ => True) (fun _ U o U' => ∃ v L, o = .returned v ∧ Q_rm0 Z q1 p2 p3 h0 n0 v U'.heap L ∧ FrameEnd U o U' L room_1.cells room_1.slots) := by
  refine MetFree.of_bodySF (plainFor_of_name pn_0) hisR ?_
  intro p e s m args below meth c s₁ Bd hml0 hP hK
  obtain ⟨rfl, hZ, hh⟩ := hP
  have hx := Bd.exec
  have hby := Bd.bytes
  have hml : c.maxLocals = 19 := hml0
  have hown : s.vm.findClass "com/example/orrery/orrery/StationSendTimePinLaw" = some m.cls := findClass_of_methodNamed Bd.named
  have hnm := (name_of_methodNamed Bd.named Bd.method).1
  have X0 : Stand p l e room_1 s m #[(.long q1), (.int p2), (.int p3)] below meth c s₁ [] 0 0 := Stand.of_body Bd
  have e0 : s₁.heap = h0 := by rw [← hh, Bd.state]; rfl
  have N0 := Fr.nil n0
  refine own_go (g' := (mkF m 0 #[.val (.long q1), .second, .val (.int p2), .val (.int p3), .unset, .unset, .unset, .unset, .unset, .unset, .unset, .unset, .unset, .unset, .unset, .unset, .unset, .unset, .unset] [])) (fun t k => castTop (ef_0 m (q1) (p2) (p3)) k) ?_
  refine own_go (T' := s₁) (g' := (mkF m 10 #[.val (.long q1), .second, .val (.int p2), .val (.int p3), .unset, .unset, .unset, .unset, .unset, .unset, .unset, .unset, .unset, .unset, .unset, .unset, .unset, .unset, .unset] [(.long (((q1 &&& (9223372036854775807 : Int64)).toUInt64 >>> ((p3 &&& (63 : Int32)) &&& 0x3f).toInt64.toUInt64).toInt64))])) (fun t kt => ?_) ?_
  · show Steps p.tables e below (s₁.setTop (mkF m 0 #[.val (.long q1), .second, .val (.int p2), .val (.int p3), .unset, .unset, .unset, .unset, .unset, .unset, .unset, .unset, .unset, .unset, .unset, .unset, .unset, .unset, .unset] [])) t
    refine XS.lloadN X0.here hx rfl (hb hby at_0) rfl ?_
    show Steps p.tables e below (s₁.setTop (mkF m 1 #[.val (.long q1), .second, .val (.int p2), .val (.int p3), .unset, .unset, .unset, .unset, .unset, .unset, .unset, .unset, .unset, .unset, .unset, .unset, .unset, .unset, .unset] [(.long q1)])) t
    refine X0.ldc2Long hx hown (mvT hZ (hw _ (List.mem_of_getElem? (i := 0) rfl))) (g := (mkF m 1 #[.val (.long q1), .second, .val (.int p2), .val (.int p3), .unset, .unset, .unset, .unset, .unset, .unset, .unset, .unset, .unset, .unset, .unset, .unset, .unset, .unset, .unset] [(.long q1)])) rfl (hb hby at_1) _ ?_
    show Steps p.tables e below (s₁.setTop (mkF m 4 #[.val (.long q1), .second, .val (.int p2), .val (.int p3), .unset, .unset, .unset, .unset, .unset, .unset, .unset, .unset, .unset, .unset, .unset, .unset, .unset, .unset, .unset] [(.long (9223372036854775807 : Int64)), (.long q1)])) t
    refine XS.land X0.here hx rfl (hb hby at_4) rfl ?_
    show Steps p.tables e below (s₁.setTop (mkF m 5 #[.val (.long q1), .second, .val (.int p2), .val (.int p3), .unset, .unset, .unset, .unset, .unset, .unset, .unset, .unset, .unset, .unset, .unset, .unset, .unset, .unset, .unset] [(.long (q1 &&& (9223372036854775807 : Int64)))])) t
    refine XS.iloadN X0.here hx rfl (hb hby at_5) rfl ?_
    show Steps p.tables e below (s₁.setTop (mkF m 6 #[.val (.long q1), .second, .val (.int p2), .val (.int p3), .unset, .unset, .unset, .unset, .unset, .unset, .unset, .unset, .unset, .unset, .unset, .unset, .unset, .unset, .unset] [(.int p3), (.long (q1 &&& (9223372036854775807 : Int64)))])) t
    refine XS.bipush X0.here hx rfl (hb hby at_6) ?_
    show Steps p.tables e below (s₁.setTop (mkF m 8 #[.val (.long q1), .second, .val (.int p2), .val (.int p3), .unset, .unset, .unset, .unset, .unset, .unset, .unset, .unset, .unset, .unset, .unset, .unset, .unset, .unset, .unset] [(.int (63 : Int32)), (.int p3), (.long (q1 &&& (9223372036854775807 : Int64)))])) t
    refine XS.iand X0.here hx rfl (hb hby at_8) rfl ?_
    show Steps p.tables e below (s₁.setTop (mkF m 9 #[.val (.long q1), .second, .val (.int p2), .val (.int p3), .unset, .unset, .unset, .unset, .unset, .unset, .unset, .unset, .unset, .unset, .unset, .unset, .unset, .unset, .unset] [(.int (p3 &&& (63 : Int32))), (.long (q1 &&& (9223372036854775807 : Int64)))])) t
    refine XS.lushr X0.here hx rfl (hb hby at_9) rfl ?_
    exact kt
  have hf := own_f q1 (p3 &&& (63 : Int32))
  generalize hF : (((q1 &&& (9223372036854775807 : Int64)).toUInt64 >>> ((p3 &&& (63 : Int32)) &&& 0x3f).toInt64.toUInt64).toInt64) = f at hf ⊢
  refine own_go (T' := s₁) (g' := (mkF m 17 #[.val (.long q1), .second, .val (.int p2), .val (.int p3), .val (.long f), .second, .unset, .unset, .unset, .unset, .unset, .unset, .unset, .unset, .unset, .unset, .unset, .unset, .unset] [(.int (p2 &&& (2147483647 : Int32))), (.int (1 : Int32))])) (fun t kt => ?_) ?_
  · show Steps p.tables e below (s₁.setTop (mkF m 10 #[.val (.long q1), .second, .val (.int p2), .val (.int p3), .unset, .unset, .unset, .unset, .unset, .unset, .unset, .unset, .unset, .unset, .unset, .unset, .unset, .unset, .unset] [(.long f)])) t
    refine XS.lstore X0.here hx rfl (hb hby at_10) rfl (l' := #[.val (.long q1), .second, .val (.int p2), .val (.int p3), .val (.long f), .second, .unset, .unset, .unset, .unset, .unset, .unset, .unset, .unset, .unset, .unset, .unset, .unset, .unset]) rfl ?_
    show Steps p.tables e below (s₁.setTop (mkF m 12 #[.val (.long q1), .second, .val (.int p2), .val (.int p3), .val (.long f), .second, .unset, .unset, .unset, .unset, .unset, .unset, .unset, .unset, .unset, .unset, .unset, .unset, .unset] [])) t
    refine XS.iconst X0.here hx rfl (hb hby at_12) ?_
    show Steps p.tables e below (s₁.setTop (mkF m 13 #[.val (.long q1), .second, .val (.int p2), .val (.int p3), .val (.long f), .second, .unset, .unset, .unset, .unset, .unset, .unset, .unset, .unset, .unset, .unset, .unset, .unset, .unset] [(.int (1 : Int32))])) t
    refine XS.iloadN X0.here hx rfl (hb hby at_13) rfl ?_
    show Steps p.tables e below (s₁.setTop (mkF m 14 #[.val (.long q1), .second, .val (.int p2), .val (.int p3), .val (.long f), .second, .unset, .unset, .unset, .unset, .unset, .unset, .unset, .unset, .unset, .unset, .unset, .unset, .unset] [(.int p2), (.int (1 : Int32))])) t
    refine X0.ldcInt hx hown (mvT hZ (hw _ (List.mem_of_getElem? (i := 1) rfl))) (g := (mkF m 14 #[.val (.long q1), .second, .val (.int p2), .val (.int p3), .val (.long f), .second, .unset, .unset, .unset, .unset, .unset, .unset, .unset, .unset, .unset, .unset, .unset, .unset, .unset] [(.int p2), (.int (1 : Int32))])) rfl (hb hby at_14) _ ?_
    show Steps p.tables e below (s₁.setTop (mkF m 16 #[.val (.long q1), .second, .val (.int p2), .val (.int p3), .val (.long f), .second, .unset, .unset, .unset, .unset, .unset, .unset, .unset, .unset, .unset, .unset, .unset, .unset, .unset] [(.int (2147483647 : Int32)), (.int p2), (.int (1 : Int32))])) t
    refine XS.iand X0.here hx rfl (hb hby at_16) rfl ?_
    exact kt
  obtain ⟨_, _, ⟨T_1, L_1, k_1, n_1⟩, -, X_1, ⟨Lc_1, hQ_1, l_1, y_1, z_1⟩, st_1⟩ := Jvm.LawKit.callS X0 hx (y := (⟨"java/lang/Math", "max", "(II)I"⟩ : MethodName)) hown (mvT hZ (hw _ (List.mem_of_getElem? (i := 2) rfl))) (mvT hZ (hw _ (List.mem_of_getElem? (i := 3) rfl))) (mvT hZ (hw _ (List.mem_of_getElem? (i := 4) rfl))) (mvT hZ (hw _ (List.mem_of_getElem? (i := 5) rfl))) (by decide) (backOf (W := 0) (rmax l Z a0 hw [] ((1 : Int32)) ((p2 &&& (2147483647 : Int32)))  h0 n0 Z0 ) hZ (hw _ (List.mem_of_getElem? (i := 5) rfl)) (hw _ (List.mem_of_getElem? (i := 4) rfl)) (by decide) (by decide)) (g := (mkF m 17 #[.val (.long q1), .second, .val (.int p2), .val (.int p3), .val (.long f), .second, .unset, .unset, .unset, .unset, .unset, .unset, .unset, .unset, .unset, .unset, .unset, .unset, .unset] [(.int (p2 &&& (2147483647 : Int32))), (.int (1 : Int32))])) rfl (by rw [hml]; rfl) (argsL := [(.int (1 : Int32)), (.int (p2 &&& (2147483647 : Int32)))]) (rest := []) (lenOf pd_0 rfl) rfl (by show 2 * 0 + _ ≤ _; exact Nat.le_of_eq rfl) (hb hby at_17) (fun _ _ => ⟨rfl, e0, (by decide : 0 + 0 ≤ _), (by decide : 0 + 0 ≤ _)⟩)
  dsimp only [Pt.U, Pt.locs, Pt.cells, Pt.slots] at X_1 l_1 y_1 z_1 st_1 hQ_1
  subst l_1 y_1 z_1
  obtain ⟨rfl, N_1q, e_1⟩ := hQ_1
  have N_1 := Fr.app N0 N_1q
  refine own_go (g' := (mkF m 20 #[.val (.long q1), .second, .val (.int p2), .val (.int p3), .val (.long f), .second, .unset, .unset, .unset, .unset, .unset, .unset, .unset, .unset, .unset, .unset, .unset, .unset, .unset] [(.int (own_max (1 : Int32) (p2 &&& (2147483647 : Int32))))])) st_1 ?_
  have hr := own_r p2
  generalize hR : own_max (1 : Int32) (p2 &&& (2147483647 : Int32)) = r at hr ⊢
  refine own_go (T' := T_1) (g' := (mkF m 41 #[.val (.long q1), .second, .val (.int p2), .val (.int p3), .val (.long f), .second, .val (.int r), .val (.long (1000000000 : Int64)), .second, .val (.long (f / (r.toInt64))), .second, .unset, .unset, .unset, .unset, .unset, .unset, .unset, .unset] [(.int (lcmpW (f / (r.toInt64)) (9223372035 : Int64)))])) (fun t kt => ?_) ?_
  · show Steps p.tables e below (T_1.setTop (mkF m 20 #[.val (.long q1), .second, .val (.int p2), .val (.int p3), .val (.long f), .second, .unset, .unset, .unset, .unset, .unset, .unset, .unset, .unset, .unset, .unset, .unset, .unset, .unset] [(.int r)])) t
    refine XS.istore X_1.here hx rfl (hb hby at_20) rfl (l' := #[.val (.long q1), .second, .val (.int p2), .val (.int p3), .val (.long f), .second, .val (.int r), .unset, .unset, .unset, .unset, .unset, .unset, .unset, .unset, .unset, .unset, .unset, .unset]) rfl ?_
    show Steps p.tables e below (T_1.setTop (mkF m 22 #[.val (.long q1), .second, .val (.int p2), .val (.int p3), .val (.long f), .second, .val (.int r), .unset, .unset, .unset, .unset, .unset, .unset, .unset, .unset, .unset, .unset, .unset, .unset] [])) t
    refine X_1.ldc2Long hx hown (mvT hZ (hw _ (List.mem_of_getElem? (i := 6) rfl))) (g := (mkF m 22 #[.val (.long q1), .second, .val (.int p2), .val (.int p3), .val (.long f), .second, .val (.int r), .unset, .unset, .unset, .unset, .unset, .unset, .unset, .unset, .unset, .unset, .unset, .unset] [])) rfl (hb hby at_22) _ ?_
    show Steps p.tables e below (T_1.setTop (mkF m 25 #[.val (.long q1), .second, .val (.int p2), .val (.int p3), .val (.long f), .second, .val (.int r), .unset, .unset, .unset, .unset, .unset, .unset, .unset, .unset, .unset, .unset, .unset, .unset] [(.long (1000000000 : Int64))])) t
    refine XS.lstore X_1.here hx rfl (hb hby at_25) rfl (l' := #[.val (.long q1), .second, .val (.int p2), .val (.int p3), .val (.long f), .second, .val (.int r), .val (.long (1000000000 : Int64)), .second, .unset, .unset, .unset, .unset, .unset, .unset, .unset, .unset, .unset, .unset]) rfl ?_
    show Steps p.tables e below (T_1.setTop (mkF m 27 #[.val (.long q1), .second, .val (.int p2), .val (.int p3), .val (.long f), .second, .val (.int r), .val (.long (1000000000 : Int64)), .second, .unset, .unset, .unset, .unset, .unset, .unset, .unset, .unset, .unset, .unset] [])) t
    refine XS.lload X_1.here hx rfl (hb hby at_27) rfl ?_
    show Steps p.tables e below (T_1.setTop (mkF m 29 #[.val (.long q1), .second, .val (.int p2), .val (.int p3), .val (.long f), .second, .val (.int r), .val (.long (1000000000 : Int64)), .second, .unset, .unset, .unset, .unset, .unset, .unset, .unset, .unset, .unset, .unset] [(.long f)])) t
    refine XS.iload X_1.here hx rfl (hb hby at_29) rfl ?_
    show Steps p.tables e below (T_1.setTop (mkF m 31 #[.val (.long q1), .second, .val (.int p2), .val (.int p3), .val (.long f), .second, .val (.int r), .val (.long (1000000000 : Int64)), .second, .unset, .unset, .unset, .unset, .unset, .unset, .unset, .unset, .unset, .unset] [(.int r), (.long f)])) t
    refine XS.i2l X_1.here hx rfl (hb hby at_31) rfl ?_
    show Steps p.tables e below (T_1.setTop (mkF m 32 #[.val (.long q1), .second, .val (.int p2), .val (.int p3), .val (.long f), .second, .val (.int r), .val (.long (1000000000 : Int64)), .second, .unset, .unset, .unset, .unset, .unset, .unset, .unset, .unset, .unset, .unset] [(.long (r.toInt64)), (.long f)])) t
    refine XS.ldiv X_1.here hx rfl (hb hby at_32) rfl (own_nz r hr) ?_
    show Steps p.tables e below (T_1.setTop (mkF m 33 #[.val (.long q1), .second, .val (.int p2), .val (.int p3), .val (.long f), .second, .val (.int r), .val (.long (1000000000 : Int64)), .second, .unset, .unset, .unset, .unset, .unset, .unset, .unset, .unset, .unset, .unset] [(.long (f / (r.toInt64)))])) t
    refine XS.lstore X_1.here hx rfl (hb hby at_33) rfl (l' := #[.val (.long q1), .second, .val (.int p2), .val (.int p3), .val (.long f), .second, .val (.int r), .val (.long (1000000000 : Int64)), .second, .val (.long (f / (r.toInt64))), .second, .unset, .unset, .unset, .unset, .unset, .unset, .unset, .unset]) rfl ?_
    show Steps p.tables e below (T_1.setTop (mkF m 35 #[.val (.long q1), .second, .val (.int p2), .val (.int p3), .val (.long f), .second, .val (.int r), .val (.long (1000000000 : Int64)), .second, .val (.long (f / (r.toInt64))), .second, .unset, .unset, .unset, .unset, .unset, .unset, .unset, .unset] [])) t
    refine XS.lload X_1.here hx rfl (hb hby at_35) rfl ?_
    show Steps p.tables e below (T_1.setTop (mkF m 37 #[.val (.long q1), .second, .val (.int p2), .val (.int p3), .val (.long f), .second, .val (.int r), .val (.long (1000000000 : Int64)), .second, .val (.long (f / (r.toInt64))), .second, .unset, .unset, .unset, .unset, .unset, .unset, .unset, .unset] [(.long (f / (r.toInt64)))])) t
    refine X_1.ldc2Long hx hown (mvT hZ (hw _ (List.mem_of_getElem? (i := 7) rfl))) (g := (mkF m 37 #[.val (.long q1), .second, .val (.int p2), .val (.int p3), .val (.long f), .second, .val (.int r), .val (.long (1000000000 : Int64)), .second, .val (.long (f / (r.toInt64))), .second, .unset, .unset, .unset, .unset, .unset, .unset, .unset, .unset] [(.long (f / (r.toInt64)))])) rfl (hb hby at_37) _ ?_
    show Steps p.tables e below (T_1.setTop (mkF m 40 #[.val (.long q1), .second, .val (.int p2), .val (.int p3), .val (.long f), .second, .val (.int r), .val (.long (1000000000 : Int64)), .second, .val (.long (f / (r.toInt64))), .second, .unset, .unset, .unset, .unset, .unset, .unset, .unset, .unset] [(.long (9223372035 : Int64)), (.long (f / (r.toInt64)))])) t
    refine XS.lcmp X_1.here hx rfl (hb hby at_40) rfl ?_
    exact kt
  by_cases hc41 : (9223372035 : Int64) < (f / (r.toInt64))
  · refine own_go (T' := T_1) (g' := (mkF m 45 #[.val (.long q1), .second, .val (.int p2), .val (.int p3), .val (.long f), .second, .val (.int r), .val (.long (1000000000 : Int64)), .second, .val (.long (f / (r.toInt64))), .second, .unset, .unset, .unset, .unset, .unset, .unset, .unset, .unset] [(.int (1 : Int32))])) (fun t kt => ?_) ?_
    · show Steps p.tables e below (T_1.setTop (mkF m 41 #[.val (.long q1), .second, .val (.int p2), .val (.int p3), .val (.long f), .second, .val (.int r), .val (.long (1000000000 : Int64)), .second, .val (.long (f / (r.toInt64))), .second, .unset, .unset, .unset, .unset, .unset, .unset, .unset, .unset] [(.int (lcmpW (f / (r.toInt64)) (9223372035 : Int64)))])) t
      refine XS.ifNo X_1.here hx rfl (hb hby at_41) rfl ((if0 _ _).trans (tlt ((lw_gt _ _).mpr hc41)).2.2.2) ?_
      show Steps p.tables e below (T_1.setTop (mkF m 44 #[.val (.long q1), .second, .val (.int p2), .val (.int p3), .val (.long f), .second, .val (.int r), .val (.long (1000000000 : Int64)), .second, .val (.long (f / (r.toInt64))), .second, .unset, .unset, .unset, .unset, .unset, .unset, .unset, .unset] [])) t
      refine XS.iconst X_1.here hx rfl (hb hby at_44) ?_
      exact kt
    obtain ⟨fs, hr, hrun, hended, hW, hsame⟩ := X_1.leave (v := some (.int (1 : Int32))) (fun h => by rw [Bd.returns] at h; cases h)
    refine ⟨_, _, ?_, hrun, hended, _, _, rfl, ?_, ⟨_, rfl⟩, hW, hsame.mono (by decide) (by decide)⟩
    · exact retN X_1 hx (t := .boolean) Bd.returns (by simp) (hb hby at_45) hr
    · show Q_rm0 Z _ _ _ h0 n0 _ T_1.heap _
      rw [e_1]
      exact ⟨rfl, N_1⟩
  · refine own_go (T' := T_1) (g' := (mkF m 50 #[.val (.long q1), .second, .val (.int p2), .val (.int p3), .val (.long f), .second, .val (.int r), .val (.long (1000000000 : Int64)), .second, .val (.long (f / (r.toInt64))), .second, .unset, .unset, .unset, .unset, .unset, .unset, .unset, .unset] [(.int r), (.long f)])) (fun t kt => ?_) ?_
    · show Steps p.tables e below (T_1.setTop (mkF m 41 #[.val (.long q1), .second, .val (.int p2), .val (.int p3), .val (.long f), .second, .val (.int r), .val (.long (1000000000 : Int64)), .second, .val (.long (f / (r.toInt64))), .second, .unset, .unset, .unset, .unset, .unset, .unset, .unset, .unset] [(.int (lcmpW (f / (r.toInt64)) (9223372035 : Int64)))])) t
      refine XS.ifYes X_1.here hx rfl (pc0 := 41) (pc' := 46) rfl (hb hby at_41) rfl ((if0 _ _).trans (flt (fun q => hc41 ((lw_gt _ _).mp q))).2.2.2) (by decide) (by decide) ?_
      show Steps p.tables e below (T_1.setTop (mkF m 46 #[.val (.long q1), .second, .val (.int p2), .val (.int p3), .val (.long f), .second, .val (.int r), .val (.long (1000000000 : Int64)), .second, .val (.long (f / (r.toInt64))), .second, .unset, .unset, .unset, .unset, .unset, .unset, .unset, .unset] [])) t
      refine XS.lload X_1.here hx rfl (hb hby at_46) rfl ?_
      show Steps p.tables e below (T_1.setTop (mkF m 48 #[.val (.long q1), .second, .val (.int p2), .val (.int p3), .val (.long f), .second, .val (.int r), .val (.long (1000000000 : Int64)), .second, .val (.long (f / (r.toInt64))), .second, .unset, .unset, .unset, .unset, .unset, .unset, .unset, .unset] [(.long f)])) t
      refine XS.iload X_1.here hx rfl (hb hby at_48) rfl ?_
      exact kt
    obtain ⟨_, _, ⟨T_2, L_2, k_2, n_2⟩, -, X_2, ⟨Lc_2, hQ_2, l_2, y_2, z_2⟩, st_2⟩ := Jvm.LawKit.callS X_1 hx (y := (⟨"com/example/orrery/orrery/Station", "sendTime", "(JI)J"⟩ : MethodName)) hown (mvT hZ (hw _ (List.mem_of_getElem? (i := 8) rfl))) (mvT hZ (hw _ (List.mem_of_getElem? (i := 9) rfl))) (mvT hZ (hw _ (List.mem_of_getElem? (i := 10) rfl))) (mvT hZ (hw _ (List.mem_of_getElem? (i := 11) rfl))) (by decide) (backOf (W := 0) (rsend l Z a0 hw [] (f) (r)  h0 n0 Z0 S0 (own_nz r hr)) hZ (hw _ (List.mem_of_getElem? (i := 11) rfl)) (hw _ (List.mem_of_getElem? (i := 10) rfl)) (by decide) (by decide)) (g := (mkF m 50 #[.val (.long q1), .second, .val (.int p2), .val (.int p3), .val (.long f), .second, .val (.int r), .val (.long (1000000000 : Int64)), .second, .val (.long (f / (r.toInt64))), .second, .unset, .unset, .unset, .unset, .unset, .unset, .unset, .unset] [(.int r), (.long f)])) rfl (by rw [hml]; rfl) (argsL := [(.long f), (.int r)]) (rest := []) (lenOf pd_1 rfl) rfl (by show 2 * 0 + _ ≤ _; exact Nat.le_of_eq rfl) (hb hby at_50) (fun _ _ => ⟨rfl, e_1, (by decide : 0 + 0 ≤ _), (by decide : 0 + 0 ≤ _)⟩)
    dsimp only [Pt.U, Pt.locs, Pt.cells, Pt.slots] at X_2 l_2 y_2 z_2 st_2 hQ_2
    subst l_2 y_2 z_2
    obtain ⟨rfl, N_2q, e_2⟩ := hQ_2
    have N_2 := Fr.app N_1 N_2q
    refine own_go (g' := (mkF m 53 #[.val (.long q1), .second, .val (.int p2), .val (.int p3), .val (.long f), .second, .val (.int r), .val (.long (1000000000 : Int64)), .second, .val (.long (f / (r.toInt64))), .second, .unset, .unset, .unset, .unset, .unset, .unset, .unset, .unset] [(.long (own_send f r))])) st_2 ?_
    refine own_go (T' := T_2) (g' := (mkF m 122 #[.val (.long q1), .second, .val (.int p2), .val (.int p3), .val (.long f), .second, .val (.int r), .val (.long (1000000000 : Int64)), .second, .val (.long (f / (r.toInt64))), .second, .val (.long (own_send f r)), .second, .val (.long ((f / (r.toInt64)) * (1000000000 : Int64))), .second, .val (.long (((f / (r.toInt64)) * (1000000000 : Int64)) + (1000000000 : Int64))), .second, .val (.long (((own_send f r) * (r.toInt64)) - (f * (1000000000 : Int64)))), .second] [(.int (1 : Int32))])) (fun t kt => ?_) ?_
    · show Steps p.tables e below (T_2.setTop (mkF m 53 #[.val (.long q1), .second, .val (.int p2), .val (.int p3), .val (.long f), .second, .val (.int r), .val (.long (1000000000 : Int64)), .second, .val (.long (f / (r.toInt64))), .second, .unset, .unset, .unset, .unset, .unset, .unset, .unset, .unset] [(.long (own_send f r))])) t
      refine XS.lstore X_2.here hx rfl (hb hby at_53) rfl (l' := #[.val (.long q1), .second, .val (.int p2), .val (.int p3), .val (.long f), .second, .val (.int r), .val (.long (1000000000 : Int64)), .second, .val (.long (f / (r.toInt64))), .second, .val (.long (own_send f r)), .second, .unset, .unset, .unset, .unset, .unset, .unset]) rfl ?_
      show Steps p.tables e below (T_2.setTop (mkF m 55 #[.val (.long q1), .second, .val (.int p2), .val (.int p3), .val (.long f), .second, .val (.int r), .val (.long (1000000000 : Int64)), .second, .val (.long (f / (r.toInt64))), .second, .val (.long (own_send f r)), .second, .unset, .unset, .unset, .unset, .unset, .unset] [])) t
      refine XS.lload X_2.here hx rfl (hb hby at_55) rfl ?_
      show Steps p.tables e below (T_2.setTop (mkF m 57 #[.val (.long q1), .second, .val (.int p2), .val (.int p3), .val (.long f), .second, .val (.int r), .val (.long (1000000000 : Int64)), .second, .val (.long (f / (r.toInt64))), .second, .val (.long (own_send f r)), .second, .unset, .unset, .unset, .unset, .unset, .unset] [(.long (f / (r.toInt64)))])) t
      refine XS.lload X_2.here hx rfl (hb hby at_57) rfl ?_
      show Steps p.tables e below (T_2.setTop (mkF m 59 #[.val (.long q1), .second, .val (.int p2), .val (.int p3), .val (.long f), .second, .val (.int r), .val (.long (1000000000 : Int64)), .second, .val (.long (f / (r.toInt64))), .second, .val (.long (own_send f r)), .second, .unset, .unset, .unset, .unset, .unset, .unset] [(.long (1000000000 : Int64)), (.long (f / (r.toInt64)))])) t
      refine XS.lmul X_2.here hx rfl (hb hby at_59) rfl ?_
      show Steps p.tables e below (T_2.setTop (mkF m 60 #[.val (.long q1), .second, .val (.int p2), .val (.int p3), .val (.long f), .second, .val (.int r), .val (.long (1000000000 : Int64)), .second, .val (.long (f / (r.toInt64))), .second, .val (.long (own_send f r)), .second, .unset, .unset, .unset, .unset, .unset, .unset] [(.long ((f / (r.toInt64)) * (1000000000 : Int64)))])) t
      refine XS.lstore X_2.here hx rfl (hb hby at_60) rfl (l' := #[.val (.long q1), .second, .val (.int p2), .val (.int p3), .val (.long f), .second, .val (.int r), .val (.long (1000000000 : Int64)), .second, .val (.long (f / (r.toInt64))), .second, .val (.long (own_send f r)), .second, .val (.long ((f / (r.toInt64)) * (1000000000 : Int64))), .second, .unset, .unset, .unset, .unset]) rfl ?_
      show Steps p.tables e below (T_2.setTop (mkF m 62 #[.val (.long q1), .second, .val (.int p2), .val (.int p3), .val (.long f), .second, .val (.int r), .val (.long (1000000000 : Int64)), .second, .val (.long (f / (r.toInt64))), .second, .val (.long (own_send f r)), .second, .val (.long ((f / (r.toInt64)) * (1000000000 : Int64))), .second, .unset, .unset, .unset, .unset] [])) t
      refine XS.lload X_2.here hx rfl (hb hby at_62) rfl ?_
      show Steps p.tables e below (T_2.setTop (mkF m 64 #[.val (.long q1), .second, .val (.int p2), .val (.int p3), .val (.long f), .second, .val (.int r), .val (.long (1000000000 : Int64)), .second, .val (.long (f / (r.toInt64))), .second, .val (.long (own_send f r)), .second, .val (.long ((f / (r.toInt64)) * (1000000000 : Int64))), .second, .unset, .unset, .unset, .unset] [(.long ((f / (r.toInt64)) * (1000000000 : Int64)))])) t
      refine XS.lload X_2.here hx rfl (hb hby at_64) rfl ?_
      show Steps p.tables e below (T_2.setTop (mkF m 66 #[.val (.long q1), .second, .val (.int p2), .val (.int p3), .val (.long f), .second, .val (.int r), .val (.long (1000000000 : Int64)), .second, .val (.long (f / (r.toInt64))), .second, .val (.long (own_send f r)), .second, .val (.long ((f / (r.toInt64)) * (1000000000 : Int64))), .second, .unset, .unset, .unset, .unset] [(.long (1000000000 : Int64)), (.long ((f / (r.toInt64)) * (1000000000 : Int64)))])) t
      refine XS.ladd X_2.here hx rfl (hb hby at_66) rfl ?_
      show Steps p.tables e below (T_2.setTop (mkF m 67 #[.val (.long q1), .second, .val (.int p2), .val (.int p3), .val (.long f), .second, .val (.int r), .val (.long (1000000000 : Int64)), .second, .val (.long (f / (r.toInt64))), .second, .val (.long (own_send f r)), .second, .val (.long ((f / (r.toInt64)) * (1000000000 : Int64))), .second, .unset, .unset, .unset, .unset] [(.long (((f / (r.toInt64)) * (1000000000 : Int64)) + (1000000000 : Int64)))])) t
      refine XS.lstore X_2.here hx rfl (hb hby at_67) rfl (l' := #[.val (.long q1), .second, .val (.int p2), .val (.int p3), .val (.long f), .second, .val (.int r), .val (.long (1000000000 : Int64)), .second, .val (.long (f / (r.toInt64))), .second, .val (.long (own_send f r)), .second, .val (.long ((f / (r.toInt64)) * (1000000000 : Int64))), .second, .val (.long (((f / (r.toInt64)) * (1000000000 : Int64)) + (1000000000 : Int64))), .second, .unset, .unset]) rfl ?_
      show Steps p.tables e below (T_2.setTop (mkF m 69 #[.val (.long q1), .second, .val (.int p2), .val (.int p3), .val (.long f), .second, .val (.int r), .val (.long (1000000000 : Int64)), .second, .val (.long (f / (r.toInt64))), .second, .val (.long (own_send f r)), .second, .val (.long ((f / (r.toInt64)) * (1000000000 : Int64))), .second, .val (.long (((f / (r.toInt64)) * (1000000000 : Int64)) + (1000000000 : Int64))), .second, .unset, .unset] [])) t
      refine XS.lload X_2.here hx rfl (hb hby at_69) rfl ?_
      show Steps p.tables e below (T_2.setTop (mkF m 71 #[.val (.long q1), .second, .val (.int p2), .val (.int p3), .val (.long f), .second, .val (.int r), .val (.long (1000000000 : Int64)), .second, .val (.long (f / (r.toInt64))), .second, .val (.long (own_send f r)), .second, .val (.long ((f / (r.toInt64)) * (1000000000 : Int64))), .second, .val (.long (((f / (r.toInt64)) * (1000000000 : Int64)) + (1000000000 : Int64))), .second, .unset, .unset] [(.long (own_send f r))])) t
      refine XS.lload X_2.here hx rfl (hb hby at_71) rfl ?_
      show Steps p.tables e below (T_2.setTop (mkF m 73 #[.val (.long q1), .second, .val (.int p2), .val (.int p3), .val (.long f), .second, .val (.int r), .val (.long (1000000000 : Int64)), .second, .val (.long (f / (r.toInt64))), .second, .val (.long (own_send f r)), .second, .val (.long ((f / (r.toInt64)) * (1000000000 : Int64))), .second, .val (.long (((f / (r.toInt64)) * (1000000000 : Int64)) + (1000000000 : Int64))), .second, .unset, .unset] [(.long ((f / (r.toInt64)) * (1000000000 : Int64))), (.long (own_send f r))])) t
      refine XS.lcmp X_2.here hx rfl (hb hby at_73) rfl ?_
      show Steps p.tables e below (T_2.setTop (mkF m 74 #[.val (.long q1), .second, .val (.int p2), .val (.int p3), .val (.long f), .second, .val (.int r), .val (.long (1000000000 : Int64)), .second, .val (.long (f / (r.toInt64))), .second, .val (.long (own_send f r)), .second, .val (.long ((f / (r.toInt64)) * (1000000000 : Int64))), .second, .val (.long (((f / (r.toInt64)) * (1000000000 : Int64)) + (1000000000 : Int64))), .second, .unset, .unset] [(.int (lcmpW (own_send f r) ((f / (r.toInt64)) * (1000000000 : Int64))))])) t
      refine XS.ifNo X_2.here hx rfl (hb hby at_74) rfl ((if0 _ _).trans (flt (fun q => ((own_spec f r hf hr hc41).1 : ¬ ((own_send f r) < ((f / (r.toInt64)) * (1000000000 : Int64)))) ((lw_lt _ _).mp q))).1) ?_
      show Steps p.tables e below (T_2.setTop (mkF m 77 #[.val (.long q1), .second, .val (.int p2), .val (.int p3), .val (.long f), .second, .val (.int r), .val (.long (1000000000 : Int64)), .second, .val (.long (f / (r.toInt64))), .second, .val (.long (own_send f r)), .second, .val (.long ((f / (r.toInt64)) * (1000000000 : Int64))), .second, .val (.long (((f / (r.toInt64)) * (1000000000 : Int64)) + (1000000000 : Int64))), .second, .unset, .unset] [])) t
      refine XS.lload X_2.here hx rfl (hb hby at_77) rfl ?_
      show Steps p.tables e below (T_2.setTop (mkF m 79 #[.val (.long q1), .second, .val (.int p2), .val (.int p3), .val (.long f), .second, .val (.int r), .val (.long (1000000000 : Int64)), .second, .val (.long (f / (r.toInt64))), .second, .val (.long (own_send f r)), .second, .val (.long ((f / (r.toInt64)) * (1000000000 : Int64))), .second, .val (.long (((f / (r.toInt64)) * (1000000000 : Int64)) + (1000000000 : Int64))), .second, .unset, .unset] [(.long (own_send f r))])) t
      refine XS.lload X_2.here hx rfl (hb hby at_79) rfl ?_
      show Steps p.tables e below (T_2.setTop (mkF m 81 #[.val (.long q1), .second, .val (.int p2), .val (.int p3), .val (.long f), .second, .val (.int r), .val (.long (1000000000 : Int64)), .second, .val (.long (f / (r.toInt64))), .second, .val (.long (own_send f r)), .second, .val (.long ((f / (r.toInt64)) * (1000000000 : Int64))), .second, .val (.long (((f / (r.toInt64)) * (1000000000 : Int64)) + (1000000000 : Int64))), .second, .unset, .unset] [(.long (((f / (r.toInt64)) * (1000000000 : Int64)) + (1000000000 : Int64))), (.long (own_send f r))])) t
      refine XS.lcmp X_2.here hx rfl (hb hby at_81) rfl ?_
      show Steps p.tables e below (T_2.setTop (mkF m 82 #[.val (.long q1), .second, .val (.int p2), .val (.int p3), .val (.long f), .second, .val (.int r), .val (.long (1000000000 : Int64)), .second, .val (.long (f / (r.toInt64))), .second, .val (.long (own_send f r)), .second, .val (.long ((f / (r.toInt64)) * (1000000000 : Int64))), .second, .val (.long (((f / (r.toInt64)) * (1000000000 : Int64)) + (1000000000 : Int64))), .second, .unset, .unset] [(.int (lcmpW (own_send f r) (((f / (r.toInt64)) * (1000000000 : Int64)) + (1000000000 : Int64))))])) t
      refine XS.ifYes X_2.here hx rfl (pc0 := 82) (pc' := 87) rfl (hb hby at_82) rfl ((if0 _ _).trans (flt (fun q => ((own_spec f r hf hr hc41).2.1 : ¬ ((((f / (r.toInt64)) * (1000000000 : Int64)) + (1000000000 : Int64)) < (own_send f r))) ((lw_gt _ _).mp q))).2.2.2) (by decide) (by decide) ?_
      show Steps p.tables e below (T_2.setTop (mkF m 87 #[.val (.long q1), .second, .val (.int p2), .val (.int p3), .val (.long f), .second, .val (.int r), .val (.long (1000000000 : Int64)), .second, .val (.long (f / (r.toInt64))), .second, .val (.long (own_send f r)), .second, .val (.long ((f / (r.toInt64)) * (1000000000 : Int64))), .second, .val (.long (((f / (r.toInt64)) * (1000000000 : Int64)) + (1000000000 : Int64))), .second, .unset, .unset] [])) t
      refine XS.lload X_2.here hx rfl (hb hby at_87) rfl ?_
      show Steps p.tables e below (T_2.setTop (mkF m 89 #[.val (.long q1), .second, .val (.int p2), .val (.int p3), .val (.long f), .second, .val (.int r), .val (.long (1000000000 : Int64)), .second, .val (.long (f / (r.toInt64))), .second, .val (.long (own_send f r)), .second, .val (.long ((f / (r.toInt64)) * (1000000000 : Int64))), .second, .val (.long (((f / (r.toInt64)) * (1000000000 : Int64)) + (1000000000 : Int64))), .second, .unset, .unset] [(.long (own_send f r))])) t
      refine XS.iload X_2.here hx rfl (hb hby at_89) rfl ?_
      show Steps p.tables e below (T_2.setTop (mkF m 91 #[.val (.long q1), .second, .val (.int p2), .val (.int p3), .val (.long f), .second, .val (.int r), .val (.long (1000000000 : Int64)), .second, .val (.long (f / (r.toInt64))), .second, .val (.long (own_send f r)), .second, .val (.long ((f / (r.toInt64)) * (1000000000 : Int64))), .second, .val (.long (((f / (r.toInt64)) * (1000000000 : Int64)) + (1000000000 : Int64))), .second, .unset, .unset] [(.int r), (.long (own_send f r))])) t
      refine XS.i2l X_2.here hx rfl (hb hby at_91) rfl ?_
      show Steps p.tables e below (T_2.setTop (mkF m 92 #[.val (.long q1), .second, .val (.int p2), .val (.int p3), .val (.long f), .second, .val (.int r), .val (.long (1000000000 : Int64)), .second, .val (.long (f / (r.toInt64))), .second, .val (.long (own_send f r)), .second, .val (.long ((f / (r.toInt64)) * (1000000000 : Int64))), .second, .val (.long (((f / (r.toInt64)) * (1000000000 : Int64)) + (1000000000 : Int64))), .second, .unset, .unset] [(.long (r.toInt64)), (.long (own_send f r))])) t
      refine XS.lmul X_2.here hx rfl (hb hby at_92) rfl ?_
      show Steps p.tables e below (T_2.setTop (mkF m 93 #[.val (.long q1), .second, .val (.int p2), .val (.int p3), .val (.long f), .second, .val (.int r), .val (.long (1000000000 : Int64)), .second, .val (.long (f / (r.toInt64))), .second, .val (.long (own_send f r)), .second, .val (.long ((f / (r.toInt64)) * (1000000000 : Int64))), .second, .val (.long (((f / (r.toInt64)) * (1000000000 : Int64)) + (1000000000 : Int64))), .second, .unset, .unset] [(.long ((own_send f r) * (r.toInt64)))])) t
      refine XS.lload X_2.here hx rfl (hb hby at_93) rfl ?_
      show Steps p.tables e below (T_2.setTop (mkF m 95 #[.val (.long q1), .second, .val (.int p2), .val (.int p3), .val (.long f), .second, .val (.int r), .val (.long (1000000000 : Int64)), .second, .val (.long (f / (r.toInt64))), .second, .val (.long (own_send f r)), .second, .val (.long ((f / (r.toInt64)) * (1000000000 : Int64))), .second, .val (.long (((f / (r.toInt64)) * (1000000000 : Int64)) + (1000000000 : Int64))), .second, .unset, .unset] [(.long f), (.long ((own_send f r) * (r.toInt64)))])) t
      refine XS.lload X_2.here hx rfl (hb hby at_95) rfl ?_
      show Steps p.tables e below (T_2.setTop (mkF m 97 #[.val (.long q1), .second, .val (.int p2), .val (.int p3), .val (.long f), .second, .val (.int r), .val (.long (1000000000 : Int64)), .second, .val (.long (f / (r.toInt64))), .second, .val (.long (own_send f r)), .second, .val (.long ((f / (r.toInt64)) * (1000000000 : Int64))), .second, .val (.long (((f / (r.toInt64)) * (1000000000 : Int64)) + (1000000000 : Int64))), .second, .unset, .unset] [(.long (1000000000 : Int64)), (.long f), (.long ((own_send f r) * (r.toInt64)))])) t
      refine XS.lmul X_2.here hx rfl (hb hby at_97) rfl ?_
      show Steps p.tables e below (T_2.setTop (mkF m 98 #[.val (.long q1), .second, .val (.int p2), .val (.int p3), .val (.long f), .second, .val (.int r), .val (.long (1000000000 : Int64)), .second, .val (.long (f / (r.toInt64))), .second, .val (.long (own_send f r)), .second, .val (.long ((f / (r.toInt64)) * (1000000000 : Int64))), .second, .val (.long (((f / (r.toInt64)) * (1000000000 : Int64)) + (1000000000 : Int64))), .second, .unset, .unset] [(.long (f * (1000000000 : Int64))), (.long ((own_send f r) * (r.toInt64)))])) t
      refine XS.lsub X_2.here hx rfl (hb hby at_98) rfl ?_
      show Steps p.tables e below (T_2.setTop (mkF m 99 #[.val (.long q1), .second, .val (.int p2), .val (.int p3), .val (.long f), .second, .val (.int r), .val (.long (1000000000 : Int64)), .second, .val (.long (f / (r.toInt64))), .second, .val (.long (own_send f r)), .second, .val (.long ((f / (r.toInt64)) * (1000000000 : Int64))), .second, .val (.long (((f / (r.toInt64)) * (1000000000 : Int64)) + (1000000000 : Int64))), .second, .unset, .unset] [(.long (((own_send f r) * (r.toInt64)) - (f * (1000000000 : Int64))))])) t
      refine XS.lstore X_2.here hx rfl (hb hby at_99) rfl (l' := #[.val (.long q1), .second, .val (.int p2), .val (.int p3), .val (.long f), .second, .val (.int r), .val (.long (1000000000 : Int64)), .second, .val (.long (f / (r.toInt64))), .second, .val (.long (own_send f r)), .second, .val (.long ((f / (r.toInt64)) * (1000000000 : Int64))), .second, .val (.long (((f / (r.toInt64)) * (1000000000 : Int64)) + (1000000000 : Int64))), .second, .val (.long (((own_send f r) * (r.toInt64)) - (f * (1000000000 : Int64)))), .second]) rfl ?_
      show Steps p.tables e below (T_2.setTop (mkF m 101 #[.val (.long q1), .second, .val (.int p2), .val (.int p3), .val (.long f), .second, .val (.int r), .val (.long (1000000000 : Int64)), .second, .val (.long (f / (r.toInt64))), .second, .val (.long (own_send f r)), .second, .val (.long ((f / (r.toInt64)) * (1000000000 : Int64))), .second, .val (.long (((f / (r.toInt64)) * (1000000000 : Int64)) + (1000000000 : Int64))), .second, .val (.long (((own_send f r) * (r.toInt64)) - (f * (1000000000 : Int64)))), .second] [])) t
      refine XS.lload X_2.here hx rfl (hb hby at_101) rfl ?_
      show Steps p.tables e below (T_2.setTop (mkF m 103 #[.val (.long q1), .second, .val (.int p2), .val (.int p3), .val (.long f), .second, .val (.int r), .val (.long (1000000000 : Int64)), .second, .val (.long (f / (r.toInt64))), .second, .val (.long (own_send f r)), .second, .val (.long ((f / (r.toInt64)) * (1000000000 : Int64))), .second, .val (.long (((f / (r.toInt64)) * (1000000000 : Int64)) + (1000000000 : Int64))), .second, .val (.long (((own_send f r) * (r.toInt64)) - (f * (1000000000 : Int64)))), .second] [(.long (((own_send f r) * (r.toInt64)) - (f * (1000000000 : Int64))))])) t
      refine XS.lconst X_2.here hx rfl (hb hby at_103) ?_
      show Steps p.tables e below (T_2.setTop (mkF m 104 #[.val (.long q1), .second, .val (.int p2), .val (.int p3), .val (.long f), .second, .val (.int r), .val (.long (1000000000 : Int64)), .second, .val (.long (f / (r.toInt64))), .second, .val (.long (own_send f r)), .second, .val (.long ((f / (r.toInt64)) * (1000000000 : Int64))), .second, .val (.long (((f / (r.toInt64)) * (1000000000 : Int64)) + (1000000000 : Int64))), .second, .val (.long (((own_send f r) * (r.toInt64)) - (f * (1000000000 : Int64)))), .second] [(.long (0 : Int64)), (.long (((own_send f r) * (r.toInt64)) - (f * (1000000000 : Int64))))])) t
      refine XS.lcmp X_2.here hx rfl (hb hby at_104) rfl ?_
      show Steps p.tables e below (T_2.setTop (mkF m 105 #[.val (.long q1), .second, .val (.int p2), .val (.int p3), .val (.long f), .second, .val (.int r), .val (.long (1000000000 : Int64)), .second, .val (.long (f / (r.toInt64))), .second, .val (.long (own_send f r)), .second, .val (.long ((f / (r.toInt64)) * (1000000000 : Int64))), .second, .val (.long (((f / (r.toInt64)) * (1000000000 : Int64)) + (1000000000 : Int64))), .second, .val (.long (((own_send f r) * (r.toInt64)) - (f * (1000000000 : Int64)))), .second] [(.int (lcmpW (((own_send f r) * (r.toInt64)) - (f * (1000000000 : Int64))) (0 : Int64)))])) t
      refine XS.ifNo X_2.here hx rfl (hb hby at_105) rfl ((if0 _ _).trans (flt (fun q => ((own_spec f r hf hr hc41).2.2.1 : ¬ ((((own_send f r) * (r.toInt64)) - (f * (1000000000 : Int64))) < (0 : Int64))) ((lw_lt _ _).mp q))).1) ?_
      show Steps p.tables e below (T_2.setTop (mkF m 108 #[.val (.long q1), .second, .val (.int p2), .val (.int p3), .val (.long f), .second, .val (.int r), .val (.long (1000000000 : Int64)), .second, .val (.long (f / (r.toInt64))), .second, .val (.long (own_send f r)), .second, .val (.long ((f / (r.toInt64)) * (1000000000 : Int64))), .second, .val (.long (((f / (r.toInt64)) * (1000000000 : Int64)) + (1000000000 : Int64))), .second, .val (.long (((own_send f r) * (r.toInt64)) - (f * (1000000000 : Int64)))), .second] [])) t
      refine XS.lload X_2.here hx rfl (hb hby at_108) rfl ?_
      show Steps p.tables e below (T_2.setTop (mkF m 110 #[.val (.long q1), .second, .val (.int p2), .val (.int p3), .val (.long f), .second, .val (.int r), .val (.long (1000000000 : Int64)), .second, .val (.long (f / (r.toInt64))), .second, .val (.long (own_send f r)), .second, .val (.long ((f / (r.toInt64)) * (1000000000 : Int64))), .second, .val (.long (((f / (r.toInt64)) * (1000000000 : Int64)) + (1000000000 : Int64))), .second, .val (.long (((own_send f r) * (r.toInt64)) - (f * (1000000000 : Int64)))), .second] [(.long (((own_send f r) * (r.toInt64)) - (f * (1000000000 : Int64))))])) t
      refine XS.iload X_2.here hx rfl (hb hby at_110) rfl ?_
      show Steps p.tables e below (T_2.setTop (mkF m 112 #[.val (.long q1), .second, .val (.int p2), .val (.int p3), .val (.long f), .second, .val (.int r), .val (.long (1000000000 : Int64)), .second, .val (.long (f / (r.toInt64))), .second, .val (.long (own_send f r)), .second, .val (.long ((f / (r.toInt64)) * (1000000000 : Int64))), .second, .val (.long (((f / (r.toInt64)) * (1000000000 : Int64)) + (1000000000 : Int64))), .second, .val (.long (((own_send f r) * (r.toInt64)) - (f * (1000000000 : Int64)))), .second] [(.int r), (.long (((own_send f r) * (r.toInt64)) - (f * (1000000000 : Int64))))])) t
      refine XS.i2l X_2.here hx rfl (hb hby at_112) rfl ?_
      show Steps p.tables e below (T_2.setTop (mkF m 113 #[.val (.long q1), .second, .val (.int p2), .val (.int p3), .val (.long f), .second, .val (.int r), .val (.long (1000000000 : Int64)), .second, .val (.long (f / (r.toInt64))), .second, .val (.long (own_send f r)), .second, .val (.long ((f / (r.toInt64)) * (1000000000 : Int64))), .second, .val (.long (((f / (r.toInt64)) * (1000000000 : Int64)) + (1000000000 : Int64))), .second, .val (.long (((own_send f r) * (r.toInt64)) - (f * (1000000000 : Int64)))), .second] [(.long (r.toInt64)), (.long (((own_send f r) * (r.toInt64)) - (f * (1000000000 : Int64))))])) t
      refine XS.lcmp X_2.here hx rfl (hb hby at_113) rfl ?_
      show Steps p.tables e below (T_2.setTop (mkF m 114 #[.val (.long q1), .second, .val (.int p2), .val (.int p3), .val (.long f), .second, .val (.int r), .val (.long (1000000000 : Int64)), .second, .val (.long (f / (r.toInt64))), .second, .val (.long (own_send f r)), .second, .val (.long ((f / (r.toInt64)) * (1000000000 : Int64))), .second, .val (.long (((f / (r.toInt64)) * (1000000000 : Int64)) + (1000000000 : Int64))), .second, .val (.long (((own_send f r) * (r.toInt64)) - (f * (1000000000 : Int64)))), .second] [(.int (lcmpW (((own_send f r) * (r.toInt64)) - (f * (1000000000 : Int64))) (r.toInt64)))])) t
      refine XS.ifNo X_2.here hx rfl (hb hby at_114) rfl ((if0 _ _).trans (tlt ((lw_lt _ _).mpr ((own_spec f r hf hr hc41).2.2.2 : (((own_send f r) * (r.toInt64)) - (f * (1000000000 : Int64))) < (r.toInt64)))).2.1) ?_
      show Steps p.tables e below (T_2.setTop (mkF m 117 #[.val (.long q1), .second, .val (.int p2), .val (.int p3), .val (.long f), .second, .val (.int r), .val (.long (1000000000 : Int64)), .second, .val (.long (f / (r.toInt64))), .second, .val (.long (own_send f r)), .second, .val (.long ((f / (r.toInt64)) * (1000000000 : Int64))), .second, .val (.long (((f / (r.toInt64)) * (1000000000 : Int64)) + (1000000000 : Int64))), .second, .val (.long (((own_send f r) * (r.toInt64)) - (f * (1000000000 : Int64)))), .second] [])) t
      refine XS.iconst X_2.here hx rfl (hb hby at_117) ?_
      show Steps p.tables e below (T_2.setTop (mkF m 118 #[.val (.long q1), .second, .val (.int p2), .val (.int p3), .val (.long f), .second, .val (.int r), .val (.long (1000000000 : Int64)), .second, .val (.long (f / (r.toInt64))), .second, .val (.long (own_send f r)), .second, .val (.long ((f / (r.toInt64)) * (1000000000 : Int64))), .second, .val (.long (((f / (r.toInt64)) * (1000000000 : Int64)) + (1000000000 : Int64))), .second, .val (.long (((own_send f r) * (r.toInt64)) - (f * (1000000000 : Int64)))), .second] [(.int (1 : Int32))])) t
      refine XS.goto X_2.here hx rfl (pc0 := 118) (pc' := 122) rfl (hb hby at_118) (by decide) (by decide) ?_
      exact kt
    obtain ⟨fs, hr, hrun, hended, hW, hsame⟩ := X_2.leave (v := some (.int (1 : Int32))) (fun h => by rw [Bd.returns] at h; cases h)
    refine ⟨_, _, ?_, hrun, hended, _, _, rfl, ?_, ⟨_, rfl⟩, hW, hsame.mono (by decide) (by decide)⟩
    · exact retN X_2 hx (t := .boolean) Bd.returns (by simp) (hb hby at_122) hr
    · show Q_rm0 Z _ _ _ h0 n0 _ T_2.heap _
      rw [e_2]
      exact ⟨rfl, N_2⟩
set_option maxRecDepth 65536 in
set_option maxHeartbeats 40000000 in
theorem comes_1 {Post : Tables → Env → Array Value → State → Outcome → State → Prop} (hpost : ∀ tb e args s v u, (limb_1_1.after args s (.returned v) u = true ∧ limb_1_2.after args s (.returned v) u = true ∧ True) → FrameEnd s (.returned v) u (Jvm.fieldLocs frame_1_writes args s ++ Jvm.arrayLocs frame_1_arrays args s ++ Jvm.staticLocs frame_1_statics s) 0 0 → Post tb e args s (.returned v) u) :
    ArmFor flags0 classFile x code maxLocals ret World_1 tables_1 room_1 Calls_1 rest_1 Pre_1 Post := by
  intro l hfl _ _ p e ha hc hk s m args below hf hA hF happ hP
  obtain ⟨hcalls, hrest, hpre⟩ := hP
  obtain ⟨-, -, -, hnamed, -, -, -, hat⟩ := (Spec.applies_iff hf).mp happ
  obtain ⟨hg, hn⟩ := and_e (Cond.before_iff.mp (show (Jvm.Cond.and given_1 narrow_1).before args s = true from hpre))
  obtain ⟨u0, v0⟩ := and_e hg
  obtain ⟨u1, v1⟩ := and_e v0
  obtain ⟨u2, v2⟩ := and_e v1
  obtain ⟨w0, w1, w2, rfl⟩ : ∃ w0 w1 w2 : Value, args = #[w0, w1, w2] := by
    have hs : args.size = 3 := by simpa [Cond.value, given_1] using u0
    obtain ⟨L⟩ := args
    match L, hs with
    | [w0, w1, w2], _ => exact ⟨w0, w1, w2, rfl⟩
  have hw := fun d (hd : d ∈ tables_1) => atoms_spec (ws := Jvm.Cond.code x code maxLocals ret :: tables_1) hat d (List.mem_cons_of_mem _ hd)
  obtain ⟨i0, ei0⟩ := isL_v u1
  obtain rfl : w0 = (.long i0) := Option.some.inj ei0
  obtain ⟨i1, ei1⟩ := is_v u2
  obtain rfl : w1 = (.int i1) := Option.some.inj ei1
  obtain ⟨i2, ei2⟩ := is_v v2
  obtain rfl : w2 = (.int i2) := Option.some.inj ei2
  have hS : Sta s s.heap "com/example/orrery/orrery/Station" "NANOS_PER_SECOND" "J" (.long (1000000000 : Int64)) := Sta.start (own_eqL hn) (Or.inr ⟨hw _ (List.mem_of_getElem? (i := 10) rfl), hw _ (List.mem_of_getElem? (i := 13) rfl)⟩)
  obtain ⟨n, o, h1, h2, h3, _, L, rfl, ⟨rfl, N⟩, hq⟩ := rm0 l s _ hw tables_1 i0 i1 i2  s.heap s.heap.size (Nat.le_refl _) hS p e ha hc hk s m _ below hf ((Spec.applies_iff_loose hf).mp happ).1 ⟨rfl, State.Warmed39.refl s, rfl⟩ trivial
  refine ⟨n, _, h1, h2, h3, hpost _ _ _ _ _ _ ⟨Cond.after_iff.mpr rfl, Cond.after_iff.mpr (eq_i res_at (Term.int_eval (1)) rfl), trivial⟩ ⟨hq.1, hq.2.1, (hq.2.2.sift fun y hy => Or.inr (N y hy)).mono (by decide) (by decide)⟩⟩
theorem main_1_1 : Claimed_1_1 := comes_1 fun _ _ _ _ _ _ h hF => ⟨h.1, hF⟩
theorem main_1_2 : Claimed_1_2 := comes_1 fun _ _ _ _ _ _ h hF => ⟨h.2.1, hF⟩
end Jvm.Pilot.@@N@@
namespace Jvm.Pilot.@@N@@
open Jvm Jvm.ClassFile Sem Op Lib Jvm.Free Jvm.Stand Jvm.Pilot.@@N@@.Jvm.D
/-! MADE BY PROGRAM (witnessworld.py) out of the Statement's table words and the real class files: 12 classes; the members and pool entries that the words name. The judged class is class 1, her method 1. -/
namespace start1
open Jvm.ClassFile
def u (s : String) : CpInfo := .utf8 (stringToUtf16 s)
/-- a pool by its gaps: so many unusable entries, then the entry; so many at the end -/
def gap : Nat → List CpInfo → List CpInfo
  | 0, r => r
  | n + 1, r => .unusable :: gap n r
def poolList (es : List (Nat × CpInfo)) (last : Nat) : List CpInfo := es.foldr (fun e r => gap e.1 (e.2 :: r)) (gap last [])
def pool (es : List (Nat × CpInfo)) (last : Nat) : Array CpInfo := ⟨poolList es last⟩
def fileOf (pool : Array CpInfo) (this : Nat) (attrs : Array Attribute := #[]) (ms : Array MethodInfo := #[]) (fl : Nat := 33) (sup : Nat := 0) (ifs : Array Nat := #[]) (fds : Array FieldInfo := #[]) : ClassFile where
  minorVersion := 0
  majorVersion := 65
  constantPool := pool
  accessFlags := fl
  thisClass := this
  superClass := sup
  interfaces := ifs
  fields := fds
  methods := ms
  attributes := attrs
def plain (name : String) (sup : Option ClassId) : Class where
  name := name
  kind := .ordinary
  loader := none
  accessFlags := 33
  super := sup
  interfaces := #[]
  cf := none
  fields := #[]
  methods := #[]
  instanceTypes := #[]
  staticTypes := #[]
  resolved := #[]
  callSites := []
  init := .initialized
  statics := none
  mirror := none

def pool0 : Array CpInfo := pool [(5, u "<init>"), (0, u "()V"), (1, .class_ 10), (1, u "java/lang/Object")] 113

def k0m0 : Method := { name := "<init>", desc := "()V", sig := { parameters := [], returnType := none }, accessFlags := 1, code := none }
/-- java/lang/Object -/
def k0 : Class := { plain "java/lang/Object" none with
  accessFlags := 33
  interfaces := #[]
  cf := some (fileOf pool0 8 #[] #[{ accessFlags := 1, nameIndex := 5, descriptorIndex := 6, attributes := #[] }] 33 0 #[] #[])
  fields := #[]
  methods := #[k0m0]
  instanceTypes := #[]
  staticTypes := #[]
  resolved := Array.replicate 124 none
  statics := none }

def pool1 : Array CpInfo := pool [(2, .class_ 4), (1, u "java/lang/Object"), (0, u "<init>"), (0, u "()V"), (2, .long 9223372036854775807), (1, .integer 2147483647), (0, .methodref 13 14), (0, .class_ 15), (0, .nameAndType 16 17), (0, u "java/lang/Math"), (0, u "max"), (0, u "(II)I"), (0, .long 1000000000), (1, .long 9223372035), (1, .methodref 23 24), (0, .class_ 25), (0, .nameAndType 26 27), (0, u "com/example/orrery/orrery/Station"), (0, u "sendTime"), (0, u "(JI)J"), (0, .class_ 29), (0, u "com/example/orrery/orrery/StationSendTimePinLaw"), (2, u "law"), (0, u "(JII)Z")] 3

def k1m0 : Method := { name := "<init>", desc := "()V", sig := { parameters := [], returnType := none }, accessFlags := 2, code := none }
def k1c1 : Code := { maxStack := 6, maxLocals := 19, code := code, exceptionTable := #[], attributes := #[] }
def k1m1 : Method := { name := "law", desc := "(JII)Z", sig := { parameters := [.long, .int, .int], returnType := some .boolean }, accessFlags := 9, code := some k1c1 }
/-- com/example/orrery/orrery/StationSendTimePinLaw -/
def k1 : Class := { plain "com/example/orrery/orrery/StationSendTimePinLaw" (some 0) with
  accessFlags := 49
  interfaces := #[]
  cf := some (fileOf pool1 28 #[] #[{ accessFlags := 2, nameIndex := 5, descriptorIndex := 6, attributes := #[] }, { accessFlags := 9, nameIndex := 32, descriptorIndex := 33, attributes := #[] }] 49 2 #[] #[])
  fields := #[]
  methods := #[k1m0, k1m1]
  instanceTypes := #[]
  staticTypes := #[]
  resolved := Array.replicate 37 none
  statics := none }

def pool2 : Array CpInfo := pool [(1, .class_ 2), (0, u "java/lang/Math"), (1, .class_ 6), (1, u "java/lang/Object"), (0, u "<init>"), (0, u "()V"), (89, .class_ 100), (1, u "java/lang/Math$RandomNumberGeneratorHolder"), (71, u "negativeZeroFloatBits"), (0, u "J"), (2, u "negativeZeroDoubleBits"), (21, u "max"), (46, u "$assertionsDisabled"), (0, u "Z"), (88, u "(II)I"), (2, u "twoToTheDoubleScaleDown"), (0, u "D"), (4, u "twoToTheDoubleScaleUp"), (9, u "E"), (3, u "PI"), (2, u "TAU"), (2, u "DEGREES_TO_RADIANS"), (0, u "RADIANS_TO_DEGREES")] 94

def k2m0 : Method := { name := "<init>", desc := "()V", sig := { parameters := [], returnType := none }, accessFlags := 2, code := none }
def k2c1 : Code := { maxStack := 2, maxLocals := 2, code := jdk_29_method_65_code, exceptionTable := #[], attributes := #[] }
def k2m1 : Method := { name := "max", desc := "(II)I", sig := { parameters := [.int, .int], returnType := some .int }, accessFlags := 9, code := some k2c1 }
/-- java/lang/Math -/
def k2 : Class := { plain "java/lang/Math" (some 0) with
  accessFlags := 49
  interfaces := #[]
  cf := some (fileOf pool2 1 #[.nestMembers #[98]] #[{ accessFlags := 2, nameIndex := 7, descriptorIndex := 8, attributes := #[] }, { accessFlags := 9, nameIndex := 198, descriptorIndex := 335, attributes := #[] }] 49 4 #[] #[{ accessFlags := 25, nameIndex := 354, descriptorIndex := 339, attributes := #[] }, { accessFlags := 25, nameIndex := 358, descriptorIndex := 339, attributes := #[] }, { accessFlags := 25, nameIndex := 361, descriptorIndex := 339, attributes := #[] }, { accessFlags := 26, nameIndex := 364, descriptorIndex := 339, attributes := #[] }, { accessFlags := 26, nameIndex := 365, descriptorIndex := 339, attributes := #[] }, { accessFlags := 26, nameIndex := 172, descriptorIndex := 173, attributes := #[] }, { accessFlags := 26, nameIndex := 176, descriptorIndex := 173, attributes := #[] }, { accessFlags := 8, nameIndex := 344, descriptorIndex := 339, attributes := #[] }, { accessFlags := 8, nameIndex := 338, descriptorIndex := 339, attributes := #[] }, { accessFlags := 4120, nameIndex := 245, descriptorIndex := 246, attributes := #[] }])
  fields := #[{ name := "E", type := .double, accessFlags := 25, slot := 0, constantValue := 0 }, { name := "PI", type := .double, accessFlags := 25, slot := 1, constantValue := 0 }, { name := "TAU", type := .double, accessFlags := 25, slot := 2, constantValue := 0 }, { name := "DEGREES_TO_RADIANS", type := .double, accessFlags := 26, slot := 3, constantValue := 0 }, { name := "RADIANS_TO_DEGREES", type := .double, accessFlags := 26, slot := 4, constantValue := 0 }, { name := "negativeZeroFloatBits", type := .long, accessFlags := 26, slot := 5, constantValue := 0 }, { name := "negativeZeroDoubleBits", type := .long, accessFlags := 26, slot := 6, constantValue := 0 }, { name := "twoToTheDoubleScaleUp", type := .double, accessFlags := 8, slot := 7, constantValue := 0 }, { name := "twoToTheDoubleScaleDown", type := .double, accessFlags := 8, slot := 8, constantValue := 0 }, { name := "$assertionsDisabled", type := .boolean, accessFlags := 4120, slot := 9, constantValue := 0 }]
  methods := #[k2m0, k2m1]
  instanceTypes := #[]
  staticTypes := #[.double, .double, .double, .double, .double, .long, .long, .double, .double, .boolean]
  resolved := Array.replicate 460 none
  statics := none }

def pool3 : Array CpInfo := pool [(1, .class_ 2), (0, u "java/lang/AutoCloseable"), (0, .class_ 4), (0, u "java/lang/Object")] 7

/-- java/lang/AutoCloseable -/
def k3 : Class := { plain "java/lang/AutoCloseable" (some 0) with
  accessFlags := 1537
  interfaces := #[]
  cf := some (fileOf pool3 1 #[] #[] 1537 3 #[] #[])
  fields := #[]
  methods := #[]
  instanceTypes := #[]
  staticTypes := #[]
  resolved := Array.replicate 12 none
  statics := none }

def pool4 : Array CpInfo := pool [(1, .class_ 2), (0, u "java/io/Closeable"), (0, .class_ 4), (0, u "java/lang/Object"), (0, .class_ 6), (0, u "java/lang/AutoCloseable")] 7

/-- java/io/Closeable -/
def k4 : Class := { plain "java/io/Closeable" (some 0) with
  accessFlags := 1537
  interfaces := #[3]
  cf := some (fileOf pool4 1 #[] #[] 1537 3 #[5] #[])
  fields := #[]
  methods := #[]
  instanceTypes := #[]
  staticTypes := #[]
  resolved := Array.replicate 14 none
  statics := none }

def pool5 : Array CpInfo := pool [(2, .class_ 4), (1, u "java/lang/Object"), (8, .class_ 15), (1, u "com/example/orrery/orrery/Station"), (0, u "stopped"), (0, u "Ljava/util/concurrent/CountDownLatch;"), (22, u "program"), (0, u "Lcom/example/orrery/orrery/Program;"), (6, u "pages"), (0, u "Ljava/util/List;"), (2, u "rate"), (0, u "I"), (2, u "to"), (0, u "Ljava/net/InetSocketAddress;"), (8, u "channel"), (0, u "Ljava/nio/channels/DatagramChannel;"), (10, u "sendTime"), (0, u "(JI)J"), (52, .fieldref 13 133), (0, .nameAndType 134 135), (0, u "NANOS_PER_SECOND"), (0, u "J"), (9, u "NO_CONTENT"), (0, u "Lcom/example/orrery/orrery/PageFiles$Page;"), (35, .class_ 183), (0, u "java/io/Closeable")] 36

def k5c0 : Code := { maxStack := 6, maxLocals := 3, code := prog_34_method_5_code, exceptionTable := #[], attributes := #[] }
def k5m0 : Method := { name := "sendTime", desc := "(JI)J", sig := { parameters := [.long, .int], returnType := some .long }, accessFlags := 8, code := some k5c0 }
/-- com/example/orrery/orrery/Station -/
def k5 : Class := { plain "com/example/orrery/orrery/Station" (some 0) with
  accessFlags := 48
  interfaces := #[4]
  cf := some (fileOf pool5 13 #[] #[{ accessFlags := 8, nameIndex := 78, descriptorIndex := 79, attributes := #[] }] 48 2 #[182] #[{ accessFlags := 26, nameIndex := 134, descriptorIndex := 135, attributes := #[] }, { accessFlags := 26, nameIndex := 145, descriptorIndex := 146, attributes := #[] }, { accessFlags := 18, nameIndex := 40, descriptorIndex := 41, attributes := #[] }, { accessFlags := 18, nameIndex := 48, descriptorIndex := 49, attributes := #[] }, { accessFlags := 18, nameIndex := 52, descriptorIndex := 53, attributes := #[] }, { accessFlags := 18, nameIndex := 56, descriptorIndex := 57, attributes := #[] }, { accessFlags := 18, nameIndex := 66, descriptorIndex := 67, attributes := #[] }, { accessFlags := 18, nameIndex := 16, descriptorIndex := 17, attributes := #[] }])
  fields := #[{ name := "NANOS_PER_SECOND", type := .long, accessFlags := 26, slot := 0, constantValue := 0 }, { name := "NO_CONTENT", type := (.object "com/example/orrery/orrery/PageFiles$Page"), accessFlags := 26, slot := 1, constantValue := 0 }, { name := "program", type := (.object "com/example/orrery/orrery/Program"), accessFlags := 18, slot := 0, constantValue := 0 }, { name := "pages", type := (.object "java/util/List"), accessFlags := 18, slot := 1, constantValue := 0 }, { name := "rate", type := .int, accessFlags := 18, slot := 2, constantValue := 0 }, { name := "to", type := (.object "java/net/InetSocketAddress"), accessFlags := 18, slot := 3, constantValue := 0 }, { name := "channel", type := (.object "java/nio/channels/DatagramChannel"), accessFlags := 18, slot := 4, constantValue := 0 }, { name := "stopped", type := (.object "java/util/concurrent/CountDownLatch"), accessFlags := 18, slot := 5, constantValue := 0 }]
  methods := #[k5m0]
  instanceTypes := #[(.object "com/example/orrery/orrery/Program"), (.object "java/util/List"), .int, (.object "java/net/InetSocketAddress"), (.object "java/nio/channels/DatagramChannel"), (.object "java/util/concurrent/CountDownLatch")]
  staticTypes := #[.long, (.object "com/example/orrery/orrery/PageFiles$Page")]
  resolved := Array.replicate 220 none
  statics := some 0 }

def pool6 : Array CpInfo := pool [(1, u "java/lang/Cloneable"), (0, .class_ 1), (0, u "java/lang/Object"), (0, .class_ 3)] 3

/-- java/lang/Cloneable -/
def k6 : Class := { plain "java/lang/Cloneable" (some 0) with
  accessFlags := 1537
  interfaces := #[]
  cf := some (fileOf pool6 2 #[] #[] 1537 4 #[] #[])
  fields := #[]
  methods := #[]
  instanceTypes := #[]
  staticTypes := #[]
  resolved := Array.replicate 8 none
  statics := none }

def pool7 : Array CpInfo := pool [(1, u "java/io/Serializable"), (0, .class_ 1), (0, u "java/lang/Object"), (0, .class_ 3)] 3

/-- java/io/Serializable -/
def k7 : Class := { plain "java/io/Serializable" (some 0) with
  accessFlags := 1537
  interfaces := #[]
  cf := some (fileOf pool7 2 #[] #[] 1537 4 #[] #[])
  fields := #[]
  methods := #[]
  instanceTypes := #[]
  staticTypes := #[]
  resolved := Array.replicate 8 none
  statics := none }

/-- the primitive byte -/
def k8 : Class := { plain "byte" none with kind := .primitive 'B', accessFlags := 0x411 }
/-- [B -/
def k9 : Class := { plain "[B" (some 0) with kind := .array 8 .byte, interfaces := #[6, 7], accessFlags := 1041 }

/-- the primitive int -/
def k10 : Class := { plain "int" none with kind := .primitive 'I', accessFlags := 0x411 }
/-- [I -/
def k11 : Class := { plain "[I" (some 0) with kind := .array 10 .int, interfaces := #[6, 7], accessFlags := 1041 }

def heap : Heap := #[{ cls := 5, slots := #[.long 1000000000, .null], vm := .statics 5 }]
def classes : Array Class := #[k0, k1, k2, k3, k4, k5, k6, k7, k8, k9, k10, k11]
def interned : List (Array UInt16 × Addr) := []
def slotsUsed : Nat := 2
def theMethod : MethodId := ⟨1, 1⟩
def args0 : Array Value := #[.long 5, .int 6, .int 1]
def aboutOver (below : List Frame) : State where
  vm := { classes := classes, interned := interned.toArray }
  heap := heap
  slotsUsed := slotsUsed
  threads := #[{ frames := .invoking theMethod args0 :: below }]
def below0 : List Frame := [.native { method := ⟨0, 0⟩, args := #[] }]
def about1 : State := aboutOver below0
def p0 : Program := .bare "" "" ""
def e0 : Env := launch0.env 0 0 0
theorem w_frames : about1.frames = Frame.invoking theMethod args0 :: below0 := rfl
set_option maxRecDepth 65536 in
theorem w_args : argsFit about1.vm theMethod args0 = true := by decide +kernel
set_option maxRecDepth 65536 in
theorem w_heap : heapFits about1 = true := by decide +kernel
set_option maxRecDepth 65536 in
theorem w_runnable : about1.curStatus? = some .runnable := by decide +kernel
set_option maxRecDepth 65536 in
theorem w_alone : about1.alone = true := by decide +kernel
set_option maxRecDepth 65536 in
theorem w_named : about1.methodNamed? x = some theMethod := by decide +kernel
set_option maxRecDepth 65536 in
theorem w_hears : about1.hears theMethod below0 = true := by decide +kernel
set_option maxRecDepth 65536 in
theorem w_ripe : about1.ripe theMethod args0 below0 = true := by decide +kernel
theorem w_running : about1.status = .running := rfl
set_option maxRecDepth 65536 in
theorem w_room : about1.hasRoom e0.platform room_1 = true :=
  launch0.hasRoom_least _ room_1 (by decide +kernel) (by decide +kernel) (by decide +kernel) (by decide +kernel) (by decide +kernel) (by decide +kernel)
theorem allAtoms_all (ts : List Jvm.Cond) (a : Array Jvm.Value) (st : Jvm.State) : (allAtoms ts).before a st = ts.all (fun c => c.before a st) := by
  induction ts with
  | nil => rfl
  | cons c t ih =>
    show (Jvm.Cond.and c (allAtoms t)).before a st = _
    rw [Jvm.Cond.before_and, ih, List.all_cons]
def words1 : List Jvm.Cond := Jvm.Cond.code x code maxLocals ret :: tables_1
/-- a 'code' word, met by the world's own term for the bytes: nothing is compared byte by byte -/
theorem code_word {y : MethodName} {bytes : ByteArray} {mx : Nat} {rt : Option FieldType} {a : Array Value} {s : State} {m : MethodId} {meth : Method} {c : Code} (h1 : s.methodNamed? y = some m) (h2 : s.vm.method? m = some meth) (h3 : meth.code = some c) (h4 : c.code = bytes)
    (h5 : (c.maxLocals == mx && c.exceptionTable.isEmpty && decide (c.maxStack ≤ mostOperands) && decide (meth.sig.returnType = rt) && !meth.locks && decide (parseMethodDescriptor y.desc = some meth.sig)) = true) : (Jvm.Cond.code y bytes mx rt).before a s = true := by
  simp only [Bool.and_eq_true, beq_iff_eq, Bool.not_eq_true', decide_eq_true_eq] at h5
  obtain ⟨⟨⟨⟨⟨g1, g2⟩, g3⟩, g4⟩, g5⟩, g6⟩ := h5
  simp [Cond.before, Cond.holds, Cond.value, h1, h2, h3, h4, g1, g2, g3, g4, g5, g6]
def isCode : Jvm.Cond → Bool
  | .code _ _ _ _ => true
  | _ => false
theorem all_split {L : List Jvm.Cond} {P : Jvm.Cond → Bool} (h1 : L.all (fun c => isCode c || P c) = true) (h2 : ∀ c ∈ L.filter isCode, P c = true) : L.all P = true := by
  refine List.all_eq_true.mpr fun c hc => ?_
  have h := List.all_eq_true.mp h1 c hc
  rcases Bool.eq_false_or_eq_true (isCode c) with hi | hi
  · exact h2 c (List.mem_filter.mpr ⟨hc, hi⟩)
  · simpa [hi] using h
set_option maxRecDepth 65536 in
theorem w_c0 : (Jvm.Cond.code x code maxLocals ret).before args0 about1 = true := code_word (m := ⟨1, 1⟩) (meth := k1m1) (c := k1c1) (by decide +kernel) rfl rfl rfl (by decide +kernel)
set_option maxRecDepth 65536 in
theorem w_c1 : (Jvm.Cond.code ({ cls := "java/lang/Math", name := "max", desc := "(II)I" } : Jvm.MethodName) jdk_29_method_65_code (2 : Nat) (Option.some Jvm.ClassFile.FieldType.int)).before args0 about1 = true := code_word (m := ⟨2, 1⟩) (meth := k2m1) (c := k2c1) (by decide +kernel) rfl rfl rfl (by decide +kernel)
set_option maxRecDepth 65536 in
theorem w_c2 : (Jvm.Cond.code ({ cls := "com/example/orrery/orrery/Station", name := "sendTime", desc := "(JI)J" } : Jvm.MethodName) prog_34_method_5_code (3 : Nat) (Option.some Jvm.ClassFile.FieldType.long)).before args0 about1 = true := code_word (m := ⟨5, 0⟩) (meth := k5m0) (c := k5c0) (by decide +kernel) rfl rfl rfl (by decide +kernel)
def codes1 : List Jvm.Cond := [Jvm.Cond.code x code maxLocals ret, Jvm.Cond.code ({ cls := "java/lang/Math", name := "max", desc := "(II)I" } : Jvm.MethodName) jdk_29_method_65_code (2 : Nat) (Option.some Jvm.ClassFile.FieldType.int), Jvm.Cond.code ({ cls := "com/example/orrery/orrery/Station", name := "sendTime", desc := "(JI)J" } : Jvm.MethodName) prog_34_method_5_code (3 : Nat) (Option.some Jvm.ClassFile.FieldType.long)]
set_option maxRecDepth 65536 in
theorem codes_eq : words1.filter isCode = codes1 := rfl
theorem w_codes : ∀ c ∈ words1.filter isCode, c.before args0 about1 = true := by
  rw [codes_eq]
  intro c hc
  simp only [codes1, List.mem_cons, List.not_mem_nil, or_false] at hc
  rcases hc with rfl | rfl | rfl
  · exact w_c0
  · exact w_c1
  · exact w_c2
set_option maxRecDepth 65536 in
theorem w_t1 : words1.all (fun c => isCode c || c.before args0 about1) = true := by decide +kernel
theorem w_tables : (allAtoms (Jvm.Cond.code x code maxLocals ret :: tables_1)).before args0 about1 = true := by
  rw [allAtoms_all]
  show words1.all (fun c => c.before args0 about1) = true
  refine all_split ?_ w_codes
  rw [w_t1]
set_option maxRecDepth 65536 in
theorem w_case : (Jvm.Cond.and given_1 narrow_1).before args0 about1 = true := by decide +kernel
theorem w_applies : (headSpec (Jvm.Cond.code x code maxLocals ret :: tables_1) room_1).applies x e0.platform about1 = true :=
  (Spec.applies_iff w_frames).mpr ⟨w_running, w_runnable, w_alone, w_named, w_hears, w_ripe, w_room, w_tables⟩
theorem atStart : AtStart classFile x code maxLocals ret World_1 tables_1 room_1 Calls_1 rest_1 Pre_1 launch0 p0 e0 about1 theMethod args0 below0 :=
  ⟨lists_1, trivial, launch0.admits_env _ _ _, launch0.least_env, fairChoices_fair.cas, fairChoices_fair.clock, w_frames, w_args, w_heap, w_applies, trivial, trivial, w_case⟩
end start1
theorem witness_1 : WitnessClaimed_1 := ⟨start1.p0, start1.e0, start1.about1, start1.theMethod, start1.args0, start1.below0, start1.atStart⟩
end Jvm.Pilot.@@N@@
