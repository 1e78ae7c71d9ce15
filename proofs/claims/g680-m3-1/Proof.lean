import JvmDerived
import JvmDerived.Pilot.@@N@@Statement
import JvmDerived.Pilot.@@N@@Code
set_option linter.unusedVariables false
set_option linter.unusedSimpArgs false
namespace Jvm.RoadKit
open Sem ClassFile Op Lib Jvm.Stand Jvm.Free Jvm.LawKit
section New
variable {p : Program} {l : Launch} {e : Env} {R : Room} {s : State} {m : MethodId} {args : Array Value} {below : List Frame} {meth : Method} {c : Code} {T : State} {locs : List Loc} {cells slots : Nat}
theorem retI (X : Stand p l e R s m args below meth c T locs cells slots) (hx : p.tables.exec = Jvm.exec) {pc : Nat} {Ls : Array Slot} {z : Int32} {rest : List Value} (hret : meth.sig.returnType = some .int) (hd : decode c.code pc = .ok (.ireturn, 1)) {fs : List Frame}
    (hl : ∀ (f : JFrame) (acts : List Action), f.method = m → f.locked = none → f.entered = [] → (doReturn e (T.setTop f) acts (some (.int z))).1 = T.setFrames fs) : Steps p.tables e below (T.setTop (mkF m pc Ls (.int z :: rest))) (T.setFrames fs) := by
  have hm' : T.vm.method? m = some meth := X.method'
  have hn : narrow .int (.int z) = .int z := rfl
  show Steps p.tables e below (T.setTop { method := m, pc := pc, locals := Ls, stack := _ :: rest, locked := none }) _
  jvm_step X.here [X.here.top, hx, hd, hm', hret, hn]
  first | (intro acts; rw [hl _ acts rfl rfl rfl]) | rw [hl _ _ rfl rfl rfl]
  exact Steps.refl _
end New
end Jvm.RoadKit
namespace Jvm.Pilot.@@N@@
open Jvm Jvm.ClassFile Sem Op Lib Jvm.Free Jvm.Stand Jvm.LawKit Jvm.RoadKit Bundle Jvm.Pilot.@@N@@.Jvm.D
theorem own_go {tb : Tables} {e : Env} {below : List Frame} {T T' : State} {g g' : JFrame} {P : State → Outcome → Prop} (st : ∀ t, Steps tb e below (T'.setTop g') t → Steps tb e below (T.setTop g) t) (k : ∃ s₂ o, Steps tb e below (T'.setTop g') s₂ ∧ P s₂ o) : ∃ s₂ o, Steps tb e below (T.setTop g) s₂ ∧ P s₂ o := by
  obtain ⟨s₂, o, h, r⟩ := k
  exact ⟨s₂, o, st _ h, r⟩
def own_min (x y : Int64) : Int64 := if y < x then y else x
def own_most (a : Int64) : Int32 := if (0 : Int64) < a then (own_min 1024 (a / 4)).toInt32 else 1024
theorem own_pos (a : Int64) (h : (0 : Int64) < a) : ¬ own_most a < 0 ∧ ¬ (1024 : Int32) < own_most a ∧ ¬ a < 4 * (own_most a).toInt64 ∧ (¬ own_most a = 1024 → a < 4 * (own_most a).toInt64 + 4) := by
  have h' := Int64.lt_iff_toInt_lt.mp h
  have k0 : (0 : Int64).toInt = 0 := rfl
  have k4 : (4 : Int64).toInt = 4 := rfl
  have k1 : (1024 : Int64).toInt = 1024 := rfl
  have j0 : (0 : Int32).toInt = 0 := rfl
  have j1 : (1024 : Int32).toInt = 1024 := rfl
  have e1 := (c_ldiv a 4 4 rfl (by decide)).1 (by omega)
  have e : own_most a = (own_min 1024 (a / 4)).toInt32 := if_pos h
  have hm : (own_min 1024 (a / 4)).toInt = if a.toInt / 4 < 1024 then a.toInt / 4 else 1024 := by
    unfold own_min
    by_cases q : a / 4 < 1024
    · rw [if_pos q]; rw [Int64.lt_iff_toInt_lt] at q; rw [if_pos (by omega)]; exact e1
    · rw [if_neg q]; rw [Int64.lt_iff_toInt_lt] at q; rw [if_neg (by omega)]; exact k1
  have e2 := c_l2i (own_min 1024 (a / 4))
  rw [← e] at e2
  generalize own_min 1024 (a / 4) = mn at hm e2
  generalize own_most a = r at e2 ⊢
  have b1 := Int32.le_toInt r
  have b2 := Int32.toInt_lt r
  have e3 := c_i2l r
  have e4 := c_lmul 4 r.toInt64
  have b3 := Int64.le_toInt (4 * r.toInt64)
  have b4 := Int64.toInt_lt (4 * r.toInt64)
  have e5 := c_ladd (4 * r.toInt64) 4
  have b5 := Int64.le_toInt (4 * r.toInt64 + 4)
  have b6 := Int64.toInt_lt (4 * r.toInt64 + 4)
  rw [k4, e3] at e4
  rw [k4] at e5
  simp only [Int32.lt_iff_toInt_lt, Int64.lt_iff_toInt_lt, ← Int32.toInt_inj]
  split at hm <;> refine ⟨by omega, by omega, by omega, fun q => by omega⟩
theorem own_neg (a : Int64) (h : ¬ (0 : Int64) < a) : own_most a = 1024 := if_neg h
theorem ef_2 (m : MethodId) (x0 : Int64) (x1 : Int64) : entryFrame m #[(.long x0), (.long x1)] 4 = mkF m 0 #[.val (.long x0), .second, .val (.long x1), .second] [] := by first | (simp [entryFrame, mkF, argsToLocals, Value.category]; done) | rfl
def Q_rmin (Z : State) (q1 : Int64) (q2 : Int64) (h0 : Heap) (n0 : Nat) (v : Option Value) (h : Heap) (L : List Loc) : Prop := v = some (.long (own_min q1 q2)) ∧ Fr n0 L ∧ h = h0
theorem d2_0 : decode jdk_29_method_70_code 0 = .ok (.lload_n 0, 1) := by decide +kernel
theorem d2_1 : decode jdk_29_method_70_code 1 = .ok (.lload_n 2, 1) := by decide +kernel
theorem d2_2 : decode jdk_29_method_70_code 2 = .ok (.lcmp, 1) := by decide +kernel
theorem d2_3 : decode jdk_29_method_70_code 3 = .ok (.ifCond .gt 7, 3) := by decide +kernel
theorem d2_10 : decode jdk_29_method_70_code 10 = .ok (.lload_n 2, 1) := by decide +kernel
theorem d2_11 : decode jdk_29_method_70_code 11 = .ok (.lreturn, 1) := by decide +kernel
theorem d2_6 : decode jdk_29_method_70_code 6 = .ok (.lload_n 0, 1) := by decide +kernel
theorem d2_7 : decode jdk_29_method_70_code 7 = .ok (.goto 4, 3) := by decide +kernel
set_option maxRecDepth 65536 in
set_option maxHeartbeats 40000000 in
theorem rmin (l : Launch) (Z : State) (a0 : Array Value) (hw : ∀ d ∈ tables_1, d.before a0 Z = true) (ws : List Jvm.Cond) (q1 : Int64) (q2 : Int64) (h0 : Heap) (n0 : Nat) (Z0 : n0 ≤ h0.size)  :
    MetFree l (⟨"java/lang/Math", "min", "(JJ)J"⟩ : MethodName) (head1 (Jvm.Cond.code (⟨"java/lang/Math", "min", "(JJ)J"⟩ : MethodName) jdk_29_method_70_code 4 (some .long) :: ws) ({ frames := 0, cells := 0, slots := 0, locals := 0 } : Room)) (fun a U => a = #[(.long q1), (.long q2)] ∧ Z.Warmed39 U.vm ∧ U.heap = h0) (fun _ _ _ _ _ => True) (fun _ U o U' => ∃ v L, o = .returned v ∧ Q_rmin Z q1 q2 h0 n0 v U'.heap L ∧ FrameEnd U o U' L ({ frames := 0, cells := 0, slots := 0, locals := 0 } : Room).cells ({ frames := 0, cells := 0, slots := 0, locals := 0 } : Room).slots) := by
  refine MetFree.of_bodySF (Jvm.Free.JP.mathPlain rfl (by decide +kernel)) hisR ?_
  intro p e s m args below meth c s₁ Bd hml0 hP hK
  obtain ⟨rfl, hZ, hh⟩ := hP
  have hx := Bd.exec
  have hby := Bd.bytes
  have hml : c.maxLocals = 4 := hml0
  have hown : s.vm.findClass "java/lang/Math" = some m.cls := findClass_of_methodNamed Bd.named
  have hnm := (name_of_methodNamed Bd.named Bd.method).1
  have X0 : Stand p l e ({ frames := 0, cells := 0, slots := 0, locals := 0 } : Room) s m #[(.long q1), (.long q2)] below meth c s₁ [] 0 0 := Stand.of_body Bd
  have e0 : s₁.heap = h0 := by rw [← hh, Bd.state]; rfl
  have N0 := Fr.nil n0
  refine own_go (g' := (mkF m 0 #[.val (.long q1), .second, .val (.long q2), .second] [])) (fun t k => castTop (ef_2 m (q1) (q2)) k) ?_
  refine own_go (T' := s₁) (g' := (mkF m 3 #[.val (.long q1), .second, .val (.long q2), .second] [(.int (lcmpW q1 q2))])) (fun t kt => ?_) ?_
  · show Steps p.tables e below (s₁.setTop (mkF m 0 #[.val (.long q1), .second, .val (.long q2), .second] [])) t
    refine XS.lloadN X0.here hx rfl (hb hby d2_0) rfl ?_
    show Steps p.tables e below (s₁.setTop (mkF m 1 #[.val (.long q1), .second, .val (.long q2), .second] [(.long q1)])) t
    refine XS.lloadN X0.here hx rfl (hb hby d2_1) rfl ?_
    show Steps p.tables e below (s₁.setTop (mkF m 2 #[.val (.long q1), .second, .val (.long q2), .second] [(.long q2), (.long q1)])) t
    refine XS.lcmp X0.here hx rfl (hb hby d2_2) rfl ?_
    exact kt
  by_cases hc3 : q2 < q1
  · refine own_go (T' := s₁) (g' := (mkF m 11 #[.val (.long q1), .second, .val (.long q2), .second] [(.long q2)])) (fun t kt => ?_) ?_
    · show Steps p.tables e below (s₁.setTop (mkF m 3 #[.val (.long q1), .second, .val (.long q2), .second] [(.int (lcmpW q1 q2))])) t
      refine XS.ifYes X0.here hx rfl (pc0 := 3) (pc' := 10) rfl (hb hby d2_3) rfl ((if0 _ _).trans (tlt ((lw_gt _ _).mpr hc3)).2.2.1) (by decide) (by decide) ?_
      show Steps p.tables e below (s₁.setTop (mkF m 10 #[.val (.long q1), .second, .val (.long q2), .second] [])) t
      refine XS.lloadN X0.here hx rfl (hb hby d2_10) rfl ?_
      exact kt
    obtain ⟨fs, hr, hrun, hended, hW, hsame⟩ := X0.leave (v := some (.long q2)) (fun h => by rw [Bd.returns] at h; cases h)
    refine ⟨_, _, ?_, hrun, hended, _, _, rfl, ?_, ⟨_, rfl⟩, hW, hsame.mono (by decide) (by decide)⟩
    · exact X0.lreturnOut hx Bd.returns (hb hby d2_11) hr
    · show Q_rmin Z q1 q2 h0 n0 _ s₁.heap _
      rw [e0]
      exact ⟨congrArg (fun z => some (Value.long z)) (if_pos hc3).symm, N0, rfl⟩
  · refine own_go (T' := s₁) (g' := (mkF m 11 #[.val (.long q1), .second, .val (.long q2), .second] [(.long q1)])) (fun t kt => ?_) ?_
    · show Steps p.tables e below (s₁.setTop (mkF m 3 #[.val (.long q1), .second, .val (.long q2), .second] [(.int (lcmpW q1 q2))])) t
      refine XS.ifNo X0.here hx rfl (hb hby d2_3) rfl ((if0 _ _).trans (flt (fun q => hc3 ((lw_gt _ _).mp q))).2.2.1) ?_
      show Steps p.tables e below (s₁.setTop (mkF m 6 #[.val (.long q1), .second, .val (.long q2), .second] [])) t
      refine XS.lloadN X0.here hx rfl (hb hby d2_6) rfl ?_
      show Steps p.tables e below (s₁.setTop (mkF m 7 #[.val (.long q1), .second, .val (.long q2), .second] [(.long q1)])) t
      refine XS.goto X0.here hx rfl (pc0 := 7) (pc' := 11) rfl (hb hby d2_7) (by decide) (by decide) ?_
      exact kt
    obtain ⟨fs, hr, hrun, hended, hW, hsame⟩ := X0.leave (v := some (.long q1)) (fun h => by rw [Bd.returns] at h; cases h)
    refine ⟨_, _, ?_, hrun, hended, _, _, rfl, ?_, ⟨_, rfl⟩, hW, hsame.mono (by decide) (by decide)⟩
    · exact X0.lreturnOut hx Bd.returns (hb hby d2_11) hr
    · show Q_rmin Z q1 q2 h0 n0 _ s₁.heap _
      rw [e0]
      exact ⟨congrArg (fun z => some (Value.long z)) (if_neg hc3).symm, N0, rfl⟩
theorem pn_1 : plainName "com/example/nonceward/nonceward/SilentConnections" = true := by first | (simp [plainName, overriddenIn]; done) | decide +kernel
theorem ef_1 (m : MethodId) (x0 : Int64) : entryFrame m #[(.long x0)] 2 = mkF m 0 #[.val (.long x0), .second] [] := by first | (simp [entryFrame, mkF, argsToLocals, Value.category]; done) | rfl
def Q_rmost (Z : State) (q1 : Int64) (h0 : Heap) (n0 : Nat) (v : Option Value) (h : Heap) (L : List Loc) : Prop := v = some (.int (own_most q1)) ∧ Fr n0 L ∧ h = h0
theorem d1_0 : decode prog_52_method_4_code 0 = .ok (.lload_n 0, 1) := by decide +kernel
theorem d1_1 : decode prog_52_method_4_code 1 = .ok (.lconst 0, 1) := by decide +kernel
theorem d1_2 : decode prog_52_method_4_code 2 = .ok (.lcmp, 1) := by decide +kernel
theorem d1_3 : decode prog_52_method_4_code 3 = .ok (.ifCond .le 18, 3) := by decide +kernel
theorem d1_6 : decode prog_52_method_4_code 6 = .ok (.ldc2_w 72, 3) := by decide +kernel
theorem d1_9 : decode prog_52_method_4_code 9 = .ok (.lload_n 0, 1) := by decide +kernel
theorem d1_10 : decode prog_52_method_4_code 10 = .ok (.ldc2_w 74, 3) := by decide +kernel
theorem d1_13 : decode prog_52_method_4_code 13 = .ok (.ldiv, 1) := by decide +kernel
theorem d1_14 : decode prog_52_method_4_code 14 = .ok (.invokestatic 76, 3) := by decide +kernel
theorem pd_1 : parseMethodDescriptor "(JJ)J" = some ⟨[.long, .long], some .long⟩ := by decide +kernel
theorem d1_17 : decode prog_52_method_4_code 17 = .ok (.l2i, 1) := by decide +kernel
theorem d1_18 : decode prog_52_method_4_code 18 = .ok (.goto 6, 3) := by decide +kernel
theorem d1_24 : decode prog_52_method_4_code 24 = .ok (.ireturn, 1) := by decide +kernel
theorem d1_21 : decode prog_52_method_4_code 21 = .ok (.sipush 1024, 3) := by decide +kernel
set_option maxRecDepth 65536 in
set_option maxHeartbeats 40000000 in
theorem rmost (l : Launch) (Z : State) (a0 : Array Value) (hw : ∀ d ∈ tables_1, d.before a0 Z = true) (ws : List Jvm.Cond) (q1 : Int64) (h0 : Heap) (n0 : Nat) (Z0 : n0 ≤ h0.size)  :
    MetFree l (⟨"com/example/nonceward/nonceward/SilentConnections", "mostInAll", "(J)I"⟩ : MethodName) (head1 (Jvm.Cond.code (⟨"com/example/nonceward/nonceward/SilentConnections", "mostInAll", "(J)I"⟩ : MethodName) prog_52_method_4_code 2 (some .int) :: ws) ({ frames := 1, cells := 0, slots := 0, locals := 15 } : Room)) (fun a U => a = #[(.long q1)] ∧ Z.Warmed39 U.vm ∧ U.heap = h0) (fun _ _ _ _ _ => True) (fun _ U o U' => ∃ v L, o = .returned v ∧ Q_rmost Z q1 h0 n0 v U'.heap L ∧ FrameEnd U o U' L ({ frames := 1, cells := 0, slots := 0, locals := 15 } : Room).cells ({ frames := 1, cells := 0, slots := 0, locals := 15 } : Room).slots) := by
  refine MetFree.of_bodySF (plainFor_of_name pn_1) hisR ?_
  intro p e s m args below meth c s₁ Bd hml0 hP hK
  obtain ⟨rfl, hZ, hh⟩ := hP
  have hx := Bd.exec
  have hby := Bd.bytes
  have hml : c.maxLocals = 2 := hml0
  have hown : s.vm.findClass "com/example/nonceward/nonceward/SilentConnections" = some m.cls := findClass_of_methodNamed Bd.named
  have hnm := (name_of_methodNamed Bd.named Bd.method).1
  have X0 : Stand p l e ({ frames := 1, cells := 0, slots := 0, locals := 15 } : Room) s m #[(.long q1)] below meth c s₁ [] 0 0 := Stand.of_body Bd
  have e0 : s₁.heap = h0 := by rw [← hh, Bd.state]; rfl
  have N0 := Fr.nil n0
  refine own_go (g' := (mkF m 0 #[.val (.long q1), .second] [])) (fun t k => castTop (ef_1 m (q1)) k) ?_
  refine own_go (T' := s₁) (g' := (mkF m 3 #[.val (.long q1), .second] [(.int (lcmpW q1 (0 : Int64)))])) (fun t kt => ?_) ?_
  · show Steps p.tables e below (s₁.setTop (mkF m 0 #[.val (.long q1), .second] [])) t
    refine XS.lloadN X0.here hx rfl (hb hby d1_0) rfl ?_
    show Steps p.tables e below (s₁.setTop (mkF m 1 #[.val (.long q1), .second] [(.long q1)])) t
    refine XS.lconst X0.here hx rfl (hb hby d1_1) ?_
    show Steps p.tables e below (s₁.setTop (mkF m 2 #[.val (.long q1), .second] [(.long (0 : Int64)), (.long q1)])) t
    refine XS.lcmp X0.here hx rfl (hb hby d1_2) rfl ?_
    exact kt
  by_cases hc3 : (0 : Int64) < q1
  · refine own_go (T' := s₁) (g' := (mkF m 14 #[.val (.long q1), .second] [(.long (q1 / (4 : Int64))), (.long (1024 : Int64))])) (fun t kt => ?_) ?_
    · show Steps p.tables e below (s₁.setTop (mkF m 3 #[.val (.long q1), .second] [(.int (lcmpW q1 (0 : Int64)))])) t
      refine XS.ifNo X0.here hx rfl (hb hby d1_3) rfl ((if0 _ _).trans (tlt ((lw_gt _ _).mpr hc3)).2.2.2) ?_
      show Steps p.tables e below (s₁.setTop (mkF m 6 #[.val (.long q1), .second] [])) t
      refine X0.ldc2Long hx hown (mvT hZ (hw _ (List.mem_of_getElem? (i := 5) rfl))) (g := (mkF m 6 #[.val (.long q1), .second] [])) rfl (hb hby d1_6) _ ?_
      show Steps p.tables e below (s₁.setTop (mkF m 9 #[.val (.long q1), .second] [(.long (1024 : Int64))])) t
      refine XS.lloadN X0.here hx rfl (hb hby d1_9) rfl ?_
      show Steps p.tables e below (s₁.setTop (mkF m 10 #[.val (.long q1), .second] [(.long q1), (.long (1024 : Int64))])) t
      refine X0.ldc2Long hx hown (mvT hZ (hw _ (List.mem_of_getElem? (i := 6) rfl))) (g := (mkF m 10 #[.val (.long q1), .second] [(.long q1), (.long (1024 : Int64))])) rfl (hb hby d1_10) _ ?_
      show Steps p.tables e below (s₁.setTop (mkF m 13 #[.val (.long q1), .second] [(.long (4 : Int64)), (.long q1), (.long (1024 : Int64))])) t
      refine XS.ldiv X0.here hx rfl (hb hby d1_13) rfl (by decide) ?_
      exact kt
    obtain ⟨_, _, ⟨T1, L1, k1, n1⟩, -, X1, ⟨Lc1, hQ1, l1, y1, z1⟩, st1⟩ := Jvm.LawKit.callS X0 hx (y := (⟨"java/lang/Math", "min", "(JJ)J"⟩ : MethodName)) hown (mvT hZ (hw _ (List.mem_of_getElem? (i := 7) rfl))) (mvT hZ (hw _ (List.mem_of_getElem? (i := 8) rfl))) (mvT hZ (hw _ (List.mem_of_getElem? (i := 9) rfl))) (mvT hZ (hw _ (List.mem_of_getElem? (i := 10) rfl))) (by decide) (backOf (W := 0) (rmin l Z a0 hw [] ((1024 : Int64)) ((q1 / (4 : Int64)))  h0 n0 Z0 ) hZ (hw _ (List.mem_of_getElem? (i := 10) rfl)) (hw _ (List.mem_of_getElem? (i := 9) rfl)) (by decide) (by decide)) (g := (mkF m 14 #[.val (.long q1), .second] [(.long (q1 / (4 : Int64))), (.long (1024 : Int64))])) rfl (by rw [hml]; rfl) (argsL := [(.long (1024 : Int64)), (.long (q1 / (4 : Int64)))]) (rest := []) (lenOf pd_1 rfl) rfl (by show 2 * 0 + _ ≤ _; exact Nat.le_of_eq rfl) (hb hby d1_14) (fun _ _ => ⟨rfl, e0, (by decide : 0 + 0 ≤ _), (by decide : 0 + 0 ≤ _)⟩)
    dsimp only [Pt.U, Pt.locs, Pt.cells, Pt.slots] at X1 l1 y1 z1 st1 hQ1
    subst l1 y1 z1
    obtain ⟨rfl, N1q, e1⟩ := hQ1
    have N1 := Fr.app N0 N1q
    refine own_go (g' := (mkF m 17 #[.val (.long q1), .second] [(.long (own_min (1024 : Int64) (q1 / (4 : Int64))))])) st1 ?_
    refine own_go (T' := T1) (g' := (mkF m 24 #[.val (.long q1), .second] [(.int ((own_min (1024 : Int64) (q1 / (4 : Int64))).toInt32))])) (fun t kt => ?_) ?_
    · show Steps p.tables e below (T1.setTop (mkF m 17 #[.val (.long q1), .second] [(.long (own_min (1024 : Int64) (q1 / (4 : Int64))))])) t
      refine XS.l2i X1.here hx rfl (hb hby d1_17) rfl ?_
      show Steps p.tables e below (T1.setTop (mkF m 18 #[.val (.long q1), .second] [(.int ((own_min (1024 : Int64) (q1 / (4 : Int64))).toInt32))])) t
      refine XS.goto X1.here hx rfl (pc0 := 18) (pc' := 24) rfl (hb hby d1_18) (by decide) (by decide) ?_
      exact kt
    obtain ⟨fs, hr, hrun, hended, hW, hsame⟩ := X1.leave (v := some (.int ((own_min (1024 : Int64) (q1 / (4 : Int64))).toInt32))) (fun h => by rw [Bd.returns] at h; cases h)
    refine ⟨_, _, ?_, hrun, hended, _, _, rfl, ?_, ⟨_, rfl⟩, hW, hsame.mono (by decide) (by decide)⟩
    · exact retI X1 hx Bd.returns (hb hby d1_24) hr
    · show Q_rmost Z q1 h0 n0 _ T1.heap _
      rw [e1]
      exact ⟨congrArg (fun z => some (Value.int z)) (if_pos hc3).symm, N1, rfl⟩
  · refine own_go (T' := s₁) (g' := (mkF m 24 #[.val (.long q1), .second] [(.int (1024 : Int32))])) (fun t kt => ?_) ?_
    · show Steps p.tables e below (s₁.setTop (mkF m 3 #[.val (.long q1), .second] [(.int (lcmpW q1 (0 : Int64)))])) t
      refine XS.ifYes X0.here hx rfl (pc0 := 3) (pc' := 21) rfl (hb hby d1_3) rfl ((if0 _ _).trans (flt (fun q => hc3 ((lw_gt _ _).mp q))).2.2.2) (by decide) (by decide) ?_
      show Steps p.tables e below (s₁.setTop (mkF m 21 #[.val (.long q1), .second] [])) t
      refine XS.sipush X0.here hx rfl (hb hby d1_21) ?_
      exact kt
    obtain ⟨fs, hr, hrun, hended, hW, hsame⟩ := X0.leave (v := some (.int (1024 : Int32))) (fun h => by rw [Bd.returns] at h; cases h)
    refine ⟨_, _, ?_, hrun, hended, _, _, rfl, ?_, ⟨_, rfl⟩, hW, hsame.mono (by decide) (by decide)⟩
    · exact retI X0 hx Bd.returns (hb hby d1_24) hr
    · show Q_rmost Z q1 h0 n0 _ s₁.heap _
      rw [e0]
      exact ⟨congrArg (fun z => some (Value.int z)) (if_neg hc3).symm, N0, rfl⟩
theorem pn_0 : plainName "com/example/nonceward/nonceward/SilentConnectionsMostInAllPinLaw" = true := by first | (simp [plainName, overriddenIn]; done) | decide +kernel
theorem ef_0 (m : MethodId) (x0 : Int64) (x1 : Int32) : entryFrame m #[(.long x0), (.int x1)] maxLocals = mkF m 0 #[.val (.long x0), .second, .val (.int x1), .unset, .unset, .unset, .unset, .unset] [] := by first | (simp [entryFrame, mkF, argsToLocals, Value.category, maxLocals]; done) | rfl
def Q_rm0 (Z : State) (q1 : Int64) (p2 : Int32) (h0 : Heap) (n0 : Nat) (v : Option Value) (h : Heap) (L : List Loc) : Prop := v = some (.int (1 : Int32)) ∧ Fr n0 L
theorem pd_0 : parseMethodDescriptor "(J)I" = some ⟨[.long], some .int⟩ := by decide +kernel
set_option maxRecDepth 65536 in
set_option maxHeartbeats 40000000 in
theorem rm0 (l : Launch) (Z : State) (a0 : Array Value) (hw : ∀ d ∈ tables_1, d.before a0 Z = true) (ws : List Jvm.Cond) (q1 : Int64) (p2 : Int32) (h0 : Heap) (n0 : Nat) (Z0 : n0 ≤ h0.size)  :
    MetFree l x (head1 (Jvm.Cond.code x code maxLocals ret :: ws) room_1) (fun a U => a = #[(.long q1), (.int p2)] ∧ Z.Warmed39 U.vm ∧ U.heap = h0) (fun _ _ _ _ _ => True) (fun _ U o U' => ∃ v L, o = .returned v ∧ Q_rm0 Z q1 p2 h0 n0 v U'.heap L ∧ FrameEnd U o U' L room_1.cells room_1.slots) := by
  refine MetFree.of_bodySF (plainFor_of_name pn_0) hisR ?_
  intro p e s m args below meth c s₁ Bd hml0 hP hK
  obtain ⟨rfl, hZ, hh⟩ := hP
  have hx := Bd.exec
  have hby := Bd.bytes
  have hml : c.maxLocals = 8 := hml0
  have hown : s.vm.findClass "com/example/nonceward/nonceward/SilentConnectionsMostInAllPinLaw" = some m.cls := findClass_of_methodNamed Bd.named
  have hnm := (name_of_methodNamed Bd.named Bd.method).1
  have X0 : Stand p l e room_1 s m #[(.long q1), (.int p2)] below meth c s₁ [] 0 0 := Stand.of_body Bd
  have e0 : s₁.heap = h0 := by rw [← hh, Bd.state]; rfl
  have N0 := Fr.nil n0
  refine own_go (g' := (mkF m 0 #[.val (.long q1), .second, .val (.int p2), .unset, .unset, .unset, .unset, .unset] [])) (fun t k => castTop (ef_0 m (q1) (p2)) k) ?_
  obtain ⟨lim, hlim⟩ : ∃ z : Int64, z = if (p2 &&& (1 : Int32)) = (0 : Int32) then (q1 - (q1 / (5000 : Int64)) * (5000 : Int64)) else q1 := ⟨_, rfl⟩
  refine own_go (T' := s₁) (g' := (mkF m 15 #[.val (.long q1), .second, .val (.int p2), .unset, .unset, .unset, .unset, .unset] [(.long lim)])) (fun t kt => ?_) ?_
  · show Steps p.tables e below (s₁.setTop (mkF m 0 #[.val (.long q1), .second, .val (.int p2), .unset, .unset, .unset, .unset, .unset] [])) t
    refine XS.iloadN X0.here hx rfl (hb hby at_0) rfl ?_
    show Steps p.tables e below (s₁.setTop (mkF m 1 #[.val (.long q1), .second, .val (.int p2), .unset, .unset, .unset, .unset, .unset] [(.int p2)])) t
    refine XS.iconst X0.here hx rfl (hb hby at_1) ?_
    show Steps p.tables e below (s₁.setTop (mkF m 2 #[.val (.long q1), .second, .val (.int p2), .unset, .unset, .unset, .unset, .unset] [(.int (1 : Int32)), (.int p2)])) t
    refine XS.iand X0.here hx rfl (hb hby at_2) rfl ?_
    by_cases hc3 : (p2 &&& (1 : Int32)) = (0 : Int32)
    · show Steps p.tables e below (s₁.setTop (mkF m 3 #[.val (.long q1), .second, .val (.int p2), .unset, .unset, .unset, .unset, .unset] [(.int (p2 &&& (1 : Int32)))])) t
      refine XS.ifYes X0.here hx rfl (pc0 := 3) (pc' := 10) rfl (hb hby at_3) rfl ((if0 _ _).trans (teq hc3).1) (by decide) (by decide) ?_
      show Steps p.tables e below (s₁.setTop (mkF m 10 #[.val (.long q1), .second, .val (.int p2), .unset, .unset, .unset, .unset, .unset] [])) t
      refine XS.lloadN X0.here hx rfl (hb hby at_10) rfl ?_
      show Steps p.tables e below (s₁.setTop (mkF m 11 #[.val (.long q1), .second, .val (.int p2), .unset, .unset, .unset, .unset, .unset] [(.long q1)])) t
      refine X0.ldc2Long hx hown (mvT hZ (hw _ (List.mem_of_getElem? (i := 0) rfl))) (g := (mkF m 11 #[.val (.long q1), .second, .val (.int p2), .unset, .unset, .unset, .unset, .unset] [(.long q1)])) rfl (hb hby at_11) _ ?_
      show Steps p.tables e below (s₁.setTop (mkF m 14 #[.val (.long q1), .second, .val (.int p2), .unset, .unset, .unset, .unset, .unset] [(.long (5000 : Int64)), (.long q1)])) t
      refine XS.lrem X0.here hx rfl (hb hby at_14) rfl (by decide) ?_
      have hz : lim = (q1 - (q1 / (5000 : Int64)) * (5000 : Int64)) := hlim.trans (if_pos hc3)
      rw [hz] at kt
      exact kt
    · show Steps p.tables e below (s₁.setTop (mkF m 3 #[.val (.long q1), .second, .val (.int p2), .unset, .unset, .unset, .unset, .unset] [(.int (p2 &&& (1 : Int32)))])) t
      refine XS.ifNo X0.here hx rfl (hb hby at_3) rfl ((if0 _ _).trans (feq hc3).1) ?_
      show Steps p.tables e below (s₁.setTop (mkF m 6 #[.val (.long q1), .second, .val (.int p2), .unset, .unset, .unset, .unset, .unset] [])) t
      refine XS.lloadN X0.here hx rfl (hb hby at_6) rfl ?_
      show Steps p.tables e below (s₁.setTop (mkF m 7 #[.val (.long q1), .second, .val (.int p2), .unset, .unset, .unset, .unset, .unset] [(.long q1)])) t
      refine XS.goto X0.here hx rfl (pc0 := 7) (pc' := 15) rfl (hb hby at_7) (by decide) (by decide) ?_
      have hz : lim = q1 := hlim.trans (if_neg hc3)
      rw [hz] at kt
      exact kt
  refine own_go (T' := s₁) (g' := (mkF m 17 #[.val (.long q1), .second, .val (.int p2), .val (.long lim), .second, .unset, .unset, .unset] [(.long lim)])) (fun t kt => ?_) ?_
  · show Steps p.tables e below (s₁.setTop (mkF m 15 #[.val (.long q1), .second, .val (.int p2), .unset, .unset, .unset, .unset, .unset] [(.long lim)])) t
    refine XS.lstoreN X0.here hx rfl (hb hby at_15) rfl (l' := #[.val (.long q1), .second, .val (.int p2), .val (.long lim), .second, .unset, .unset, .unset]) rfl ?_
    show Steps p.tables e below (s₁.setTop (mkF m 16 #[.val (.long q1), .second, .val (.int p2), .val (.long lim), .second, .unset, .unset, .unset] [])) t
    refine XS.lloadN X0.here hx rfl (hb hby at_16) rfl ?_
    exact kt
  obtain ⟨_, _, ⟨T1, L1, k1, n1⟩, -, X1, ⟨Lc1, hQ1, l1, y1, z1⟩, st1⟩ := Jvm.LawKit.callS X0 hx (y := (⟨"com/example/nonceward/nonceward/SilentConnections", "mostInAll", "(J)I"⟩ : MethodName)) hown (mvT hZ (hw _ (List.mem_of_getElem? (i := 1) rfl))) (mvT hZ (hw _ (List.mem_of_getElem? (i := 2) rfl))) (mvT hZ (hw _ (List.mem_of_getElem? (i := 3) rfl))) (mvT hZ (hw _ (List.mem_of_getElem? (i := 4) rfl))) (by decide) (backOf (W := 0) (rmost l Z a0 hw [] (lim)  h0 n0 Z0 ) hZ (hw _ (List.mem_of_getElem? (i := 4) rfl)) (hw _ (List.mem_of_getElem? (i := 3) rfl)) (by decide) (by decide)) (g := (mkF m 17 #[.val (.long q1), .second, .val (.int p2), .val (.long lim), .second, .unset, .unset, .unset] [(.long lim)])) rfl (by rw [hml]; rfl) (argsL := [(.long lim)]) (rest := []) (lenOf pd_0 rfl) rfl (by show 2 * 0 + _ ≤ _; exact Nat.le_of_eq rfl) (hb hby at_17) (fun _ _ => ⟨rfl, e0, (by decide : 0 + 0 ≤ _), (by decide : 0 + 0 ≤ _)⟩)
  dsimp only [Pt.U, Pt.locs, Pt.cells, Pt.slots] at X1 l1 y1 z1 st1 hQ1
  subst l1 y1 z1
  obtain ⟨rfl, N1q, e1⟩ := hQ1
  have N1 := Fr.app N0 N1q
  refine own_go (g' := (mkF m 20 #[.val (.long q1), .second, .val (.int p2), .val (.long lim), .second, .unset, .unset, .unset] [(.int (own_most lim))])) st1 ?_
  refine own_go (T' := T1) (g' := (mkF m 25 #[.val (.long q1), .second, .val (.int p2), .val (.long lim), .second, .val (.int (own_most lim)), .unset, .unset] [(.int (lcmpW lim (0 : Int64)))])) (fun t kt => ?_) ?_
  · show Steps p.tables e below (T1.setTop (mkF m 20 #[.val (.long q1), .second, .val (.int p2), .val (.long lim), .second, .unset, .unset, .unset] [(.int (own_most lim))])) t
    refine XS.istore X1.here hx rfl (hb hby at_20) rfl (l' := #[.val (.long q1), .second, .val (.int p2), .val (.long lim), .second, .val (.int (own_most lim)), .unset, .unset]) rfl ?_
    show Steps p.tables e below (T1.setTop (mkF m 22 #[.val (.long q1), .second, .val (.int p2), .val (.long lim), .second, .val (.int (own_most lim)), .unset, .unset] [])) t
    refine XS.lloadN X1.here hx rfl (hb hby at_22) rfl ?_
    show Steps p.tables e below (T1.setTop (mkF m 23 #[.val (.long q1), .second, .val (.int p2), .val (.long lim), .second, .val (.int (own_most lim)), .unset, .unset] [(.long lim)])) t
    refine XS.lconst X1.here hx rfl (hb hby at_23) ?_
    show Steps p.tables e below (T1.setTop (mkF m 24 #[.val (.long q1), .second, .val (.int p2), .val (.long lim), .second, .val (.int (own_most lim)), .unset, .unset] [(.long (0 : Int64)), (.long lim)])) t
    refine XS.lcmp X1.here hx rfl (hb hby at_24) rfl ?_
    exact kt
  by_cases hc25 : (0 : Int64) < lim
  · refine own_go (T' := T1) (g' := (mkF m 76 #[.val (.long q1), .second, .val (.int p2), .val (.long lim), .second, .val (.int (own_most lim)), .val (.long ((4 : Int64) * ((own_most lim).toInt64))), .second] [(.int (1024 : Int32)), (.int (own_most lim))])) (fun t kt => ?_) ?_
    · show Steps p.tables e below (T1.setTop (mkF m 25 #[.val (.long q1), .second, .val (.int p2), .val (.long lim), .second, .val (.int (own_most lim)), .unset, .unset] [(.int (lcmpW lim (0 : Int64)))])) t
      refine XS.ifYes X1.here hx rfl (pc0 := 25) (pc' := 42) rfl (hb hby at_25) rfl ((if0 _ _).trans (tlt ((lw_gt _ _).mpr hc25)).2.2.1) (by decide) (by decide) ?_
      show Steps p.tables e below (T1.setTop (mkF m 42 #[.val (.long q1), .second, .val (.int p2), .val (.long lim), .second, .val (.int (own_most lim)), .unset, .unset] [])) t
      refine X1.ldc2Long hx hown (mvT hZ (hw _ (List.mem_of_getElem? (i := 11) rfl))) (g := (mkF m 42 #[.val (.long q1), .second, .val (.int p2), .val (.long lim), .second, .val (.int (own_most lim)), .unset, .unset] [])) rfl (hb hby at_42) _ ?_
      show Steps p.tables e below (T1.setTop (mkF m 45 #[.val (.long q1), .second, .val (.int p2), .val (.long lim), .second, .val (.int (own_most lim)), .unset, .unset] [(.long (4 : Int64))])) t
      refine XS.iload X1.here hx rfl (hb hby at_45) rfl ?_
      show Steps p.tables e below (T1.setTop (mkF m 47 #[.val (.long q1), .second, .val (.int p2), .val (.long lim), .second, .val (.int (own_most lim)), .unset, .unset] [(.int (own_most lim)), (.long (4 : Int64))])) t
      refine XS.i2l X1.here hx rfl (hb hby at_47) rfl ?_
      show Steps p.tables e below (T1.setTop (mkF m 48 #[.val (.long q1), .second, .val (.int p2), .val (.long lim), .second, .val (.int (own_most lim)), .unset, .unset] [(.long ((own_most lim).toInt64)), (.long (4 : Int64))])) t
      refine XS.lmul X1.here hx rfl (hb hby at_48) rfl ?_
      show Steps p.tables e below (T1.setTop (mkF m 49 #[.val (.long q1), .second, .val (.int p2), .val (.long lim), .second, .val (.int (own_most lim)), .unset, .unset] [(.long ((4 : Int64) * ((own_most lim).toInt64)))])) t
      refine XS.lstore X1.here hx rfl (hb hby at_49) rfl (l' := #[.val (.long q1), .second, .val (.int p2), .val (.long lim), .second, .val (.int (own_most lim)), .val (.long ((4 : Int64) * ((own_most lim).toInt64))), .second]) rfl ?_
      show Steps p.tables e below (T1.setTop (mkF m 51 #[.val (.long q1), .second, .val (.int p2), .val (.long lim), .second, .val (.int (own_most lim)), .val (.long ((4 : Int64) * ((own_most lim).toInt64))), .second] [])) t
      refine XS.iload X1.here hx rfl (hb hby at_51) rfl ?_
      show Steps p.tables e below (T1.setTop (mkF m 53 #[.val (.long q1), .second, .val (.int p2), .val (.long lim), .second, .val (.int (own_most lim)), .val (.long ((4 : Int64) * ((own_most lim).toInt64))), .second] [(.int (own_most lim))])) t
      refine XS.ifNo X1.here hx rfl (hb hby at_53) rfl ((if0 _ _).trans (flt ((own_pos lim hc25).1 : ¬ ((own_most lim) < (0 : Int32)))).1) ?_
      show Steps p.tables e below (T1.setTop (mkF m 56 #[.val (.long q1), .second, .val (.int p2), .val (.long lim), .second, .val (.int (own_most lim)), .val (.long ((4 : Int64) * ((own_most lim).toInt64))), .second] [])) t
      refine XS.iload X1.here hx rfl (hb hby at_56) rfl ?_
      show Steps p.tables e below (T1.setTop (mkF m 58 #[.val (.long q1), .second, .val (.int p2), .val (.long lim), .second, .val (.int (own_most lim)), .val (.long ((4 : Int64) * ((own_most lim).toInt64))), .second] [(.int (own_most lim))])) t
      refine XS.sipush X1.here hx rfl (hb hby at_58) ?_
      show Steps p.tables e below (T1.setTop (mkF m 61 #[.val (.long q1), .second, .val (.int p2), .val (.long lim), .second, .val (.int (own_most lim)), .val (.long ((4 : Int64) * ((own_most lim).toInt64))), .second] [(.int (1024 : Int32)), (.int (own_most lim))])) t
      refine XS.icmpNo X1.here hx rfl (hb hby at_61) rfl (flt ((own_pos lim hc25).2.1 : ¬ ((1024 : Int32) < (own_most lim)))).2.2.1 ?_
      show Steps p.tables e below (T1.setTop (mkF m 64 #[.val (.long q1), .second, .val (.int p2), .val (.long lim), .second, .val (.int (own_most lim)), .val (.long ((4 : Int64) * ((own_most lim).toInt64))), .second] [])) t
      refine XS.lload X1.here hx rfl (hb hby at_64) rfl ?_
      show Steps p.tables e below (T1.setTop (mkF m 66 #[.val (.long q1), .second, .val (.int p2), .val (.long lim), .second, .val (.int (own_most lim)), .val (.long ((4 : Int64) * ((own_most lim).toInt64))), .second] [(.long ((4 : Int64) * ((own_most lim).toInt64)))])) t
      refine XS.lloadN X1.here hx rfl (hb hby at_66) rfl ?_
      show Steps p.tables e below (T1.setTop (mkF m 67 #[.val (.long q1), .second, .val (.int p2), .val (.long lim), .second, .val (.int (own_most lim)), .val (.long ((4 : Int64) * ((own_most lim).toInt64))), .second] [(.long lim), (.long ((4 : Int64) * ((own_most lim).toInt64)))])) t
      refine XS.lcmp X1.here hx rfl (hb hby at_67) rfl ?_
      show Steps p.tables e below (T1.setTop (mkF m 68 #[.val (.long q1), .second, .val (.int p2), .val (.long lim), .second, .val (.int (own_most lim)), .val (.long ((4 : Int64) * ((own_most lim).toInt64))), .second] [(.int (lcmpW ((4 : Int64) * ((own_most lim).toInt64)) lim))])) t
      refine XS.ifNo X1.here hx rfl (hb hby at_68) rfl ((if0 _ _).trans (flt (fun q => ((own_pos lim hc25).2.2.1 : ¬ (lim < ((4 : Int64) * ((own_most lim).toInt64)))) ((lw_gt _ _).mp q))).2.2.1) ?_
      show Steps p.tables e below (T1.setTop (mkF m 71 #[.val (.long q1), .second, .val (.int p2), .val (.long lim), .second, .val (.int (own_most lim)), .val (.long ((4 : Int64) * ((own_most lim).toInt64))), .second] [])) t
      refine XS.iload X1.here hx rfl (hb hby at_71) rfl ?_
      show Steps p.tables e below (T1.setTop (mkF m 73 #[.val (.long q1), .second, .val (.int p2), .val (.long lim), .second, .val (.int (own_most lim)), .val (.long ((4 : Int64) * ((own_most lim).toInt64))), .second] [(.int (own_most lim))])) t
      refine XS.sipush X1.here hx rfl (hb hby at_73) ?_
      exact kt
    by_cases hc76 : (own_most lim) = (1024 : Int32)
    · refine own_go (T' := T1) (g' := (mkF m 95 #[.val (.long q1), .second, .val (.int p2), .val (.long lim), .second, .val (.int (own_most lim)), .val (.long ((4 : Int64) * ((own_most lim).toInt64))), .second] [(.int (1 : Int32))])) (fun t kt => ?_) ?_
      · show Steps p.tables e below (T1.setTop (mkF m 76 #[.val (.long q1), .second, .val (.int p2), .val (.long lim), .second, .val (.int (own_most lim)), .val (.long ((4 : Int64) * ((own_most lim).toInt64))), .second] [(.int (1024 : Int32)), (.int (own_most lim))])) t
        refine XS.icmpYes X1.here hx rfl (pc0 := 76) (pc' := 90) rfl (hb hby at_76) rfl (teq hc76).1 (by decide) (by decide) ?_
        show Steps p.tables e below (T1.setTop (mkF m 90 #[.val (.long q1), .second, .val (.int p2), .val (.long lim), .second, .val (.int (own_most lim)), .val (.long ((4 : Int64) * ((own_most lim).toInt64))), .second] [])) t
        refine XS.iconst X1.here hx rfl (hb hby at_90) ?_
        show Steps p.tables e below (T1.setTop (mkF m 91 #[.val (.long q1), .second, .val (.int p2), .val (.long lim), .second, .val (.int (own_most lim)), .val (.long ((4 : Int64) * ((own_most lim).toInt64))), .second] [(.int (1 : Int32))])) t
        refine XS.goto X1.here hx rfl (pc0 := 91) (pc' := 95) rfl (hb hby at_91) (by decide) (by decide) ?_
        exact kt
      obtain ⟨fs, hr, hrun, hended, hW, hsame⟩ := X1.leave (v := some (.int (1 : Int32))) (fun h => by rw [Bd.returns] at h; cases h)
      refine ⟨_, _, ?_, hrun, hended, _, _, rfl, ?_, ⟨_, rfl⟩, hW, hsame.mono (by decide) (by decide)⟩
      · exact retN X1 hx (t := .boolean) Bd.returns (by simp) (hb hby at_95) hr
      · show Q_rm0 Z q1 p2 h0 n0 _ T1.heap _
        rw [e1]
        exact ⟨rfl, N1⟩
    · refine own_go (T' := T1) (g' := (mkF m 95 #[.val (.long q1), .second, .val (.int p2), .val (.long lim), .second, .val (.int (own_most lim)), .val (.long ((4 : Int64) * ((own_most lim).toInt64))), .second] [(.int (1 : Int32))])) (fun t kt => ?_) ?_
      · show Steps p.tables e below (T1.setTop (mkF m 76 #[.val (.long q1), .second, .val (.int p2), .val (.long lim), .second, .val (.int (own_most lim)), .val (.long ((4 : Int64) * ((own_most lim).toInt64))), .second] [(.int (1024 : Int32)), (.int (own_most lim))])) t
        refine XS.icmpNo X1.here hx rfl (hb hby at_76) rfl (feq hc76).1 ?_
        show Steps p.tables e below (T1.setTop (mkF m 79 #[.val (.long q1), .second, .val (.int p2), .val (.long lim), .second, .val (.int (own_most lim)), .val (.long ((4 : Int64) * ((own_most lim).toInt64))), .second] [])) t
        refine XS.lload X1.here hx rfl (hb hby at_79) rfl ?_
        show Steps p.tables e below (T1.setTop (mkF m 81 #[.val (.long q1), .second, .val (.int p2), .val (.long lim), .second, .val (.int (own_most lim)), .val (.long ((4 : Int64) * ((own_most lim).toInt64))), .second] [(.long ((4 : Int64) * ((own_most lim).toInt64)))])) t
        refine X1.ldc2Long hx hown (mvT hZ (hw _ (List.mem_of_getElem? (i := 11) rfl))) (g := (mkF m 81 #[.val (.long q1), .second, .val (.int p2), .val (.long lim), .second, .val (.int (own_most lim)), .val (.long ((4 : Int64) * ((own_most lim).toInt64))), .second] [(.long ((4 : Int64) * ((own_most lim).toInt64)))])) rfl (hb hby at_81) _ ?_
        show Steps p.tables e below (T1.setTop (mkF m 84 #[.val (.long q1), .second, .val (.int p2), .val (.long lim), .second, .val (.int (own_most lim)), .val (.long ((4 : Int64) * ((own_most lim).toInt64))), .second] [(.long (4 : Int64)), (.long ((4 : Int64) * ((own_most lim).toInt64)))])) t
        refine XS.ladd X1.here hx rfl (hb hby at_84) rfl ?_
        show Steps p.tables e below (T1.setTop (mkF m 85 #[.val (.long q1), .second, .val (.int p2), .val (.long lim), .second, .val (.int (own_most lim)), .val (.long ((4 : Int64) * ((own_most lim).toInt64))), .second] [(.long (((4 : Int64) * ((own_most lim).toInt64)) + (4 : Int64)))])) t
        refine XS.lloadN X1.here hx rfl (hb hby at_85) rfl ?_
        show Steps p.tables e below (T1.setTop (mkF m 86 #[.val (.long q1), .second, .val (.int p2), .val (.long lim), .second, .val (.int (own_most lim)), .val (.long ((4 : Int64) * ((own_most lim).toInt64))), .second] [(.long lim), (.long (((4 : Int64) * ((own_most lim).toInt64)) + (4 : Int64)))])) t
        refine XS.lcmp X1.here hx rfl (hb hby at_86) rfl ?_
        show Steps p.tables e below (T1.setTop (mkF m 87 #[.val (.long q1), .second, .val (.int p2), .val (.long lim), .second, .val (.int (own_most lim)), .val (.long ((4 : Int64) * ((own_most lim).toInt64))), .second] [(.int (lcmpW (((4 : Int64) * ((own_most lim).toInt64)) + (4 : Int64)) lim))])) t
        refine XS.ifNo X1.here hx rfl (hb hby at_87) rfl ((if0 _ _).trans (tlt ((lw_gt _ _).mpr ((own_pos lim hc25).2.2.2 hc76 : lim < (((4 : Int64) * ((own_most lim).toInt64)) + (4 : Int64))))).2.2.2) ?_
        show Steps p.tables e below (T1.setTop (mkF m 90 #[.val (.long q1), .second, .val (.int p2), .val (.long lim), .second, .val (.int (own_most lim)), .val (.long ((4 : Int64) * ((own_most lim).toInt64))), .second] [])) t
        refine XS.iconst X1.here hx rfl (hb hby at_90) ?_
        show Steps p.tables e below (T1.setTop (mkF m 91 #[.val (.long q1), .second, .val (.int p2), .val (.long lim), .second, .val (.int (own_most lim)), .val (.long ((4 : Int64) * ((own_most lim).toInt64))), .second] [(.int (1 : Int32))])) t
        refine XS.goto X1.here hx rfl (pc0 := 91) (pc' := 95) rfl (hb hby at_91) (by decide) (by decide) ?_
        exact kt
      obtain ⟨fs, hr, hrun, hended, hW, hsame⟩ := X1.leave (v := some (.int (1 : Int32))) (fun h => by rw [Bd.returns] at h; cases h)
      refine ⟨_, _, ?_, hrun, hended, _, _, rfl, ?_, ⟨_, rfl⟩, hW, hsame.mono (by decide) (by decide)⟩
      · exact retN X1 hx (t := .boolean) Bd.returns (by simp) (hb hby at_95) hr
      · show Q_rm0 Z q1 p2 h0 n0 _ T1.heap _
        rw [e1]
        exact ⟨rfl, N1⟩
  · refine own_go (T' := T1) (g' := (mkF m 41 #[.val (.long q1), .second, .val (.int p2), .val (.long lim), .second, .val (.int (own_most lim)), .unset, .unset] [(.int (1 : Int32))])) (fun t kt => ?_) ?_
    · show Steps p.tables e below (T1.setTop (mkF m 25 #[.val (.long q1), .second, .val (.int p2), .val (.long lim), .second, .val (.int (own_most lim)), .unset, .unset] [(.int (lcmpW lim (0 : Int64)))])) t
      refine XS.ifNo X1.here hx rfl (hb hby at_25) rfl ((if0 _ _).trans (flt (fun q => hc25 ((lw_gt _ _).mp q))).2.2.1) ?_
      show Steps p.tables e below (T1.setTop (mkF m 28 #[.val (.long q1), .second, .val (.int p2), .val (.long lim), .second, .val (.int (own_most lim)), .unset, .unset] [])) t
      refine XS.iload X1.here hx rfl (hb hby at_28) rfl ?_
      show Steps p.tables e below (T1.setTop (mkF m 30 #[.val (.long q1), .second, .val (.int p2), .val (.long lim), .second, .val (.int (own_most lim)), .unset, .unset] [(.int (own_most lim))])) t
      refine XS.sipush X1.here hx rfl (hb hby at_30) ?_
      show Steps p.tables e below (T1.setTop (mkF m 33 #[.val (.long q1), .second, .val (.int p2), .val (.long lim), .second, .val (.int (own_most lim)), .unset, .unset] [(.int (1024 : Int32)), (.int (own_most lim))])) t
      refine XS.icmpNo X1.here hx rfl (hb hby at_33) rfl (teq (own_neg lim hc25 : (own_most lim) = (1024 : Int32))).2 ?_
      show Steps p.tables e below (T1.setTop (mkF m 36 #[.val (.long q1), .second, .val (.int p2), .val (.long lim), .second, .val (.int (own_most lim)), .unset, .unset] [])) t
      refine XS.iconst X1.here hx rfl (hb hby at_36) ?_
      show Steps p.tables e below (T1.setTop (mkF m 37 #[.val (.long q1), .second, .val (.int p2), .val (.long lim), .second, .val (.int (own_most lim)), .unset, .unset] [(.int (1 : Int32))])) t
      refine XS.goto X1.here hx rfl (pc0 := 37) (pc' := 41) rfl (hb hby at_37) (by decide) (by decide) ?_
      exact kt
    obtain ⟨fs, hr, hrun, hended, hW, hsame⟩ := X1.leave (v := some (.int (1 : Int32))) (fun h => by rw [Bd.returns] at h; cases h)
    refine ⟨_, _, ?_, hrun, hended, _, _, rfl, ?_, ⟨_, rfl⟩, hW, hsame.mono (by decide) (by decide)⟩
    · exact retN X1 hx (t := .boolean) Bd.returns (by simp) (hb hby at_41) hr
    · show Q_rm0 Z q1 p2 h0 n0 _ T1.heap _
      rw [e1]
      exact ⟨rfl, N1⟩
set_option maxRecDepth 65536 in
set_option maxHeartbeats 40000000 in
theorem comes_1 {Post : Tables → Env → Array Value → State → Outcome → State → Prop} (hpost : ∀ tb e args s v u, (limb_1_1.after args s (.returned v) u = true ∧ limb_1_2.after args s (.returned v) u = true ∧ True) → FrameEnd s (.returned v) u (Jvm.fieldLocs frame_1_writes args s ++ Jvm.arrayLocs frame_1_arrays args s ++ Jvm.staticLocs frame_1_statics s) 0 0 → Post tb e args s (.returned v) u) :
    ArmFor flags0 classFile x code maxLocals ret World_1 tables_1 room_1 Calls_1 rest_1 Pre_1 Post := by
  intro l hfl _ _ p e ha hc hk s m args below hf hA hF happ hP
  obtain ⟨hcalls, hrest, hpre⟩ := hP
  obtain ⟨-, -, -, hnamed, -, -, -, hat⟩ := (Spec.applies_iff hf).mp happ
  obtain ⟨hg, hn⟩ := and_e (Cond.before_iff.mp (show (Jvm.Cond.and given_1 narrow_1).before args s = true from hpre))
  obtain ⟨u0, v0⟩ := and_e hg
  obtain ⟨u1, v1⟩ := and_e v0
  obtain ⟨w0, w1, rfl⟩ : ∃ w0 w1 : Value, args = #[w0, w1] := by
    have hs : args.size = 2 := by simpa [Cond.value, given_1] using u0
    obtain ⟨L⟩ := args
    match L, hs with
    | [w0, w1], _ => exact ⟨w0, w1, rfl⟩
  have hw := fun d (hd : d ∈ tables_1) => atoms_spec (ws := Jvm.Cond.code x code maxLocals ret :: tables_1) hat d (List.mem_cons_of_mem _ hd)
  obtain ⟨i0, ei0⟩ := isL_v u1
  obtain rfl : w0 = (.long i0) := Option.some.inj ei0
  obtain ⟨i1, ei1⟩ := is_v v1
  obtain rfl : w1 = (.int i1) := Option.some.inj ei1
  obtain ⟨n, o, h1, h2, h3, _, L, rfl, ⟨rfl, N⟩, hq⟩ := rm0 l s _ hw tables_1 i0 i1  s.heap s.heap.size (Nat.le_refl _)  p e ha hc hk s m _ below hf ((Spec.applies_iff_loose hf).mp happ).1 ⟨rfl, State.Warmed39.refl s, rfl⟩ trivial
  refine ⟨n, _, h1, h2, h3, hpost _ _ _ _ _ _ ⟨Cond.after_iff.mpr rfl, Cond.after_iff.mpr (eq_i res_at (Term.int_eval (1)) rfl), trivial⟩ ⟨hq.1, hq.2.1, (hq.2.2.sift fun y hy => Or.inr (N y hy)).mono (by decide) (by decide)⟩⟩
theorem main_1_1 : Claimed_1_1 := comes_1 fun _ _ _ _ _ _ h hF => ⟨h.1, hF⟩
theorem main_1_2 : Claimed_1_2 := comes_1 fun _ _ _ _ _ _ h hF => ⟨h.2.1, hF⟩
end Jvm.Pilot.@@N@@
namespace Jvm.Pilot.@@N@@
open Jvm Jvm.ClassFile Sem Op Lib Jvm.Free Jvm.Stand Jvm.Pilot.@@N@@.Jvm.D
/-! MADE BY PROGRAM (witnessworld.py) out of the Statement's table words and the real class files: 8 classes; the members and pool entries that the words name. The judged class is class 1, her method 1. -/
namespace start1
open Jvm.ClassFile
def u (s : String) : CpInfo := .utf8 (stringToUtf16 s)
/-- a pool by its gaps: so many unusable entries, then the entry; so many at the end -/
def gap : Nat → List CpInfo → List CpInfo
  | 0, r => r
  | n + 1, r => .unusable :: gap n r
def poolList (es : List (Nat × CpInfo)) (last : Nat) : List CpInfo := es.foldr (fun e r => gap e.1 (e.2 :: r)) (gap last [])
def pool (es : List (Nat × CpInfo)) (last : Nat) : Array CpInfo := ⟨poolList es last⟩
def fileOf (pool : Array CpInfo) (this : Nat) (attrs : Array Attribute := #[]) (ms : Array MethodInfo := #[]) (fl : Nat := 33) (sup : Nat := 0) (ifs : Array Nat := #[]) (fds : Array FieldInfo := #[]) : ClassFile where
  minorVersion := 0
  majorVersion := 65
  constantPool := pool
  accessFlags := fl
  thisClass := this
  superClass := sup
  interfaces := ifs
  fields := fds
  methods := ms
  attributes := attrs
def plain (name : String) (sup : Option ClassId) : Class where
  name := name
  kind := .ordinary
  loader := none
  accessFlags := 33
  super := sup
  interfaces := #[]
  cf := none
  fields := #[]
  methods := #[]
  instanceTypes := #[]
  staticTypes := #[]
  resolved := #[]
  callSites := []
  init := .initialized
  statics := none
  mirror := none

def pool0 : Array CpInfo := pool [(5, u "<init>"), (0, u "()V"), (1, .class_ 10), (1, u "java/lang/Object")] 113

def k0m0 : Method := { name := "<init>", desc := "()V", sig := { parameters := [], returnType := none }, accessFlags := 1, code := none }
/-- java/lang/Object -/
def k0 : Class := { plain "java/lang/Object" none with
  accessFlags := 33
  interfaces := #[]
  cf := some (fileOf pool0 8 #[] #[{ accessFlags := 1, nameIndex := 5, descriptorIndex := 6, attributes := #[] }] 33 0 #[] #[])
  fields := #[]
  methods := #[k0m0]
  instanceTypes := #[]
  staticTypes := #[]
  resolved := Array.replicate 124 none
  statics := none }

def pool1 : Array CpInfo := pool [(2, .class_ 4), (1, u "java/lang/Object"), (0, u "<init>"), (0, u "()V"), (0, .long 5000), (1, .methodref 10 11), (0, .class_ 12), (0, .nameAndType 13 14), (0, u "com/example/nonceward/nonceward/SilentConnections"), (0, u "mostInAll"), (0, u "(J)I"), (0, .long 4), (1, .class_ 18), (0, u "com/example/nonceward/nonceward/SilentConnectionsMostInAllPinLaw"), (2, u "law"), (0, u "(JI)Z")] 3

def k1m0 : Method := { name := "<init>", desc := "()V", sig := { parameters := [], returnType := none }, accessFlags := 2, code := none }
def k1c1 : Code := { maxStack := 4, maxLocals := 8, code := code, exceptionTable := #[], attributes := #[] }
def k1m1 : Method := { name := "law", desc := "(JI)Z", sig := { parameters := [.long, .int], returnType := some .boolean }, accessFlags := 9, code := some k1c1 }
/-- com/example/nonceward/nonceward/SilentConnectionsMostInAllPinLaw -/
def k1 : Class := { plain "com/example/nonceward/nonceward/SilentConnectionsMostInAllPinLaw" (some 0) with
  accessFlags := 49
  interfaces := #[]
  cf := some (fileOf pool1 17 #[] #[{ accessFlags := 2, nameIndex := 5, descriptorIndex := 6, attributes := #[] }, { accessFlags := 9, nameIndex := 21, descriptorIndex := 22, attributes := #[] }] 49 2 #[] #[])
  fields := #[]
  methods := #[k1m0, k1m1]
  instanceTypes := #[]
  staticTypes := #[]
  resolved := Array.replicate 26 none
  statics := none }

def pool2 : Array CpInfo := pool [(2, .class_ 4), (1, u "java/lang/Object"), (3, .class_ 10), (1, u "com/example/nonceward/nonceward/SilentConnections"), (0, u "connections"), (0, u "Lcom/example/nonceward/nonceward/HttpServerInternals$Connections;"), (2, u "proxies"), (0, u "Ljava/util/Set;"), (2, u "mostInAll"), (0, u "I"), (2, u "sweeper"), (0, u "Lcom/example/nonceward/nonceward/Sweeper;"), (4, u "SWEEP_PERIOD"), (0, u "Ljava/time/Duration;"), (37, u "(J)I"), (3, .long 1024), (1, .long 4), (1, .methodref 77 78), (0, .class_ 79), (0, .nameAndType 80 81), (0, u "java/lang/Math"), (0, u "min"), (0, u "(JJ)J"), (42, .class_ 125), (0, u "com/example/nonceward/nonceward/SilentConnections$Kept"), (105, u "MOST_PER_CLIENT"), (2, u "MOST_IN_ALL"), (1, u "THREAD_NAME"), (0, u "Ljava/lang/String;")] 53

def k2c0 : Code := { maxStack := 6, maxLocals := 2, code := prog_52_method_4_code, exceptionTable := #[], attributes := #[] }
def k2m0 : Method := { name := "mostInAll", desc := "(J)I", sig := { parameters := [.long], returnType := some .int }, accessFlags := 8, code := some k2c0 }
/-- com/example/nonceward/nonceward/SilentConnections -/
def k2 : Class := { plain "com/example/nonceward/nonceward/SilentConnections" (some 0) with
  accessFlags := 48
  interfaces := #[]
  cf := some (fileOf pool2 8 #[.nestMembers #[124]] #[{ accessFlags := 8, nameIndex := 19, descriptorIndex := 68, attributes := #[] }] 48 2 #[] #[{ accessFlags := 24, nameIndex := 231, descriptorIndex := 20, attributes := #[] }, { accessFlags := 24, nameIndex := 234, descriptorIndex := 20, attributes := #[] }, { accessFlags := 26, nameIndex := 29, descriptorIndex := 30, attributes := #[] }, { accessFlags := 26, nameIndex := 236, descriptorIndex := 237, attributes := #[] }, { accessFlags := 18, nameIndex := 11, descriptorIndex := 12, attributes := #[] }, { accessFlags := 18, nameIndex := 15, descriptorIndex := 16, attributes := #[] }, { accessFlags := 18, nameIndex := 19, descriptorIndex := 20, attributes := #[] }, { accessFlags := 18, nameIndex := 23, descriptorIndex := 24, attributes := #[] }])
  fields := #[{ name := "MOST_PER_CLIENT", type := .int, accessFlags := 24, slot := 0, constantValue := 0 }, { name := "MOST_IN_ALL", type := .int, accessFlags := 24, slot := 1, constantValue := 0 }, { name := "SWEEP_PERIOD", type := (.object "java/time/Duration"), accessFlags := 26, slot := 2, constantValue := 0 }, { name := "THREAD_NAME", type := (.object "java/lang/String"), accessFlags := 26, slot := 3, constantValue := 0 }, { name := "connections", type := (.object "com/example/nonceward/nonceward/HttpServerInternals$Connections"), accessFlags := 18, slot := 0, constantValue := 0 }, { name := "proxies", type := (.object "java/util/Set"), accessFlags := 18, slot := 1, constantValue := 0 }, { name := "mostInAll", type := .int, accessFlags := 18, slot := 2, constantValue := 0 }, { name := "sweeper", type := (.object "com/example/nonceward/nonceward/Sweeper"), accessFlags := 18, slot := 3, constantValue := 0 }]
  methods := #[k2m0]
  instanceTypes := #[(.object "com/example/nonceward/nonceward/HttpServerInternals$Connections"), (.object "java/util/Set"), .int, (.object "com/example/nonceward/nonceward/Sweeper")]
  staticTypes := #[.int, .int, (.object "java/time/Duration"), (.object "java/lang/String")]
  resolved := Array.replicate 291 none
  statics := none }

def pool3 : Array CpInfo := pool [(1, .class_ 2), (0, u "java/lang/Math"), (1, .class_ 6), (1, u "java/lang/Object"), (0, u "<init>"), (0, u "()V"), (89, .class_ 100), (1, u "java/lang/Math$RandomNumberGeneratorHolder"), (20, u "(JJ)J"), (50, u "negativeZeroFloatBits"), (0, u "J"), (2, u "negativeZeroDoubleBits"), (24, u "min"), (43, u "$assertionsDisabled"), (0, u "Z"), (91, u "twoToTheDoubleScaleDown"), (0, u "D"), (4, u "twoToTheDoubleScaleUp"), (9, u "E"), (3, u "PI"), (2, u "TAU"), (2, u "DEGREES_TO_RADIANS"), (0, u "RADIANS_TO_DEGREES")] 94

def k3m0 : Method := { name := "<init>", desc := "()V", sig := { parameters := [], returnType := none }, accessFlags := 2, code := none }
def k3c1 : Code := { maxStack := 4, maxLocals := 4, code := jdk_29_method_70_code, exceptionTable := #[], attributes := #[] }
def k3m1 : Method := { name := "min", desc := "(JJ)J", sig := { parameters := [.long, .long], returnType := some .long }, accessFlags := 9, code := some k3c1 }
/-- java/lang/Math -/
def k3 : Class := { plain "java/lang/Math" (some 0) with
  accessFlags := 49
  interfaces := #[]
  cf := some (fileOf pool3 1 #[.nestMembers #[98]] #[{ accessFlags := 2, nameIndex := 7, descriptorIndex := 8, attributes := #[] }, { accessFlags := 9, nameIndex := 201, descriptorIndex := 121, attributes := #[] }] 49 4 #[] #[{ accessFlags := 25, nameIndex := 354, descriptorIndex := 339, attributes := #[] }, { accessFlags := 25, nameIndex := 358, descriptorIndex := 339, attributes := #[] }, { accessFlags := 25, nameIndex := 361, descriptorIndex := 339, attributes := #[] }, { accessFlags := 26, nameIndex := 364, descriptorIndex := 339, attributes := #[] }, { accessFlags := 26, nameIndex := 365, descriptorIndex := 339, attributes := #[] }, { accessFlags := 26, nameIndex := 172, descriptorIndex := 173, attributes := #[] }, { accessFlags := 26, nameIndex := 176, descriptorIndex := 173, attributes := #[] }, { accessFlags := 8, nameIndex := 344, descriptorIndex := 339, attributes := #[] }, { accessFlags := 8, nameIndex := 338, descriptorIndex := 339, attributes := #[] }, { accessFlags := 4120, nameIndex := 245, descriptorIndex := 246, attributes := #[] }])
  fields := #[{ name := "E", type := .double, accessFlags := 25, slot := 0, constantValue := 0 }, { name := "PI", type := .double, accessFlags := 25, slot := 1, constantValue := 0 }, { name := "TAU", type := .double, accessFlags := 25, slot := 2, constantValue := 0 }, { name := "DEGREES_TO_RADIANS", type := .double, accessFlags := 26, slot := 3, constantValue := 0 }, { name := "RADIANS_TO_DEGREES", type := .double, accessFlags := 26, slot := 4, constantValue := 0 }, { name := "negativeZeroFloatBits", type := .long, accessFlags := 26, slot := 5, constantValue := 0 }, { name := "negativeZeroDoubleBits", type := .long, accessFlags := 26, slot := 6, constantValue := 0 }, { name := "twoToTheDoubleScaleUp", type := .double, accessFlags := 8, slot := 7, constantValue := 0 }, { name := "twoToTheDoubleScaleDown", type := .double, accessFlags := 8, slot := 8, constantValue := 0 }, { name := "$assertionsDisabled", type := .boolean, accessFlags := 4120, slot := 9, constantValue := 0 }]
  methods := #[k3m0, k3m1]
  instanceTypes := #[]
  staticTypes := #[.double, .double, .double, .double, .double, .long, .long, .double, .double, .boolean]
  resolved := Array.replicate 460 none
  statics := none }

def pool4 : Array CpInfo := pool [(1, u "java/lang/Cloneable"), (0, .class_ 1), (0, u "java/lang/Object"), (0, .class_ 3)] 3

/-- java/lang/Cloneable -/
def k4 : Class := { plain "java/lang/Cloneable" (some 0) with
  accessFlags := 1537
  interfaces := #[]
  cf := some (fileOf pool4 2 #[] #[] 1537 4 #[] #[])
  fields := #[]
  methods := #[]
  instanceTypes := #[]
  staticTypes := #[]
  resolved := Array.replicate 8 none
  statics := none }

def pool5 : Array CpInfo := pool [(1, u "java/io/Serializable"), (0, .class_ 1), (0, u "java/lang/Object"), (0, .class_ 3)] 3

/-- java/io/Serializable -/
def k5 : Class := { plain "java/io/Serializable" (some 0) with
  accessFlags := 1537
  interfaces := #[]
  cf := some (fileOf pool5 2 #[] #[] 1537 4 #[] #[])
  fields := #[]
  methods := #[]
  instanceTypes := #[]
  staticTypes := #[]
  resolved := Array.replicate 8 none
  statics := none }

/-- the primitive byte -/
def k6 : Class := { plain "byte" none with kind := .primitive 'B', accessFlags := 0x411 }
/-- [B -/
def k7 : Class := { plain "[B" (some 0) with kind := .array 6 .byte, interfaces := #[4, 5], accessFlags := 1041 }

def heap : Heap := #[]
def classes : Array Class := #[k0, k1, k2, k3, k4, k5, k6, k7]
def interned : List (Array UInt16 × Addr) := []
def slotsUsed : Nat := 0
def theMethod : MethodId := ⟨1, 1⟩
def args0 : Array Value := #[.long 5, .int 1]
def aboutOver (below : List Frame) : State where
  vm := { classes := classes, interned := interned.toArray }
  heap := heap
  slotsUsed := slotsUsed
  threads := #[{ frames := .invoking theMethod args0 :: below }]
def below0 : List Frame := [.native { method := ⟨0, 0⟩, args := #[] }]
def about1 : State := aboutOver below0
def p0 : Program := .bare "" "" ""
def e0 : Env := launch0.env 0 0 0
theorem w_frames : about1.frames = Frame.invoking theMethod args0 :: below0 := rfl
set_option maxRecDepth 65536 in
theorem w_args : argsFit about1.vm theMethod args0 = true := by decide +kernel
set_option maxRecDepth 65536 in
theorem w_heap : heapFits about1 = true := by decide +kernel
set_option maxRecDepth 65536 in
theorem w_runnable : about1.curStatus? = some .runnable := by decide +kernel
set_option maxRecDepth 65536 in
theorem w_alone : about1.alone = true := by decide +kernel
set_option maxRecDepth 65536 in
theorem w_named : about1.methodNamed? x = some theMethod := by decide +kernel
set_option maxRecDepth 65536 in
theorem w_hears : about1.hears theMethod below0 = true := by decide +kernel
set_option maxRecDepth 65536 in
theorem w_ripe : about1.ripe theMethod args0 below0 = true := by decide +kernel
theorem w_running : about1.status = .running := rfl
set_option maxRecDepth 65536 in
theorem w_room : about1.hasRoom e0.platform room_1 = true :=
  launch0.hasRoom_least _ room_1 (by decide +kernel) (by decide +kernel) (by decide +kernel) (by decide +kernel) (by decide +kernel) (by decide +kernel)
theorem allAtoms_all (ts : List Jvm.Cond) (a : Array Jvm.Value) (st : Jvm.State) : (allAtoms ts).before a st = ts.all (fun c => c.before a st) := by
  induction ts with
  | nil => rfl
  | cons c t ih =>
    show (Jvm.Cond.and c (allAtoms t)).before a st = _
    rw [Jvm.Cond.before_and, ih, List.all_cons]
def words1 : List Jvm.Cond := Jvm.Cond.code x code maxLocals ret :: tables_1
/-- a 'code' word, met by the world's own term for the bytes: nothing is compared byte by byte -/
theorem code_word {y : MethodName} {bytes : ByteArray} {mx : Nat} {rt : Option FieldType} {a : Array Value} {s : State} {m : MethodId} {meth : Method} {c : Code} (h1 : s.methodNamed? y = some m) (h2 : s.vm.method? m = some meth) (h3 : meth.code = some c) (h4 : c.code = bytes)
    (h5 : (c.maxLocals == mx && c.exceptionTable.isEmpty && decide (c.maxStack ≤ mostOperands) && decide (meth.sig.returnType = rt) && !meth.locks && decide (parseMethodDescriptor y.desc = some meth.sig)) = true) : (Jvm.Cond.code y bytes mx rt).before a s = true := by
  simp only [Bool.and_eq_true, beq_iff_eq, Bool.not_eq_true', decide_eq_true_eq] at h5
  obtain ⟨⟨⟨⟨⟨g1, g2⟩, g3⟩, g4⟩, g5⟩, g6⟩ := h5
  simp [Cond.before, Cond.holds, Cond.value, h1, h2, h3, h4, g1, g2, g3, g4, g5, g6]
def isCode : Jvm.Cond → Bool
  | .code _ _ _ _ => true
  | _ => false
theorem all_split {L : List Jvm.Cond} {P : Jvm.Cond → Bool} (h1 : L.all (fun c => isCode c || P c) = true) (h2 : ∀ c ∈ L.filter isCode, P c = true) : L.all P = true := by
  refine List.all_eq_true.mpr fun c hc => ?_
  have h := List.all_eq_true.mp h1 c hc
  rcases Bool.eq_false_or_eq_true (isCode c) with hi | hi
  · exact h2 c (List.mem_filter.mpr ⟨hc, hi⟩)
  · simpa [hi] using h
set_option maxRecDepth 65536 in
theorem w_c0 : (Jvm.Cond.code x code maxLocals ret).before args0 about1 = true := code_word (m := ⟨1, 1⟩) (meth := k1m1) (c := k1c1) (by decide +kernel) rfl rfl rfl (by decide +kernel)
set_option maxRecDepth 65536 in
theorem w_c1 : (Jvm.Cond.code ({ cls := "com/example/nonceward/nonceward/SilentConnections", name := "mostInAll", desc := "(J)I" } : Jvm.MethodName) prog_52_method_4_code (2 : Nat) (Option.some Jvm.ClassFile.FieldType.int)).before args0 about1 = true := code_word (m := ⟨2, 0⟩) (meth := k2m0) (c := k2c0) (by decide +kernel) rfl rfl rfl (by decide +kernel)
set_option maxRecDepth 65536 in
theorem w_c2 : (Jvm.Cond.code ({ cls := "java/lang/Math", name := "min", desc := "(JJ)J" } : Jvm.MethodName) jdk_29_method_70_code (4 : Nat) (Option.some Jvm.ClassFile.FieldType.long)).before args0 about1 = true := code_word (m := ⟨3, 1⟩) (meth := k3m1) (c := k3c1) (by decide +kernel) rfl rfl rfl (by decide +kernel)
def codes1 : List Jvm.Cond := [Jvm.Cond.code x code maxLocals ret, Jvm.Cond.code ({ cls := "com/example/nonceward/nonceward/SilentConnections", name := "mostInAll", desc := "(J)I" } : Jvm.MethodName) prog_52_method_4_code (2 : Nat) (Option.some Jvm.ClassFile.FieldType.int), Jvm.Cond.code ({ cls := "java/lang/Math", name := "min", desc := "(JJ)J" } : Jvm.MethodName) jdk_29_method_70_code (4 : Nat) (Option.some Jvm.ClassFile.FieldType.long)]
set_option maxRecDepth 65536 in
theorem codes_eq : words1.filter isCode = codes1 := rfl
theorem w_codes : ∀ c ∈ words1.filter isCode, c.before args0 about1 = true := by
  rw [codes_eq]
  intro c hc
  simp only [codes1, List.mem_cons, List.not_mem_nil, or_false] at hc
  rcases hc with rfl | rfl | rfl
  · exact w_c0
  · exact w_c1
  · exact w_c2
set_option maxRecDepth 65536 in
theorem w_t1 : words1.all (fun c => isCode c || c.before args0 about1) = true := by decide +kernel
theorem w_tables : (allAtoms (Jvm.Cond.code x code maxLocals ret :: tables_1)).before args0 about1 = true := by
  rw [allAtoms_all]
  show words1.all (fun c => c.before args0 about1) = true
  refine all_split ?_ w_codes
  rw [w_t1]
set_option maxRecDepth 65536 in
theorem w_case : (Jvm.Cond.and given_1 narrow_1).before args0 about1 = true := by decide +kernel
theorem w_applies : (headSpec (Jvm.Cond.code x code maxLocals ret :: tables_1) room_1).applies x e0.platform about1 = true :=
  (Spec.applies_iff w_frames).mpr ⟨w_running, w_runnable, w_alone, w_named, w_hears, w_ripe, w_room, w_tables⟩
theorem atStart : AtStart classFile x code maxLocals ret World_1 tables_1 room_1 Calls_1 rest_1 Pre_1 launch0 p0 e0 about1 theMethod args0 below0 :=
  ⟨lists_1, trivial, launch0.admits_env _ _ _, launch0.least_env, fairChoices_fair.cas, fairChoices_fair.clock, w_frames, w_args, w_heap, w_applies, trivial, trivial, w_case⟩
end start1
theorem witness_1 : WitnessClaimed_1 := ⟨start1.p0, start1.e0, start1.about1, start1.theMethod, start1.args0, start1.below0, start1.atStart⟩
end Jvm.Pilot.@@N@@
