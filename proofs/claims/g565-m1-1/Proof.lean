import JvmDerived
import JvmDerived.Pilot.@@N@@Statement
import JvmDerived.Pilot.@@N@@Code
set_option linter.unusedVariables false
set_option linter.unusedSimpArgs false
namespace Jvm.RoadKit
open Sem ClassFile Op Lib Jvm.Stand Jvm.Free Jvm.LawKit
section New
variable {p : Program} {l : Launch} {e : Env} {R : Room} {s : State} {m : MethodId} {args : Array Value} {below : List Frame} {meth : Method} {c : Code} {T : State} {locs : List Loc} {cells slots : Nat}
theorem retI (X : Stand p l e R s m args below meth c T locs cells slots) (hx : p.tables.exec = Jvm.exec) {pc : Nat} {Ls : Array Slot} {z : Int32} {rest : List Value} (hret : meth.sig.returnType = some .int) (hd : decode c.code pc = .ok (.ireturn, 1)) {fs : List Frame}
    (hl : ∀ (f : JFrame) (acts : List Action), f.method = m → f.locked = none → f.entered = [] → (doReturn e (T.setTop f) acts (some (.int z))).1 = T.setFrames fs) : Steps p.tables e below (T.setTop (mkF m pc Ls (.int z :: rest))) (T.setFrames fs) := by
  have hm' : T.vm.method? m = some meth := X.method'
  have hn : narrow .int (.int z) = .int z := rfl
  show Steps p.tables e below (T.setTop { method := m, pc := pc, locals := Ls, stack := _ :: rest, locked := none }) _
  jvm_step X.here [X.here.top, hx, hd, hm', hret, hn]
  first | (intro acts; rw [hl _ acts rfl rfl rfl]) | rw [hl _ _ rfl rfl rfl]
  exact Steps.refl _
end New
end Jvm.RoadKit
namespace Jvm.Pilot.@@N@@
open Jvm Jvm.ClassFile Sem Op Lib Jvm.Free Jvm.Stand Jvm.LawKit Jvm.RoadKit Bundle Jvm.Pilot.@@N@@.Jvm.D
theorem own_go {tb : Tables} {e : Env} {below : List Frame} {T T' : State} {g g' : JFrame} {P : State → Outcome → Prop} (st : ∀ t, Steps tb e below (T'.setTop g') t → Steps tb e below (T.setTop g) t) (k : ∃ s₂ o, Steps tb e below (T'.setTop g') s₂ ∧ P s₂ o) : ∃ s₂ o, Steps tb e below (T.setTop g) s₂ ∧ P s₂ o := by
  obtain ⟨s₂, o, h, r⟩ := k
  exact ⟨s₂, o, st _ h, r⟩
theorem own_wS {Z : State} {a0 : Array Value} (hw : ∀ d ∈ tables_1, d.before a0 Z = true) : ∀ a ∈ Bundle.stringAtoms, a.before a0 Z = true := by
  intro a ha
  simp only [Bundle.stringAtoms, List.mem_cons, List.not_mem_nil, or_false] at ha
  rcases ha with rfl | rfl | rfl | rfl | rfl | rfl | rfl <;> first | exact hw _ (List.mem_of_getElem? (i := 5) rfl) | exact hw _ (List.mem_of_getElem? (i := 6) rfl) | exact hw _ (List.mem_of_getElem? (i := 7) rfl) | exact hw _ (List.mem_of_getElem? (i := 8) rfl) | exact hw _ (List.mem_of_getElem? (i := 9) rfl) | exact hw _ (List.mem_of_getElem? (i := 10) rfl) | exact hw _ (List.mem_of_getElem? (i := 11) rfl)
def own_fits (rel dl wd st : Int64) : Int32 := if st < rel then (0 : Int32) else if dl - wd < st then (0 : Int32) else (1 : Int32)
def own_ref (rel dl wd st : Int64) : Int32 := if st < rel then (0 : Int32) else if st < (4611686018427387904 : Int64) then (if dl < st + wd then (0 : Int32) else (1 : Int32)) else (0 : Int32)
theorem own_law (rel dl wd st : Int64) (h1 : 1 ≤ wd.toInt) (h2 : wd.toInt ≤ dl.toInt) (h3 : dl.toInt < 4611686018427387904) (h4 : 0 ≤ rel.toInt) : own_fits rel dl wd st = own_ref rel dl wd st := by
  unfold own_fits own_ref
  have e1 := c_lsub dl wd
  have e1a := Int64.le_toInt (dl - wd)
  have e1b := Int64.toInt_lt (dl - wd)
  have e2 := c_ladd st wd
  have e2a := Int64.le_toInt (st + wd)
  have e2b := Int64.toInt_lt (st + wd)
  have k : (4611686018427387904 : Int64).toInt = 4611686018427387904 := rfl
  simp only [Int64.lt_iff_toInt_lt]
  repeat' split
  all_goals first | rfl | (exfalso; omega)
theorem own_d (x : Int64) : 1 ≤ ((1 : Int64) + ((x &&& (4611686018427387903 : Int64)) - ((x &&& (4611686018427387903 : Int64)) / (4611686018427387903 : Int64)) * (4611686018427387903 : Int64))).toInt ∧ ((1 : Int64) + ((x &&& (4611686018427387903 : Int64)) - ((x &&& (4611686018427387903 : Int64)) / (4611686018427387903 : Int64)) * (4611686018427387903 : Int64))).toInt < 4611686018427387904 := by
  have h : (x &&& (4611686018427387903 : Int64)).toInt = x.toInt % (2 ^ 62 : Nat) := c_maskL x _ 62 (by decide) (by decide)
  generalize x &&& (4611686018427387903 : Int64) = y at *
  have e := (c_lrem y 4611686018427387903 4611686018427387903 rfl).1 (by omega)
  generalize y - (y / 4611686018427387903) * 4611686018427387903 = z at *
  have a := c_ladd 1 z
  have aa := Int64.le_toInt (1 + z)
  have ab := Int64.toInt_lt (1 + z)
  have k1 : (1 : Int64).toInt = 1 := rfl
  omega
theorem own_w (x dl : Int64) (h1 : 1 ≤ dl.toInt) (h2 : dl.toInt < 4611686018427387904) : 1 ≤ ((1 : Int64) + ((x &&& (4611686018427387903 : Int64)) - ((x &&& (4611686018427387903 : Int64)) / dl) * dl)).toInt ∧ ((1 : Int64) + ((x &&& (4611686018427387903 : Int64)) - ((x &&& (4611686018427387903 : Int64)) / dl) * dl)).toInt ≤ dl.toInt := by
  have h : (x &&& (4611686018427387903 : Int64)).toInt = x.toInt % (2 ^ 62 : Nat) := c_maskL x _ 62 (by decide) (by decide)
  generalize x &&& (4611686018427387903 : Int64) = y at *
  have e := (c_lrem y dl dl.toInt rfl).1 (by omega)
  have e1 := Int.emod_nonneg y.toInt (show dl.toInt ≠ 0 by omega)
  have e2 := Int.emod_lt_of_pos y.toInt (show 0 < dl.toInt by omega)
  generalize y - (y / dl) * dl = z at *
  have a := c_ladd 1 z
  have aa := Int64.le_toInt (1 + z)
  have ab := Int64.toInt_lt (1 + z)
  have k1 : (1 : Int64).toInt = 1 := rfl
  omega
theorem own_m (dl wd : Int64) (h1 : 1 ≤ wd.toInt) (h2 : wd.toInt ≤ dl.toInt) (h3 : dl.toInt < 4611686018427387904) : ((dl - wd) + (1 : Int64)).toInt = dl.toInt - wd.toInt + 1 := by
  have e1 := c_lsub dl wd
  have e1a := Int64.le_toInt (dl - wd)
  have e1b := Int64.toInt_lt (dl - wd)
  have a := c_ladd (dl - wd) 1
  have aa := Int64.le_toInt (dl - wd + 1)
  have ab := Int64.toInt_lt (dl - wd + 1)
  have k1 : (1 : Int64).toInt = 1 := rfl
  omega
theorem own_r (x b : Int64) (hb : 1 ≤ b.toInt) : 0 ≤ ((x &&& (4611686018427387903 : Int64)) - ((x &&& (4611686018427387903 : Int64)) / b) * b).toInt ∧ ((x &&& (4611686018427387903 : Int64)) - ((x &&& (4611686018427387903 : Int64)) / b) * b).toInt < b.toInt := by
  have h : (x &&& (4611686018427387903 : Int64)).toInt = x.toInt % (2 ^ 62 : Nat) := c_maskL x _ 62 (by decide) (by decide)
  generalize x &&& (4611686018427387903 : Int64) = y at *
  have e := (c_lrem y b b.toInt rfl).1 (by omega)
  have e1 := Int.emod_nonneg y.toInt (show b.toInt ≠ 0 by omega)
  have e2 := Int.emod_lt_of_pos y.toInt (show 0 < b.toInt by omega)
  omega
theorem own_nz (b : Int64) (h : 1 ≤ b.toInt) : ¬ (b = (0 : Int64)) := fun q => by
  rw [q] at h
  have : (0 : Int64).toInt = 0 := rfl
  omega
theorem own_rng (rel dl wd : Int64) (h1 : 1 ≤ wd.toInt) (h2 : wd.toInt ≤ dl.toInt) (h3 : dl.toInt < 4611686018427387904) (h4 : 0 ≤ rel.toInt) (h5 : rel.toInt < dl.toInt - wd.toInt + 1) : ¬ (rel < (0 : Int64)) ∧ rel < (4611686018427387904 : Int64) ∧ ¬ (wd < (1 : Int64)) ∧ wd < (4611686018427387904 : Int64) ∧ ¬ (dl < (0 : Int64)) ∧ dl < (4611686018427387904 : Int64) ∧ ¬ (dl < rel + wd) := by
  have k0 : (0 : Int64).toInt = 0 := rfl
  have k1 : (1 : Int64).toInt = 1 := rfl
  have k : (4611686018427387904 : Int64).toInt = 4611686018427387904 := rfl
  have e := c_ladd rel wd
  have ea := Int64.le_toInt (rel + wd)
  have eb := Int64.toInt_lt (rel + wd)
  simp only [Int64.lt_iff_toInt_lt]
  omega
theorem pn_5 : plainName "java/util/Objects" = true := by first | (simp [plainName, overriddenIn]; done) | decide +kernel
theorem ef_5 (m : MethodId) (x0 : Addr) (x1 : Addr) : entryFrame m #[(.ref x0), (.ref x1)] 2 = mkF m 0 #[.val (.ref x0), .val (.ref x1)] [] := by first | (simp [entryFrame, mkF, argsToLocals, Value.category]; done) | rfl
def Q_rnn (Z : State) (a1 : Addr) (a2 : Addr) (h0 : Heap) (n0 : Nat) (v : Option Value) (h : Heap) (L : List Loc) : Prop := v = some (.ref a1) ∧ Fr n0 L ∧ h = h0
theorem d5_0 : decode jdk_31_method_11_code 0 = .ok (.aload_n 0, 1) := by decide +kernel
theorem d5_1 : decode jdk_31_method_11_code 1 = .ok (.ifnonnull 12, 3) := by decide +kernel
theorem d5_13 : decode jdk_31_method_11_code 13 = .ok (.aload_n 0, 1) := by decide +kernel
theorem d5_14 : decode jdk_31_method_11_code 14 = .ok (.areturn, 1) := by decide +kernel
set_option maxRecDepth 65536 in
set_option maxHeartbeats 40000000 in
theorem rnn (l : Launch) (Z : State) (a0 : Array Value) (hw : ∀ d ∈ tables_1, d.before a0 Z = true) (ws : List Jvm.Cond) (a1 : Addr) (a2 : Addr) (h0 : Heap) (n0 : Nat) (Z0 : n0 ≤ h0.size)  :
    MetFree l (⟨"java/util/Objects", "requireNonNull", "(Ljava/lang/Object;Ljava/lang/String;)Ljava/lang/Object;"⟩ : MethodName) (head1 (Jvm.Cond.code (⟨"java/util/Objects", "requireNonNull", "(Ljava/lang/Object;Ljava/lang/String;)Ljava/lang/Object;"⟩ : MethodName) jdk_31_method_11_code 2 (some (.object "java/lang/Object")) :: ws) ({ frames := 0, cells := 0, slots := 0, locals := 0 } : Room)) (fun a U => a = #[(.ref a1), (.ref a2)] ∧ Z.Warmed39 U.vm ∧ U.heap = h0) (fun _ _ _ _ _ => True) (fun _ U o U' => ∃ v L, o = .returned v ∧ Q_rnn Z a1 a2 h0 n0 v U'.heap L ∧ FrameEnd U o U' L ({ frames := 0, cells := 0, slots := 0, locals := 0 } : Room).cells ({ frames := 0, cells := 0, slots := 0, locals := 0 } : Room).slots) := by
  refine MetFree.of_bodySF (plainFor_of_name pn_5) hisR ?_
  intro p e s m args below meth c s₁ Bd hml0 hP hK
  obtain ⟨rfl, hZ, hh⟩ := hP
  have hx := Bd.exec
  have hby := Bd.bytes
  have hml : c.maxLocals = 2 := hml0
  have hown : s.vm.findClass "java/util/Objects" = some m.cls := findClass_of_methodNamed Bd.named
  have hnm := (name_of_methodNamed Bd.named Bd.method).1
  have X0 : Stand p l e ({ frames := 0, cells := 0, slots := 0, locals := 0 } : Room) s m #[(.ref a1), (.ref a2)] below meth c s₁ [] 0 0 := Stand.of_body Bd
  have e0 : s₁.heap = h0 := by rw [← hh, Bd.state]; rfl
  have N0 := Fr.nil n0
  refine own_go (g' := (mkF m 0 #[.val (.ref a1), .val (.ref a2)] [])) (fun t k => castTop (ef_5 m (a1) (a2)) k) ?_
  refine own_go (T' := s₁) (g' := (mkF m 14 #[.val (.ref a1), .val (.ref a2)] [(.ref a1)])) (fun t kt => ?_) ?_
  · show Steps p.tables e below (s₁.setTop (mkF m 0 #[.val (.ref a1), .val (.ref a2)] [])) t
    refine XS.aloadN X0.here hx rfl (hb hby d5_0) rfl rfl ?_
    show Steps p.tables e below (s₁.setTop (mkF m 1 #[.val (.ref a1), .val (.ref a2)] [(.ref a1)])) t
    refine XS.ifnonnullYes X0.here hx rfl (pc0 := 1) (pc' := 13) rfl (hb hby d5_1) rfl (by decide) (by decide) ?_
    show Steps p.tables e below (s₁.setTop (mkF m 13 #[.val (.ref a1), .val (.ref a2)] [])) t
    refine XS.aloadN X0.here hx rfl (hb hby d5_13) rfl rfl ?_
    exact kt
  obtain ⟨fs, hr, hrun, hended, hW, hsame⟩ := X0.leave (v := some (.ref a1)) (fun h => by rw [Bd.returns] at h; cases h)
  refine ⟨_, _, ?_, hrun, hended, _, _, rfl, ?_, ⟨_, rfl⟩, hW, hsame.mono (by decide) (by decide)⟩
  · show Steps p.tables e below (s₁.setTop (mkF m 14 #[.val (.ref a1), .val (.ref a2)] [(.ref a1)])) _
    jvm_step X0.here [X0.here.top, hx, (hb hby d5_14), X0.method', Bd.returns, Value.isRef, FieldType.isReference]
    first | (intro acts; rw [hr _ acts rfl rfl rfl]) | rw [hr _ _ rfl rfl rfl]
    exact Steps.refl _
  · show Q_rnn Z _ _ h0 n0 _ s₁.heap _
    rw [e0]
    exact ⟨rfl, N0, rfl⟩
theorem pn_6 : plainName "java/lang/String" = true := by first | (simp [plainName, overriddenIn]; done) | decide +kernel
theorem ef_6 (m : MethodId) (x0 : Addr) : entryFrame m #[(.ref x0)] 1 = mkF m 0 #[.val (.ref x0)] [] := by first | (simp [entryFrame, mkF, argsToLocals, Value.category]; done) | rfl
def Q_rise (Z : State) (a1 : Addr) (sv : Addr) (ks : ClassId) (cs : Int32) (fv : Value) (h0 : Heap) (n0 : Nat) (v : Option Value) (h : Heap) (L : List Loc) : Prop := v = some (.int (0 : Int32)) ∧ Fr n0 L ∧ h = h0
theorem d6_0 : decode jdk_42_method_55_code 0 = .ok (.aload_n 0, 1) := by decide +kernel
theorem d6_1 : decode jdk_42_method_55_code 1 = .ok (.getfield 9, 3) := by decide +kernel
theorem d6_4 : decode jdk_42_method_55_code 4 = .ok (.arraylength, 1) := by decide +kernel
theorem d6_5 : decode jdk_42_method_55_code 5 = .ok (.ifCond .ne 7, 3) := by decide +kernel
theorem d6_12 : decode jdk_42_method_55_code 12 = .ok (.iconst 0, 1) := by decide +kernel
theorem d6_13 : decode jdk_42_method_55_code 13 = .ok (.ireturn, 1) := by decide +kernel
set_option maxRecDepth 65536 in
set_option maxHeartbeats 40000000 in
theorem rise (l : Launch) (Z : State) (a0 : Array Value) (hw : ∀ d ∈ tables_1, d.before a0 Z = true) (ws : List Jvm.Cond) (a1 : Addr) (sv : Addr) (ks : ClassId) (cs : Int32) (fv : Value) (h0 : Heap) (n0 : Nat) (Z0 : n0 ≤ h0.size) (Es : Exa Z h0 a1 "java/lang/String") (Fc : Fld Z h0 a1 "java/lang/String" "coder" "B" (.int (0 : Int32))) (Fv : Fld Z h0 a1 "java/lang/String" "value" "[B" (.ref sv)) (Vs : Arv Z h0 sv ks .byte (1 : Int32) [(.int (106 : Int32))] (.int (0 : Int32))) (O0 : Old Z n0 h0) (S1 : Sta Z Z.heap "java/lang/String" "COMPACT_STRINGS" "Z" (.int cs)) (hcs : ¬ (cs = (0 : Int32))) (S2 : Sta Z Z.heap "jdk/internal/util/Preconditions" "SIOOBE_FORMATTER" "Ljava/util/function/BiFunction;" fv) (rf : fv.isRef = true) :
    MetFree l (⟨"java/lang/String", "isEmpty", "()Z"⟩ : MethodName) (head1 (Jvm.Cond.code (⟨"java/lang/String", "isEmpty", "()Z"⟩ : MethodName) jdk_42_method_55_code 1 (some .boolean) :: ws) ({ frames := 0, cells := 0, slots := 0, locals := 0 } : Room)) (fun a U => a = #[(.ref a1)] ∧ Z.Warmed39 U.vm ∧ U.heap = h0) (fun _ _ _ _ _ => True) (fun _ U o U' => ∃ v L, o = .returned v ∧ Q_rise Z a1 sv ks cs fv h0 n0 v U'.heap L ∧ FrameEnd U o U' L ({ frames := 0, cells := 0, slots := 0, locals := 0 } : Room).cells ({ frames := 0, cells := 0, slots := 0, locals := 0 } : Room).slots) := by
  refine MetFree.of_bodySF (plainFor_of_name pn_6) hisR ?_
  intro p e s m args below meth c s₁ Bd hml0 hP hK
  obtain ⟨rfl, hZ, hh⟩ := hP
  have hx := Bd.exec
  have hby := Bd.bytes
  have hml : c.maxLocals = 1 := hml0
  have hown : s.vm.findClass "java/lang/String" = some m.cls := findClass_of_methodNamed Bd.named
  have hnm := (name_of_methodNamed Bd.named Bd.method).1
  have X0 : Stand p l e ({ frames := 0, cells := 0, slots := 0, locals := 0 } : Room) s m #[(.ref a1)] below meth c s₁ [] 0 0 := Stand.of_body Bd
  have e0 : s₁.heap = h0 := by rw [← hh, Bd.state]; rfl
  have N0 := Fr.nil n0
  refine own_go (g' := (mkF m 0 #[.val (.ref a1)] [])) (fun t k => castTop (ef_6 m (a1)) k) ?_
  refine own_go (T' := s₁) (g' := (mkF m 1 #[.val (.ref a1)] [(.ref a1)])) (fun t kt => ?_) ?_
  · show Steps p.tables e below (s₁.setTop (mkF m 0 #[.val (.ref a1)] [])) t
    refine XS.aloadN X0.here hx rfl (hb hby d6_0) rfl rfl ?_
    exact kt
  obtain ⟨T_1, X_1, e_1, st_1⟩ := getF X0 hx hZ hown (host := "") (Or.inl (hw _ (List.mem_of_getElem? (i := 36) rfl))) Via.refl e0 Fv (g := (mkF m 1 #[.val (.ref a1)] [(.ref a1)])) rfl rfl (hb hby d6_1)
  refine own_go (g' := (mkF m 4 #[.val (.ref a1)] [(.ref sv)])) st_1 ?_
  have vq_2 := Vs
  obtain ⟨c_2, a_2, -, s_2, m_2, -, -⟩ := vq_2
  refine own_go (T' := T_1) (g' := (mkF m 5 #[.val (.ref a1)] [(.int (1 : Int32))])) (fun t kt => ?_) ?_
  · refine X_1.arraylength hx (by rw [e_1]; exact a_2.1) (State.isArrayOf_alike hZ.alike a_2.2.1) (g := (mkF m 4 #[.val (.ref a1)] [(.ref sv)])) rfl rfl (hb hby d6_4) _ ?_
    rw [len_of s_2 m_2]
    exact kt
  refine own_go (T' := T_1) (g' := (mkF m 13 #[.val (.ref a1)] [(.int (0 : Int32))])) (fun t kt => ?_) ?_
  · show Steps p.tables e below (T_1.setTop (mkF m 5 #[.val (.ref a1)] [(.int (1 : Int32))])) t
    refine XS.ifYes X_1.here hx rfl (pc0 := 5) (pc' := 12) rfl (hb hby d6_5) rfl ((if0 _ _).trans (feq (by decide : ¬ ((1 : Int32) = (0 : Int32)))).2) (by decide) (by decide) ?_
    show Steps p.tables e below (T_1.setTop (mkF m 12 #[.val (.ref a1)] [])) t
    refine XS.iconst X_1.here hx rfl (hb hby d6_12) ?_
    exact kt
  obtain ⟨fs, hr, hrun, hended, hW, hsame⟩ := X_1.leave (v := some (.int (0 : Int32))) (fun h => by rw [Bd.returns] at h; cases h)
  refine ⟨_, _, ?_, hrun, hended, _, _, rfl, ?_, ⟨_, rfl⟩, hW, hsame.mono (by decide) (by decide)⟩
  · exact retN X_1 hx (t := .boolean) Bd.returns (by simp) (hb hby d6_13) hr
  · show Q_rise Z _ _ _ _ _ h0 n0 _ T_1.heap _
    rw [e_1]
    exact ⟨rfl, N0, rfl⟩
theorem pn_8 : plainName "java/lang/String" = true := by first | (simp [plainName, overriddenIn]; done) | decide +kernel
theorem ef_8 (m : MethodId) (x0 : Addr) : entryFrame m #[(.ref x0)] 1 = mkF m 0 #[.val (.ref x0)] [] := by first | (simp [entryFrame, mkF, argsToLocals, Value.category]; done) | rfl
def Q_rcod (Z : State) (a1 : Addr) (sv : Addr) (ks : ClassId) (cs : Int32) (fv : Value) (h0 : Heap) (n0 : Nat) (v : Option Value) (h : Heap) (L : List Loc) : Prop := v = some (.int (0 : Int32)) ∧ Fr n0 L ∧ h = h0
theorem d8_0 : decode jdk_42_method_152_code 0 = .ok (.getstatic 38, 3) := by decide +kernel
theorem d8_3 : decode jdk_42_method_152_code 3 = .ok (.ifCond .eq 10, 3) := by decide +kernel
theorem d8_6 : decode jdk_42_method_152_code 6 = .ok (.aload_n 0, 1) := by decide +kernel
theorem d8_7 : decode jdk_42_method_152_code 7 = .ok (.getfield 15, 3) := by decide +kernel
theorem d8_10 : decode jdk_42_method_152_code 10 = .ok (.goto 4, 3) := by decide +kernel
theorem d8_14 : decode jdk_42_method_152_code 14 = .ok (.ireturn, 1) := by decide +kernel
set_option maxRecDepth 65536 in
set_option maxHeartbeats 40000000 in
theorem rcod (l : Launch) (Z : State) (a0 : Array Value) (hw : ∀ d ∈ tables_1, d.before a0 Z = true) (ws : List Jvm.Cond) (a1 : Addr) (sv : Addr) (ks : ClassId) (cs : Int32) (fv : Value) (h0 : Heap) (n0 : Nat) (Z0 : n0 ≤ h0.size) (Es : Exa Z h0 a1 "java/lang/String") (Fc : Fld Z h0 a1 "java/lang/String" "coder" "B" (.int (0 : Int32))) (Fv : Fld Z h0 a1 "java/lang/String" "value" "[B" (.ref sv)) (Vs : Arv Z h0 sv ks .byte (1 : Int32) [(.int (106 : Int32))] (.int (0 : Int32))) (O0 : Old Z n0 h0) (S1 : Sta Z Z.heap "java/lang/String" "COMPACT_STRINGS" "Z" (.int cs)) (hcs : ¬ (cs = (0 : Int32))) (S2 : Sta Z Z.heap "jdk/internal/util/Preconditions" "SIOOBE_FORMATTER" "Ljava/util/function/BiFunction;" fv) (rf : fv.isRef = true) :
    MetFree l (⟨"java/lang/String", "coder", "()B"⟩ : MethodName) (head1 (Jvm.Cond.code (⟨"java/lang/String", "coder", "()B"⟩ : MethodName) jdk_42_method_152_code 1 (some .byte) :: ws) ({ frames := 0, cells := 0, slots := 0, locals := 0 } : Room)) (fun a U => a = #[(.ref a1)] ∧ Z.Warmed39 U.vm ∧ U.heap = h0) (fun _ _ _ _ _ => True) (fun _ U o U' => ∃ v L, o = .returned v ∧ Q_rcod Z a1 sv ks cs fv h0 n0 v U'.heap L ∧ FrameEnd U o U' L ({ frames := 0, cells := 0, slots := 0, locals := 0 } : Room).cells ({ frames := 0, cells := 0, slots := 0, locals := 0 } : Room).slots) := by
  refine MetFree.of_bodySF (plainFor_of_name pn_8) hisR ?_
  intro p e s m args below meth c s₁ Bd hml0 hP hK
  obtain ⟨rfl, hZ, hh⟩ := hP
  have hx := Bd.exec
  have hby := Bd.bytes
  have hml : c.maxLocals = 1 := hml0
  have hown : s.vm.findClass "java/lang/String" = some m.cls := findClass_of_methodNamed Bd.named
  have hnm := (name_of_methodNamed Bd.named Bd.method).1
  have X0 : Stand p l e ({ frames := 0, cells := 0, slots := 0, locals := 0 } : Room) s m #[(.ref a1)] below meth c s₁ [] 0 0 := Stand.of_body Bd
  have e0 : s₁.heap = h0 := by rw [← hh, Bd.state]; rfl
  have N0 := Fr.nil n0
  refine own_go (g' := (mkF m 0 #[.val (.ref a1)] [])) (fun t k => castTop (ef_8 m (a1)) k) ?_
  obtain ⟨T_1, X_1, e_1, st_1⟩ := getS2 X0 hx hZ hown (host := "") (Or.inl (hw _ (List.mem_of_getElem? (i := 47) rfl))) Via.refl e0 (Sta.ext O0.2 S1) (g := (mkF m 0 #[.val (.ref a1)] [])) rfl (hb hby d8_0)
  refine own_go (g' := (mkF m 3 #[.val (.ref a1)] [(.int cs)])) st_1 ?_
  refine own_go (T' := T_1) (g' := (mkF m 7 #[.val (.ref a1)] [(.ref a1)])) (fun t kt => ?_) ?_
  · show Steps p.tables e below (T_1.setTop (mkF m 3 #[.val (.ref a1)] [(.int cs)])) t
    refine XS.ifNo X_1.here hx rfl (hb hby d8_3) rfl ((if0 _ _).trans (feq (hcs : ¬ (cs = (0 : Int32)))).1) ?_
    show Steps p.tables e below (T_1.setTop (mkF m 6 #[.val (.ref a1)] [])) t
    refine XS.aloadN X_1.here hx rfl (hb hby d8_6) rfl rfl ?_
    exact kt
  obtain ⟨T_2, X_2, e_2, st_2⟩ := getF X_1 hx hZ hown (host := "") (Or.inl (hw _ (List.mem_of_getElem? (i := 48) rfl))) Via.refl e_1 Fc (g := (mkF m 7 #[.val (.ref a1)] [(.ref a1)])) rfl rfl (hb hby d8_7)
  refine own_go (g' := (mkF m 10 #[.val (.ref a1)] [(.int (0 : Int32))])) st_2 ?_
  refine own_go (T' := T_2) (g' := (mkF m 14 #[.val (.ref a1)] [(.int (0 : Int32))])) (fun t kt => ?_) ?_
  · show Steps p.tables e below (T_2.setTop (mkF m 10 #[.val (.ref a1)] [(.int (0 : Int32))])) t
    refine XS.goto X_2.here hx rfl (pc0 := 10) (pc' := 14) rfl (hb hby d8_10) (by decide) (by decide) ?_
    exact kt
  obtain ⟨fs, hr, hrun, hended, hW, hsame⟩ := X_2.leave (v := some (.int (0 : Int32))) (fun h => by rw [Bd.returns] at h; cases h)
  refine ⟨_, _, ?_, hrun, hended, _, _, rfl, ?_, ⟨_, rfl⟩, hW, hsame.mono (by decide) (by decide)⟩
  · exact retN X_2 hx (t := .byte) Bd.returns (by simp) (hb hby d8_14) hr
  · show Q_rcod Z _ _ _ _ _ h0 n0 _ T_2.heap _
    rw [e_2]
    exact ⟨rfl, N0, rfl⟩
theorem pn_7 : plainName "java/lang/String" = true := by first | (simp [plainName, overriddenIn]; done) | decide +kernel
theorem ef_7 (m : MethodId) (x0 : Addr) : entryFrame m #[(.ref x0)] 1 = mkF m 0 #[.val (.ref x0)] [] := by first | (simp [entryFrame, mkF, argsToLocals, Value.category]; done) | rfl
def Q_rlen (Z : State) (a1 : Addr) (sv : Addr) (ks : ClassId) (cs : Int32) (fv : Value) (h0 : Heap) (n0 : Nat) (v : Option Value) (h : Heap) (L : List Loc) : Prop := v = some (.int (1 : Int32)) ∧ Fr n0 L ∧ h = h0
theorem d7_0 : decode jdk_42_method_54_code 0 = .ok (.aload_n 0, 1) := by decide +kernel
theorem d7_1 : decode jdk_42_method_54_code 1 = .ok (.getfield 9, 3) := by decide +kernel
theorem d7_4 : decode jdk_42_method_54_code 4 = .ok (.arraylength, 1) := by decide +kernel
theorem d7_5 : decode jdk_42_method_54_code 5 = .ok (.aload_n 0, 1) := by decide +kernel
theorem d7_6 : decode jdk_42_method_54_code 6 = .ok (.invokevirtual 335, 3) := by decide +kernel
theorem pd_6 : parseMethodDescriptor "()B" = some ⟨[], some .byte⟩ := by decide +kernel
theorem d7_9 : decode jdk_42_method_54_code 9 = .ok (.ishr, 1) := by decide +kernel
theorem d7_10 : decode jdk_42_method_54_code 10 = .ok (.ireturn, 1) := by decide +kernel
set_option maxRecDepth 65536 in
set_option maxHeartbeats 40000000 in
theorem rlen (l : Launch) (Z : State) (a0 : Array Value) (hw : ∀ d ∈ tables_1, d.before a0 Z = true) (ws : List Jvm.Cond) (a1 : Addr) (sv : Addr) (ks : ClassId) (cs : Int32) (fv : Value) (h0 : Heap) (n0 : Nat) (Z0 : n0 ≤ h0.size) (Es : Exa Z h0 a1 "java/lang/String") (Fc : Fld Z h0 a1 "java/lang/String" "coder" "B" (.int (0 : Int32))) (Fv : Fld Z h0 a1 "java/lang/String" "value" "[B" (.ref sv)) (Vs : Arv Z h0 sv ks .byte (1 : Int32) [(.int (106 : Int32))] (.int (0 : Int32))) (O0 : Old Z n0 h0) (S1 : Sta Z Z.heap "java/lang/String" "COMPACT_STRINGS" "Z" (.int cs)) (hcs : ¬ (cs = (0 : Int32))) (S2 : Sta Z Z.heap "jdk/internal/util/Preconditions" "SIOOBE_FORMATTER" "Ljava/util/function/BiFunction;" fv) (rf : fv.isRef = true) :
    MetFree l (⟨"java/lang/String", "length", "()I"⟩ : MethodName) (head1 (Jvm.Cond.code (⟨"java/lang/String", "length", "()I"⟩ : MethodName) jdk_42_method_54_code 1 (some .int) :: ws) ({ frames := 1, cells := 0, slots := 0, locals := 16 } : Room)) (fun a U => a = #[(.ref a1)] ∧ Z.Warmed39 U.vm ∧ U.heap = h0) (fun _ _ _ _ _ => True) (fun _ U o U' => ∃ v L, o = .returned v ∧ Q_rlen Z a1 sv ks cs fv h0 n0 v U'.heap L ∧ FrameEnd U o U' L ({ frames := 1, cells := 0, slots := 0, locals := 16 } : Room).cells ({ frames := 1, cells := 0, slots := 0, locals := 16 } : Room).slots) := by
  refine MetFree.of_bodySF (plainFor_of_name pn_7) hisR ?_
  intro p e s m args below meth c s₁ Bd hml0 hP hK
  obtain ⟨rfl, hZ, hh⟩ := hP
  have hx := Bd.exec
  have hby := Bd.bytes
  have hml : c.maxLocals = 1 := hml0
  have hown : s.vm.findClass "java/lang/String" = some m.cls := findClass_of_methodNamed Bd.named
  have hnm := (name_of_methodNamed Bd.named Bd.method).1
  have X0 : Stand p l e ({ frames := 1, cells := 0, slots := 0, locals := 16 } : Room) s m #[(.ref a1)] below meth c s₁ [] 0 0 := Stand.of_body Bd
  have e0 : s₁.heap = h0 := by rw [← hh, Bd.state]; rfl
  have N0 := Fr.nil n0
  refine own_go (g' := (mkF m 0 #[.val (.ref a1)] [])) (fun t k => castTop (ef_7 m (a1)) k) ?_
  refine own_go (T' := s₁) (g' := (mkF m 1 #[.val (.ref a1)] [(.ref a1)])) (fun t kt => ?_) ?_
  · show Steps p.tables e below (s₁.setTop (mkF m 0 #[.val (.ref a1)] [])) t
    refine XS.aloadN X0.here hx rfl (hb hby d7_0) rfl rfl ?_
    exact kt
  obtain ⟨T_1, X_1, e_1, st_1⟩ := getF X0 hx hZ hown (host := "") (Or.inl (hw _ (List.mem_of_getElem? (i := 36) rfl))) Via.refl e0 Fv (g := (mkF m 1 #[.val (.ref a1)] [(.ref a1)])) rfl rfl (hb hby d7_1)
  refine own_go (g' := (mkF m 4 #[.val (.ref a1)] [(.ref sv)])) st_1 ?_
  have vq_2 := Vs
  obtain ⟨c_2, a_2, -, s_2, m_2, -, -⟩ := vq_2
  refine own_go (T' := T_1) (g' := (mkF m 5 #[.val (.ref a1)] [(.int (1 : Int32))])) (fun t kt => ?_) ?_
  · refine X_1.arraylength hx (by rw [e_1]; exact a_2.1) (State.isArrayOf_alike hZ.alike a_2.2.1) (g := (mkF m 4 #[.val (.ref a1)] [(.ref sv)])) rfl rfl (hb hby d7_4) _ ?_
    rw [len_of s_2 m_2]
    exact kt
  refine own_go (T' := T_1) (g' := (mkF m 6 #[.val (.ref a1)] [(.ref a1), (.int (1 : Int32))])) (fun t kt => ?_) ?_
  · show Steps p.tables e below (T_1.setTop (mkF m 5 #[.val (.ref a1)] [(.int (1 : Int32))])) t
    refine XS.aloadN X_1.here hx rfl (hb hby d7_5) rfl rfl ?_
    exact kt
  obtain ⟨cq_3, kq_3, q_3a, q_3b, q_3c⟩ := isOf hZ e_1 Es
  obtain ⟨_, _, ⟨T_3, L_3, k_3, n_3⟩, -, X_3, ⟨Lc_3, hQ_3, l_3, y_3, z_3⟩, st_3⟩ := X_1.virtualBack hx (y := (⟨"java/lang/String", "coder", "()B"⟩ : MethodName)) (z := (⟨"java/lang/String", "coder", "()B"⟩ : MethodName)) hown (mvT hZ (hw _ (List.mem_of_getElem? (i := 42) rfl))) (mvT hZ (hw _ (List.mem_of_getElem? (i := 43) rfl))) (notFace_of_selects (args := #[]) (mvT hZ (hw _ (List.mem_of_getElem? (i := 45) rfl)))) (mvT hZ (hw _ (List.mem_of_getElem? (i := 45) rfl))) (mvT hZ (hw _ (List.mem_of_getElem? (i := 44) rfl))) (by decide) (backOf (W := 1) (rcod l Z a0 hw [] (a1) sv ks cs fv h0 n0 Z0 Es Fc Fv Vs O0 S1 hcs S2 rf) hZ (hw _ (List.mem_of_getElem? (i := 46) rfl)) (hw _ (List.mem_of_getElem? (i := 5) rfl)) (by decide) (by decide)) q_3a q_3c (g := (mkF m 6 #[.val (.ref a1)] [(.ref a1), (.int (1 : Int32))])) rfl (by rw [hml]; rfl) (Steps.refl _) (argsL := []) (rest := [(.int (1 : Int32))]) (lenOf pd_6 rfl) rfl (by show 2 * 0 + _ ≤ _; exact Nat.le_of_eq rfl) (hb hby d7_6) (fun _ _ => ⟨rfl, e_1, (by decide : 0 + 0 ≤ _), (by decide : 0 + 0 ≤ _)⟩)
  dsimp only [Pt.U, Pt.locs, Pt.cells, Pt.slots] at X_3 l_3 y_3 z_3 st_3 hQ_3
  subst l_3 y_3 z_3
  obtain ⟨rfl, N_3q, e_3⟩ := hQ_3
  have N_3 := Fr.app N0 N_3q
  refine own_go (g' := (mkF m 9 #[.val (.ref a1)] [(.int (0 : Int32)), (.int (1 : Int32))])) (fun t kt => st_3.trans kt) ?_
  refine own_go (T' := T_3) (g' := (mkF m 10 #[.val (.ref a1)] [(.int ((1 : Int32) >>> ((0 : Int32) &&& 31)))])) (fun t kt => ?_) ?_
  · show Steps p.tables e below (T_3.setTop (mkF m 9 #[.val (.ref a1)] [(.int (0 : Int32)), (.int (1 : Int32))])) t
    refine XS.ishr X_3.here hx rfl (hb hby d7_9) rfl ?_
    exact kt
  obtain ⟨fs, hr, hrun, hended, hW, hsame⟩ := X_3.leave (v := some (.int ((1 : Int32) >>> ((0 : Int32) &&& 31)))) (fun h => by rw [Bd.returns] at h; cases h)
  refine ⟨_, _, ?_, hrun, hended, _, _, rfl, ?_, ⟨_, rfl⟩, hW, hsame.mono (by decide) (by decide)⟩
  · exact retI X_3 hx Bd.returns (hb hby d7_10) hr
  · show Q_rlen Z _ _ _ _ _ h0 n0 _ T_3.heap _
    rw [e_3]
    exact ⟨congrArg (fun z => some (Value.int z)) (by decide), N_3, rfl⟩
theorem pn_10 : plainName "java/lang/String" = true := by first | (simp [plainName, overriddenIn]; done) | decide +kernel
theorem ef_10 (m : MethodId) (x0 : Addr) : entryFrame m #[(.ref x0)] 1 = mkF m 0 #[.val (.ref x0)] [] := by first | (simp [entryFrame, mkF, argsToLocals, Value.category]; done) | rfl
def Q_rlat (Z : State) (a1 : Addr) (sv : Addr) (ks : ClassId) (cs : Int32) (fv : Value) (h0 : Heap) (n0 : Nat) (v : Option Value) (h : Heap) (L : List Loc) : Prop := v = some (.int (1 : Int32)) ∧ Fr n0 L ∧ h = h0
theorem d10_0 : decode jdk_42_method_154_code 0 = .ok (.getstatic 38, 3) := by decide +kernel
theorem d10_3 : decode jdk_42_method_154_code 3 = .ok (.ifCond .eq 14, 3) := by decide +kernel
theorem d10_6 : decode jdk_42_method_154_code 6 = .ok (.aload_n 0, 1) := by decide +kernel
theorem d10_7 : decode jdk_42_method_154_code 7 = .ok (.getfield 15, 3) := by decide +kernel
theorem d10_10 : decode jdk_42_method_154_code 10 = .ok (.ifCond .ne 7, 3) := by decide +kernel
theorem d10_13 : decode jdk_42_method_154_code 13 = .ok (.iconst 1, 1) := by decide +kernel
theorem d10_14 : decode jdk_42_method_154_code 14 = .ok (.goto 4, 3) := by decide +kernel
theorem d10_18 : decode jdk_42_method_154_code 18 = .ok (.ireturn, 1) := by decide +kernel
set_option maxRecDepth 65536 in
set_option maxHeartbeats 40000000 in
theorem rlat (l : Launch) (Z : State) (a0 : Array Value) (hw : ∀ d ∈ tables_1, d.before a0 Z = true) (ws : List Jvm.Cond) (a1 : Addr) (sv : Addr) (ks : ClassId) (cs : Int32) (fv : Value) (h0 : Heap) (n0 : Nat) (Z0 : n0 ≤ h0.size) (Es : Exa Z h0 a1 "java/lang/String") (Fc : Fld Z h0 a1 "java/lang/String" "coder" "B" (.int (0 : Int32))) (Fv : Fld Z h0 a1 "java/lang/String" "value" "[B" (.ref sv)) (Vs : Arv Z h0 sv ks .byte (1 : Int32) [(.int (106 : Int32))] (.int (0 : Int32))) (O0 : Old Z n0 h0) (S1 : Sta Z Z.heap "java/lang/String" "COMPACT_STRINGS" "Z" (.int cs)) (hcs : ¬ (cs = (0 : Int32))) (S2 : Sta Z Z.heap "jdk/internal/util/Preconditions" "SIOOBE_FORMATTER" "Ljava/util/function/BiFunction;" fv) (rf : fv.isRef = true) :
    MetFree l (⟨"java/lang/String", "isLatin1", "()Z"⟩ : MethodName) (head1 (Jvm.Cond.code (⟨"java/lang/String", "isLatin1", "()Z"⟩ : MethodName) jdk_42_method_154_code 1 (some .boolean) :: ws) ({ frames := 0, cells := 0, slots := 0, locals := 0 } : Room)) (fun a U => a = #[(.ref a1)] ∧ Z.Warmed39 U.vm ∧ U.heap = h0) (fun _ _ _ _ _ => True) (fun _ U o U' => ∃ v L, o = .returned v ∧ Q_rlat Z a1 sv ks cs fv h0 n0 v U'.heap L ∧ FrameEnd U o U' L ({ frames := 0, cells := 0, slots := 0, locals := 0 } : Room).cells ({ frames := 0, cells := 0, slots := 0, locals := 0 } : Room).slots) := by
  refine MetFree.of_bodySF (plainFor_of_name pn_10) hisR ?_
  intro p e s m args below meth c s₁ Bd hml0 hP hK
  obtain ⟨rfl, hZ, hh⟩ := hP
  have hx := Bd.exec
  have hby := Bd.bytes
  have hml : c.maxLocals = 1 := hml0
  have hown : s.vm.findClass "java/lang/String" = some m.cls := findClass_of_methodNamed Bd.named
  have hnm := (name_of_methodNamed Bd.named Bd.method).1
  have X0 : Stand p l e ({ frames := 0, cells := 0, slots := 0, locals := 0 } : Room) s m #[(.ref a1)] below meth c s₁ [] 0 0 := Stand.of_body Bd
  have e0 : s₁.heap = h0 := by rw [← hh, Bd.state]; rfl
  have N0 := Fr.nil n0
  refine own_go (g' := (mkF m 0 #[.val (.ref a1)] [])) (fun t k => castTop (ef_10 m (a1)) k) ?_
  obtain ⟨T_1, X_1, e_1, st_1⟩ := getS2 X0 hx hZ hown (host := "") (Or.inl (hw _ (List.mem_of_getElem? (i := 47) rfl))) Via.refl e0 (Sta.ext O0.2 S1) (g := (mkF m 0 #[.val (.ref a1)] [])) rfl (hb hby d10_0)
  refine own_go (g' := (mkF m 3 #[.val (.ref a1)] [(.int cs)])) st_1 ?_
  refine own_go (T' := T_1) (g' := (mkF m 7 #[.val (.ref a1)] [(.ref a1)])) (fun t kt => ?_) ?_
  · show Steps p.tables e below (T_1.setTop (mkF m 3 #[.val (.ref a1)] [(.int cs)])) t
    refine XS.ifNo X_1.here hx rfl (hb hby d10_3) rfl ((if0 _ _).trans (feq (hcs : ¬ (cs = (0 : Int32)))).1) ?_
    show Steps p.tables e below (T_1.setTop (mkF m 6 #[.val (.ref a1)] [])) t
    refine XS.aloadN X_1.here hx rfl (hb hby d10_6) rfl rfl ?_
    exact kt
  obtain ⟨T_2, X_2, e_2, st_2⟩ := getF X_1 hx hZ hown (host := "") (Or.inl (hw _ (List.mem_of_getElem? (i := 48) rfl))) Via.refl e_1 Fc (g := (mkF m 7 #[.val (.ref a1)] [(.ref a1)])) rfl rfl (hb hby d10_7)
  refine own_go (g' := (mkF m 10 #[.val (.ref a1)] [(.int (0 : Int32))])) st_2 ?_
  refine own_go (T' := T_2) (g' := (mkF m 18 #[.val (.ref a1)] [(.int (1 : Int32))])) (fun t kt => ?_) ?_
  · show Steps p.tables e below (T_2.setTop (mkF m 10 #[.val (.ref a1)] [(.int (0 : Int32))])) t
    refine XS.ifNo X_2.here hx rfl (hb hby d10_10) rfl ((if0 _ _).trans (teq (by decide : (0 : Int32) = (0 : Int32))).2) ?_
    show Steps p.tables e below (T_2.setTop (mkF m 13 #[.val (.ref a1)] [])) t
    refine XS.iconst X_2.here hx rfl (hb hby d10_13) ?_
    show Steps p.tables e below (T_2.setTop (mkF m 14 #[.val (.ref a1)] [(.int (1 : Int32))])) t
    refine XS.goto X_2.here hx rfl (pc0 := 14) (pc' := 18) rfl (hb hby d10_14) (by decide) (by decide) ?_
    exact kt
  obtain ⟨fs, hr, hrun, hended, hW, hsame⟩ := X_2.leave (v := some (.int (1 : Int32))) (fun h => by rw [Bd.returns] at h; cases h)
  refine ⟨_, _, ?_, hrun, hended, _, _, rfl, ?_, ⟨_, rfl⟩, hW, hsame.mono (by decide) (by decide)⟩
  · exact retN X_2 hx (t := .boolean) Bd.returns (by simp) (hb hby d10_18) hr
  · show Q_rlat Z _ _ _ _ _ h0 n0 _ T_2.heap _
    rw [e_2]
    exact ⟨rfl, N0, rfl⟩
theorem pn_13 : plainName "jdk/internal/util/Preconditions" = true := by first | (simp [plainName, overriddenIn]; done) | decide +kernel
theorem ef_13n (m : MethodId) (x0 : Int32) (x1 : Int32) : entryFrame m #[(.int x0), (.int x1), .null] 3 = mkF m 0 #[.val (.int x0), .val (.int x1), .val .null] [] := by first | (simp [entryFrame, mkF, argsToLocals, Value.category]; done) | rfl
def Q_rpcN (Z : State)  (h0 : Heap) (n0 : Nat) (v : Option Value) (h : Heap) (L : List Loc) : Prop := v = some (.int (0 : Int32)) ∧ Fr n0 L ∧ h = h0
theorem d13_0 : decode jdk_41_method_11_code 0 = .ok (.iload_n 0, 1) := by decide +kernel
theorem d13_1 : decode jdk_41_method_11_code 1 = .ok (.ifCond .lt 8, 3) := by decide +kernel
theorem d13_4 : decode jdk_41_method_11_code 4 = .ok (.iload_n 0, 1) := by decide +kernel
theorem d13_5 : decode jdk_41_method_11_code 5 = .ok (.iload_n 1, 1) := by decide +kernel
theorem d13_6 : decode jdk_41_method_11_code 6 = .ok (.if_icmp .lt 10, 3) := by decide +kernel
theorem d13_16 : decode jdk_41_method_11_code 16 = .ok (.iload_n 0, 1) := by decide +kernel
theorem d13_17 : decode jdk_41_method_11_code 17 = .ok (.ireturn, 1) := by decide +kernel
set_option maxRecDepth 65536 in
set_option maxHeartbeats 40000000 in
theorem rpcN (l : Launch) (Z : State) (a0 : Array Value) (hw : ∀ d ∈ tables_1, d.before a0 Z = true) (ws : List Jvm.Cond)  (h0 : Heap) (n0 : Nat) (Z0 : n0 ≤ h0.size)  :
    MetFree l (⟨"jdk/internal/util/Preconditions", "checkIndex", "(IILjava/util/function/BiFunction;)I"⟩ : MethodName) (head1 (Jvm.Cond.code (⟨"jdk/internal/util/Preconditions", "checkIndex", "(IILjava/util/function/BiFunction;)I"⟩ : MethodName) jdk_41_method_11_code 3 (some .int) :: ws) ({ frames := 0, cells := 0, slots := 0, locals := 0 } : Room)) (fun a U => a = #[(.int (0 : Int32)), (.int (1 : Int32)), .null] ∧ Z.Warmed39 U.vm ∧ U.heap = h0) (fun _ _ _ _ _ => True) (fun _ U o U' => ∃ v L, o = .returned v ∧ Q_rpcN Z  h0 n0 v U'.heap L ∧ FrameEnd U o U' L ({ frames := 0, cells := 0, slots := 0, locals := 0 } : Room).cells ({ frames := 0, cells := 0, slots := 0, locals := 0 } : Room).slots) := by
  refine MetFree.of_bodySF (plainFor_of_name pn_13) hisR ?_
  intro p e s m args below meth c s₁ Bd hml0 hP hK
  obtain ⟨rfl, hZ, hh⟩ := hP
  have hx := Bd.exec
  have hby := Bd.bytes
  have hml : c.maxLocals = 3 := hml0
  have hown : s.vm.findClass "jdk/internal/util/Preconditions" = some m.cls := findClass_of_methodNamed Bd.named
  have hnm := (name_of_methodNamed Bd.named Bd.method).1
  have X0 : Stand p l e ({ frames := 0, cells := 0, slots := 0, locals := 0 } : Room) s m #[(.int (0 : Int32)), (.int (1 : Int32)), .null] below meth c s₁ [] 0 0 := Stand.of_body Bd
  have e0 : s₁.heap = h0 := by rw [← hh, Bd.state]; rfl
  have N0 := Fr.nil n0
  refine own_go (g' := (mkF m 0 #[.val (.int (0 : Int32)), .val (.int (1 : Int32)), .val .null] [])) (fun t k => castTop (ef_13n m ((0 : Int32)) ((1 : Int32))) k) ?_
  refine own_go (T' := s₁) (g' := (mkF m 17 #[.val (.int (0 : Int32)), .val (.int (1 : Int32)), .val .null] [(.int (0 : Int32))])) (fun t kt => ?_) ?_
  · show Steps p.tables e below (s₁.setTop (mkF m 0 #[.val (.int (0 : Int32)), .val (.int (1 : Int32)), .val .null] [])) t
    refine XS.iloadN X0.here hx rfl (hb hby d13_0) rfl ?_
    show Steps p.tables e below (s₁.setTop (mkF m 1 #[.val (.int (0 : Int32)), .val (.int (1 : Int32)), .val .null] [(.int (0 : Int32))])) t
    refine XS.ifNo X0.here hx rfl (hb hby d13_1) rfl ((if0 _ _).trans (flt (by decide : ¬ ((0 : Int32) < (0 : Int32)))).1) ?_
    show Steps p.tables e below (s₁.setTop (mkF m 4 #[.val (.int (0 : Int32)), .val (.int (1 : Int32)), .val .null] [])) t
    refine XS.iloadN X0.here hx rfl (hb hby d13_4) rfl ?_
    show Steps p.tables e below (s₁.setTop (mkF m 5 #[.val (.int (0 : Int32)), .val (.int (1 : Int32)), .val .null] [(.int (0 : Int32))])) t
    refine XS.iloadN X0.here hx rfl (hb hby d13_5) rfl ?_
    show Steps p.tables e below (s₁.setTop (mkF m 6 #[.val (.int (0 : Int32)), .val (.int (1 : Int32)), .val .null] [(.int (1 : Int32)), (.int (0 : Int32))])) t
    refine XS.icmpYes X0.here hx rfl (pc0 := 6) (pc' := 16) rfl (hb hby d13_6) rfl (tlt (by decide : (0 : Int32) < (1 : Int32))).1 (by decide) (by decide) ?_
    show Steps p.tables e below (s₁.setTop (mkF m 16 #[.val (.int (0 : Int32)), .val (.int (1 : Int32)), .val .null] [])) t
    refine XS.iloadN X0.here hx rfl (hb hby d13_16) rfl ?_
    exact kt
  obtain ⟨fs, hr, hrun, hended, hW, hsame⟩ := X0.leave (v := some (.int (0 : Int32))) (fun h => by rw [Bd.returns] at h; cases h)
  refine ⟨_, _, ?_, hrun, hended, _, _, rfl, ?_, ⟨_, rfl⟩, hW, hsame.mono (by decide) (by decide)⟩
  · exact retI X0 hx Bd.returns (hb hby d13_17) hr
  · show Q_rpcN Z  h0 n0 _ s₁.heap _
    rw [e0]
    exact ⟨rfl, N0, rfl⟩
theorem ef_13 (m : MethodId) (x0 : Int32) (x1 : Int32) (x2 : Addr) : entryFrame m #[(.int x0), (.int x1), (.ref x2)] 3 = mkF m 0 #[.val (.int x0), .val (.int x1), .val (.ref x2)] [] := by first | (simp [entryFrame, mkF, argsToLocals, Value.category]; done) | rfl
def Q_rpcR (Z : State) (a3 : Addr) (h0 : Heap) (n0 : Nat) (v : Option Value) (h : Heap) (L : List Loc) : Prop := v = some (.int (0 : Int32)) ∧ Fr n0 L ∧ h = h0
set_option maxRecDepth 65536 in
set_option maxHeartbeats 40000000 in
theorem rpcR (l : Launch) (Z : State) (a0 : Array Value) (hw : ∀ d ∈ tables_1, d.before a0 Z = true) (ws : List Jvm.Cond) (a3 : Addr) (h0 : Heap) (n0 : Nat) (Z0 : n0 ≤ h0.size)  :
    MetFree l (⟨"jdk/internal/util/Preconditions", "checkIndex", "(IILjava/util/function/BiFunction;)I"⟩ : MethodName) (head1 (Jvm.Cond.code (⟨"jdk/internal/util/Preconditions", "checkIndex", "(IILjava/util/function/BiFunction;)I"⟩ : MethodName) jdk_41_method_11_code 3 (some .int) :: ws) ({ frames := 0, cells := 0, slots := 0, locals := 0 } : Room)) (fun a U => a = #[(.int (0 : Int32)), (.int (1 : Int32)), (.ref a3)] ∧ Z.Warmed39 U.vm ∧ U.heap = h0) (fun _ _ _ _ _ => True) (fun _ U o U' => ∃ v L, o = .returned v ∧ Q_rpcR Z a3 h0 n0 v U'.heap L ∧ FrameEnd U o U' L ({ frames := 0, cells := 0, slots := 0, locals := 0 } : Room).cells ({ frames := 0, cells := 0, slots := 0, locals := 0 } : Room).slots) := by
  refine MetFree.of_bodySF (plainFor_of_name pn_13) hisR ?_
  intro p e s m args below meth c s₁ Bd hml0 hP hK
  obtain ⟨rfl, hZ, hh⟩ := hP
  have hx := Bd.exec
  have hby := Bd.bytes
  have hml : c.maxLocals = 3 := hml0
  have hown : s.vm.findClass "jdk/internal/util/Preconditions" = some m.cls := findClass_of_methodNamed Bd.named
  have hnm := (name_of_methodNamed Bd.named Bd.method).1
  have X0 : Stand p l e ({ frames := 0, cells := 0, slots := 0, locals := 0 } : Room) s m #[(.int (0 : Int32)), (.int (1 : Int32)), (.ref a3)] below meth c s₁ [] 0 0 := Stand.of_body Bd
  have e0 : s₁.heap = h0 := by rw [← hh, Bd.state]; rfl
  have N0 := Fr.nil n0
  refine own_go (g' := (mkF m 0 #[.val (.int (0 : Int32)), .val (.int (1 : Int32)), .val (.ref a3)] [])) (fun t k => castTop (ef_13 m ((0 : Int32)) ((1 : Int32)) (a3)) k) ?_
  refine own_go (T' := s₁) (g' := (mkF m 17 #[.val (.int (0 : Int32)), .val (.int (1 : Int32)), .val (.ref a3)] [(.int (0 : Int32))])) (fun t kt => ?_) ?_
  · show Steps p.tables e below (s₁.setTop (mkF m 0 #[.val (.int (0 : Int32)), .val (.int (1 : Int32)), .val (.ref a3)] [])) t
    refine XS.iloadN X0.here hx rfl (hb hby d13_0) rfl ?_
    show Steps p.tables e below (s₁.setTop (mkF m 1 #[.val (.int (0 : Int32)), .val (.int (1 : Int32)), .val (.ref a3)] [(.int (0 : Int32))])) t
    refine XS.ifNo X0.here hx rfl (hb hby d13_1) rfl ((if0 _ _).trans (flt (by decide : ¬ ((0 : Int32) < (0 : Int32)))).1) ?_
    show Steps p.tables e below (s₁.setTop (mkF m 4 #[.val (.int (0 : Int32)), .val (.int (1 : Int32)), .val (.ref a3)] [])) t
    refine XS.iloadN X0.here hx rfl (hb hby d13_4) rfl ?_
    show Steps p.tables e below (s₁.setTop (mkF m 5 #[.val (.int (0 : Int32)), .val (.int (1 : Int32)), .val (.ref a3)] [(.int (0 : Int32))])) t
    refine XS.iloadN X0.here hx rfl (hb hby d13_5) rfl ?_
    show Steps p.tables e below (s₁.setTop (mkF m 6 #[.val (.int (0 : Int32)), .val (.int (1 : Int32)), .val (.ref a3)] [(.int (1 : Int32)), (.int (0 : Int32))])) t
    refine XS.icmpYes X0.here hx rfl (pc0 := 6) (pc' := 16) rfl (hb hby d13_6) rfl (tlt (by decide : (0 : Int32) < (1 : Int32))).1 (by decide) (by decide) ?_
    show Steps p.tables e below (s₁.setTop (mkF m 16 #[.val (.int (0 : Int32)), .val (.int (1 : Int32)), .val (.ref a3)] [])) t
    refine XS.iloadN X0.here hx rfl (hb hby d13_16) rfl ?_
    exact kt
  obtain ⟨fs, hr, hrun, hended, hW, hsame⟩ := X0.leave (v := some (.int (0 : Int32))) (fun h => by rw [Bd.returns] at h; cases h)
  refine ⟨_, _, ?_, hrun, hended, _, _, rfl, ?_, ⟨_, rfl⟩, hW, hsame.mono (by decide) (by decide)⟩
  · exact retI X0 hx Bd.returns (hb hby d13_17) hr
  · show Q_rpcR Z _ h0 n0 _ s₁.heap _
    rw [e0]
    exact ⟨rfl, N0, rfl⟩
theorem pn_12 : plainName "java/lang/String" = true := by first | (simp [plainName, overriddenIn]; done) | decide +kernel
theorem ef_12 (m : MethodId) (x0 : Int32) (x1 : Int32) : entryFrame m #[(.int x0), (.int x1)] 2 = mkF m 0 #[.val (.int x0), .val (.int x1)] [] := by first | (simp [entryFrame, mkF, argsToLocals, Value.category]; done) | rfl
def Q_rci (Z : State) (cs : Int32) (fv : Value) (h0 : Heap) (n0 : Nat) (v : Option Value) (h : Heap) (L : List Loc) : Prop := v = none ∧ Fr n0 L ∧ h = h0
theorem d12_0 : decode jdk_42_method_155_code 0 = .ok (.iload_n 0, 1) := by decide +kernel
theorem d12_1 : decode jdk_42_method_155_code 1 = .ok (.iload_n 1, 1) := by decide +kernel
theorem d12_2 : decode jdk_42_method_155_code 2 = .ok (.getstatic 1053, 3) := by decide +kernel
theorem d12_5 : decode jdk_42_method_155_code 5 = .ok (.invokestatic 1059, 3) := by decide +kernel
theorem pd_10 : parseMethodDescriptor "(IILjava/util/function/BiFunction;)I" = some ⟨[.int, .int, (.object "java/util/function/BiFunction")], some .int⟩ := by decide +kernel
theorem d12_8 : decode jdk_42_method_155_code 8 = .ok (.pop, 1) := by decide +kernel
theorem d12_9 : decode jdk_42_method_155_code 9 = .ok (.return_, 1) := by decide +kernel
set_option maxRecDepth 65536 in
set_option maxHeartbeats 40000000 in
theorem rci (l : Launch) (Z : State) (a0 : Array Value) (hw : ∀ d ∈ tables_1, d.before a0 Z = true) (ws : List Jvm.Cond) (cs : Int32) (fv : Value) (h0 : Heap) (n0 : Nat) (Z0 : n0 ≤ h0.size) (O0 : Old Z n0 h0) (S1 : Sta Z Z.heap "java/lang/String" "COMPACT_STRINGS" "Z" (.int cs)) (hcs : ¬ (cs = (0 : Int32))) (S2 : Sta Z Z.heap "jdk/internal/util/Preconditions" "SIOOBE_FORMATTER" "Ljava/util/function/BiFunction;" fv) (rf : fv.isRef = true) :
    MetFree l (⟨"java/lang/String", "checkIndex", "(II)V"⟩ : MethodName) (head1 (Jvm.Cond.code (⟨"java/lang/String", "checkIndex", "(II)V"⟩ : MethodName) jdk_42_method_155_code 2 none :: ws) ({ frames := 1, cells := 0, slots := 0, locals := 16 } : Room)) (fun a U => a = #[(.int (0 : Int32)), (.int (1 : Int32))] ∧ Z.Warmed39 U.vm ∧ U.heap = h0) (fun _ _ _ _ _ => True) (fun _ U o U' => ∃ v L, o = .returned v ∧ Q_rci Z cs fv h0 n0 v U'.heap L ∧ FrameEnd U o U' L ({ frames := 1, cells := 0, slots := 0, locals := 16 } : Room).cells ({ frames := 1, cells := 0, slots := 0, locals := 16 } : Room).slots) := by
  refine MetFree.of_bodySF (plainFor_of_name pn_12) hisR ?_
  intro p e s m args below meth c s₁ Bd hml0 hP hK
  obtain ⟨rfl, hZ, hh⟩ := hP
  have hx := Bd.exec
  have hby := Bd.bytes
  have hml : c.maxLocals = 2 := hml0
  have hown : s.vm.findClass "java/lang/String" = some m.cls := findClass_of_methodNamed Bd.named
  have hnm := (name_of_methodNamed Bd.named Bd.method).1
  have X0 : Stand p l e ({ frames := 1, cells := 0, slots := 0, locals := 16 } : Room) s m #[(.int (0 : Int32)), (.int (1 : Int32))] below meth c s₁ [] 0 0 := Stand.of_body Bd
  have e0 : s₁.heap = h0 := by rw [← hh, Bd.state]; rfl
  have N0 := Fr.nil n0
  refine own_go (g' := (mkF m 0 #[.val (.int (0 : Int32)), .val (.int (1 : Int32))] [])) (fun t k => castTop (ef_12 m ((0 : Int32)) ((1 : Int32))) k) ?_
  rcases ref_cases rf with rfl | ⟨fa, rfl⟩
  · refine own_go (T' := s₁) (g' := (mkF m 2 #[.val (.int (0 : Int32)), .val (.int (1 : Int32))] [(.int (1 : Int32)), (.int (0 : Int32))])) (fun t kt => ?_) ?_
    · show Steps p.tables e below (s₁.setTop (mkF m 0 #[.val (.int (0 : Int32)), .val (.int (1 : Int32))] [])) t
      refine XS.iloadN X0.here hx rfl (hb hby d12_0) rfl ?_
      show Steps p.tables e below (s₁.setTop (mkF m 1 #[.val (.int (0 : Int32)), .val (.int (1 : Int32))] [(.int (0 : Int32))])) t
      refine XS.iloadN X0.here hx rfl (hb hby d12_1) rfl ?_
      exact kt
    obtain ⟨T_1, X_1, e_1, st_1⟩ := getS2 X0 hx hZ hown (host := "") (Or.inl (hw _ (List.mem_of_getElem? (i := 66) rfl))) Via.refl e0 (Sta.ext O0.2 S2) (g := (mkF m 2 #[.val (.int (0 : Int32)), .val (.int (1 : Int32))] [(.int (1 : Int32)), (.int (0 : Int32))])) rfl (hb hby d12_2)
    refine own_go (g' := (mkF m 5 #[.val (.int (0 : Int32)), .val (.int (1 : Int32))] [.null, (.int (1 : Int32)), (.int (0 : Int32))])) st_1 ?_
    obtain ⟨_, _, ⟨T_2, L_2, k_2, n_2⟩, -, X_2, ⟨Lc_2, hQ_2, l_2, y_2, z_2⟩, st_2⟩ := Jvm.LawKit.callS X_1 hx (y := (⟨"jdk/internal/util/Preconditions", "checkIndex", "(IILjava/util/function/BiFunction;)I"⟩ : MethodName)) hown (mvT hZ (hw _ (List.mem_of_getElem? (i := 68) rfl))) (mvT hZ (hw _ (List.mem_of_getElem? (i := 69) rfl))) (mvT hZ (hw _ (List.mem_of_getElem? (i := 67) rfl))) (mvT hZ (hw _ (List.mem_of_getElem? (i := 70) rfl))) (by decide) (backOf (W := 0) (rpcN l Z a0 hw []   h0 n0 Z0 ) hZ (hw _ (List.mem_of_getElem? (i := 70) rfl)) (hw _ (List.mem_of_getElem? (i := 67) rfl)) (by decide) (by decide)) (g := (mkF m 5 #[.val (.int (0 : Int32)), .val (.int (1 : Int32))] [.null, (.int (1 : Int32)), (.int (0 : Int32))])) rfl (by rw [hml]; rfl) (argsL := [(.int (0 : Int32)), (.int (1 : Int32)), .null]) (rest := []) (lenOf pd_10 rfl) rfl (by show 2 * 0 + _ ≤ _; exact Nat.le_of_eq rfl) (hb hby d12_5) (fun _ _ => ⟨rfl, e_1, (by decide : 0 + 0 ≤ _), (by decide : 0 + 0 ≤ _)⟩)
    dsimp only [Pt.U, Pt.locs, Pt.cells, Pt.slots] at X_2 l_2 y_2 z_2 st_2 hQ_2
    subst l_2 y_2 z_2
    obtain ⟨rfl, N_2q, e_2⟩ := hQ_2
    have N_2 := Fr.app N0 N_2q
    refine own_go (g' := (mkF m 8 #[.val (.int (0 : Int32)), .val (.int (1 : Int32))] [(.int (0 : Int32))])) st_2 ?_
    refine own_go (T' := T_2) (g' := (mkF m 9 #[.val (.int (0 : Int32)), .val (.int (1 : Int32))] [])) (fun t kt => ?_) ?_
    · show Steps p.tables e below (T_2.setTop (mkF m 8 #[.val (.int (0 : Int32)), .val (.int (1 : Int32))] [(.int (0 : Int32))])) t
      refine XS.pop X_2.here hx rfl (hb hby d12_8) rfl rfl ?_
      exact kt
    obtain ⟨fs, hr, hrun, hended, hW, hsame⟩ := X_2.leave (v := none) (fun _ => rfl)
    refine ⟨_, _, ?_, hrun, hended, _, _, rfl, ?_, ⟨_, rfl⟩, hW, hsame.mono (by decide) (by decide)⟩
    · exact X_2.returnOut hx Bd.returns (hb hby d12_9) hr
    · show Q_rci Z _ _ h0 n0 _ T_2.heap _
      rw [e_2]
      exact ⟨rfl, N_2, rfl⟩
  · refine own_go (T' := s₁) (g' := (mkF m 2 #[.val (.int (0 : Int32)), .val (.int (1 : Int32))] [(.int (1 : Int32)), (.int (0 : Int32))])) (fun t kt => ?_) ?_
    · show Steps p.tables e below (s₁.setTop (mkF m 0 #[.val (.int (0 : Int32)), .val (.int (1 : Int32))] [])) t
      refine XS.iloadN X0.here hx rfl (hb hby d12_0) rfl ?_
      show Steps p.tables e below (s₁.setTop (mkF m 1 #[.val (.int (0 : Int32)), .val (.int (1 : Int32))] [(.int (0 : Int32))])) t
      refine XS.iloadN X0.here hx rfl (hb hby d12_1) rfl ?_
      exact kt
    obtain ⟨T_3, X_3, e_3, st_3⟩ := getS2 X0 hx hZ hown (host := "") (Or.inl (hw _ (List.mem_of_getElem? (i := 66) rfl))) Via.refl e0 (Sta.ext O0.2 S2) (g := (mkF m 2 #[.val (.int (0 : Int32)), .val (.int (1 : Int32))] [(.int (1 : Int32)), (.int (0 : Int32))])) rfl (hb hby d12_2)
    refine own_go (g' := (mkF m 5 #[.val (.int (0 : Int32)), .val (.int (1 : Int32))] [(.ref fa), (.int (1 : Int32)), (.int (0 : Int32))])) st_3 ?_
    obtain ⟨_, _, ⟨T_4, L_4, k_4, n_4⟩, -, X_4, ⟨Lc_4, hQ_4, l_4, y_4, z_4⟩, st_4⟩ := Jvm.LawKit.callS X_3 hx (y := (⟨"jdk/internal/util/Preconditions", "checkIndex", "(IILjava/util/function/BiFunction;)I"⟩ : MethodName)) hown (mvT hZ (hw _ (List.mem_of_getElem? (i := 68) rfl))) (mvT hZ (hw _ (List.mem_of_getElem? (i := 69) rfl))) (mvT hZ (hw _ (List.mem_of_getElem? (i := 67) rfl))) (mvT hZ (hw _ (List.mem_of_getElem? (i := 70) rfl))) (by decide) (backOf (W := 0) (rpcR l Z a0 hw [] fa  h0 n0 Z0 ) hZ (hw _ (List.mem_of_getElem? (i := 70) rfl)) (hw _ (List.mem_of_getElem? (i := 67) rfl)) (by decide) (by decide)) (g := (mkF m 5 #[.val (.int (0 : Int32)), .val (.int (1 : Int32))] [(.ref fa), (.int (1 : Int32)), (.int (0 : Int32))])) rfl (by rw [hml]; rfl) (argsL := [(.int (0 : Int32)), (.int (1 : Int32)), (.ref fa)]) (rest := []) (lenOf pd_10 rfl) rfl (by show 2 * 0 + _ ≤ _; exact Nat.le_of_eq rfl) (hb hby d12_5) (fun _ _ => ⟨rfl, e_3, (by decide : 0 + 0 ≤ _), (by decide : 0 + 0 ≤ _)⟩)
    dsimp only [Pt.U, Pt.locs, Pt.cells, Pt.slots] at X_4 l_4 y_4 z_4 st_4 hQ_4
    subst l_4 y_4 z_4
    obtain ⟨rfl, N_4q, e_4⟩ := hQ_4
    have N_4 := Fr.app N0 N_4q
    refine own_go (g' := (mkF m 8 #[.val (.int (0 : Int32)), .val (.int (1 : Int32))] [(.int (0 : Int32))])) st_4 ?_
    refine own_go (T' := T_4) (g' := (mkF m 9 #[.val (.int (0 : Int32)), .val (.int (1 : Int32))] [])) (fun t kt => ?_) ?_
    · show Steps p.tables e below (T_4.setTop (mkF m 8 #[.val (.int (0 : Int32)), .val (.int (1 : Int32))] [(.int (0 : Int32))])) t
      refine XS.pop X_4.here hx rfl (hb hby d12_8) rfl rfl ?_
      exact kt
    obtain ⟨fs, hr, hrun, hended, hW, hsame⟩ := X_4.leave (v := none) (fun _ => rfl)
    refine ⟨_, _, ?_, hrun, hended, _, _, rfl, ?_, ⟨_, rfl⟩, hW, hsame.mono (by decide) (by decide)⟩
    · exact X_4.returnOut hx Bd.returns (hb hby d12_9) hr
    · show Q_rci Z _ _ h0 n0 _ T_4.heap _
      rw [e_4]
      exact ⟨rfl, N_4, rfl⟩
theorem pn_11 : plainName "java/lang/StringLatin1" = true := by first | (simp [plainName, overriddenIn]; done) | decide +kernel
theorem ef_11 (m : MethodId) (x0 : Addr) (x1 : Int32) : entryFrame m #[(.ref x0), (.int x1)] 2 = mkF m 0 #[.val (.ref x0), .val (.int x1)] [] := by first | (simp [entryFrame, mkF, argsToLocals, Value.category]; done) | rfl
def Q_rlch (Z : State) (sv : Addr) (ks : ClassId) (cs : Int32) (fv : Value) (h0 : Heap) (n0 : Nat) (v : Option Value) (h : Heap) (L : List Loc) : Prop := v = some (.int (106 : Int32)) ∧ Fr n0 L ∧ h = h0
theorem d11_0 : decode jdk_43_method_2_code 0 = .ok (.iload_n 1, 1) := by decide +kernel
theorem d11_1 : decode jdk_43_method_2_code 1 = .ok (.aload_n 0, 1) := by decide +kernel
theorem d11_2 : decode jdk_43_method_2_code 2 = .ok (.arraylength, 1) := by decide +kernel
theorem d11_3 : decode jdk_43_method_2_code 3 = .ok (.invokestatic 9, 3) := by decide +kernel
theorem pd_9 : parseMethodDescriptor "(II)V" = some ⟨[.int, .int], none⟩ := by decide +kernel
theorem d11_6 : decode jdk_43_method_2_code 6 = .ok (.aload_n 0, 1) := by decide +kernel
theorem d11_7 : decode jdk_43_method_2_code 7 = .ok (.iload_n 1, 1) := by decide +kernel
theorem d11_8 : decode jdk_43_method_2_code 8 = .ok (.baload, 1) := by decide +kernel
theorem d11_9 : decode jdk_43_method_2_code 9 = .ok (.sipush 255, 3) := by decide +kernel
theorem d11_12 : decode jdk_43_method_2_code 12 = .ok (.iand, 1) := by decide +kernel
theorem d11_13 : decode jdk_43_method_2_code 13 = .ok (.i2c, 1) := by decide +kernel
theorem d11_14 : decode jdk_43_method_2_code 14 = .ok (.ireturn, 1) := by decide +kernel
set_option maxRecDepth 65536 in
set_option maxHeartbeats 40000000 in
theorem rlch (l : Launch) (Z : State) (a0 : Array Value) (hw : ∀ d ∈ tables_1, d.before a0 Z = true) (ws : List Jvm.Cond) (sv : Addr) (ks : ClassId) (cs : Int32) (fv : Value) (h0 : Heap) (n0 : Nat) (Z0 : n0 ≤ h0.size) (Vs : Arv Z h0 sv ks .byte (1 : Int32) [(.int (106 : Int32))] (.int (0 : Int32))) (O0 : Old Z n0 h0) (S1 : Sta Z Z.heap "java/lang/String" "COMPACT_STRINGS" "Z" (.int cs)) (hcs : ¬ (cs = (0 : Int32))) (S2 : Sta Z Z.heap "jdk/internal/util/Preconditions" "SIOOBE_FORMATTER" "Ljava/util/function/BiFunction;" fv) (rf : fv.isRef = true) :
    MetFree l (⟨"java/lang/StringLatin1", "charAt", "([BI)C"⟩ : MethodName) (head1 (Jvm.Cond.code (⟨"java/lang/StringLatin1", "charAt", "([BI)C"⟩ : MethodName) jdk_43_method_2_code 2 (some .char) :: ws) ({ frames := 2, cells := 0, slots := 0, locals := 32 } : Room)) (fun a U => a = #[(.ref sv), (.int (0 : Int32))] ∧ Z.Warmed39 U.vm ∧ U.heap = h0) (fun _ _ _ _ _ => True) (fun _ U o U' => ∃ v L, o = .returned v ∧ Q_rlch Z sv ks cs fv h0 n0 v U'.heap L ∧ FrameEnd U o U' L ({ frames := 2, cells := 0, slots := 0, locals := 32 } : Room).cells ({ frames := 2, cells := 0, slots := 0, locals := 32 } : Room).slots) := by
  refine MetFree.of_bodySF (plainFor_of_name pn_11) hisR ?_
  intro p e s m args below meth c s₁ Bd hml0 hP hK
  obtain ⟨rfl, hZ, hh⟩ := hP
  have hx := Bd.exec
  have hby := Bd.bytes
  have hml : c.maxLocals = 2 := hml0
  have hown : s.vm.findClass "java/lang/StringLatin1" = some m.cls := findClass_of_methodNamed Bd.named
  have hnm := (name_of_methodNamed Bd.named Bd.method).1
  have X0 : Stand p l e ({ frames := 2, cells := 0, slots := 0, locals := 32 } : Room) s m #[(.ref sv), (.int (0 : Int32))] below meth c s₁ [] 0 0 := Stand.of_body Bd
  have e0 : s₁.heap = h0 := by rw [← hh, Bd.state]; rfl
  have N0 := Fr.nil n0
  refine own_go (g' := (mkF m 0 #[.val (.ref sv), .val (.int (0 : Int32))] [])) (fun t k => castTop (ef_11 m (sv) ((0 : Int32))) k) ?_
  refine own_go (T' := s₁) (g' := (mkF m 2 #[.val (.ref sv), .val (.int (0 : Int32))] [(.ref sv), (.int (0 : Int32))])) (fun t kt => ?_) ?_
  · show Steps p.tables e below (s₁.setTop (mkF m 0 #[.val (.ref sv), .val (.int (0 : Int32))] [])) t
    refine XS.iloadN X0.here hx rfl (hb hby d11_0) rfl ?_
    show Steps p.tables e below (s₁.setTop (mkF m 1 #[.val (.ref sv), .val (.int (0 : Int32))] [(.int (0 : Int32))])) t
    refine XS.aloadN X0.here hx rfl (hb hby d11_1) rfl rfl ?_
    exact kt
  have vq_1 := Vs
  obtain ⟨c_1, a_1, -, s_1, m_1, -, -⟩ := vq_1
  refine own_go (T' := s₁) (g' := (mkF m 3 #[.val (.ref sv), .val (.int (0 : Int32))] [(.int (1 : Int32)), (.int (0 : Int32))])) (fun t kt => ?_) ?_
  · refine X0.arraylength hx (by rw [e0]; exact a_1.1) (State.isArrayOf_alike hZ.alike a_1.2.1) (g := (mkF m 2 #[.val (.ref sv), .val (.int (0 : Int32))] [(.ref sv), (.int (0 : Int32))])) rfl rfl (hb hby d11_2) _ ?_
    rw [len_of s_1 m_1]
    exact kt
  obtain ⟨_, _, ⟨T_2, L_2, k_2, n_2⟩, -, X_2, ⟨Lc_2, hQ_2, l_2, y_2, z_2⟩, st_2⟩ := Jvm.LawKit.callS X0 hx (y := (⟨"java/lang/String", "checkIndex", "(II)V"⟩ : MethodName)) hown (mvT hZ (hw _ (List.mem_of_getElem? (i := 63) rfl))) (mvT hZ (hw _ (List.mem_of_getElem? (i := 64) rfl))) (mvT hZ (hw _ (List.mem_of_getElem? (i := 5) rfl))) (mvT hZ (hw _ (List.mem_of_getElem? (i := 65) rfl))) (by decide) (backOf (W := 0) (rci l Z a0 hw []  cs fv h0 n0 Z0 O0 S1 hcs S2 rf) hZ (hw _ (List.mem_of_getElem? (i := 65) rfl)) (hw _ (List.mem_of_getElem? (i := 5) rfl)) (by decide) (by decide)) (g := (mkF m 3 #[.val (.ref sv), .val (.int (0 : Int32))] [(.int (1 : Int32)), (.int (0 : Int32))])) rfl (by rw [hml]; rfl) (argsL := [(.int (0 : Int32)), (.int (1 : Int32))]) (rest := []) (lenOf pd_9 rfl) rfl (by show 2 * 0 + _ ≤ _; exact Nat.le_of_eq rfl) (hb hby d11_3) (fun _ _ => ⟨rfl, e0, (by decide : 0 + 0 ≤ _), (by decide : 0 + 0 ≤ _)⟩)
  dsimp only [Pt.U, Pt.locs, Pt.cells, Pt.slots] at X_2 l_2 y_2 z_2 st_2 hQ_2
  subst l_2 y_2 z_2
  obtain ⟨rfl, N_2q, e_2⟩ := hQ_2
  have N_2 := Fr.app N0 N_2q
  refine own_go (g' := (mkF m 6 #[.val (.ref sv), .val (.int (0 : Int32))] [])) st_2 ?_
  refine own_go (T' := T_2) (g' := (mkF m 8 #[.val (.ref sv), .val (.int (0 : Int32))] [(.int (0 : Int32)), (.ref sv)])) (fun t kt => ?_) ?_
  · show Steps p.tables e below (T_2.setTop (mkF m 6 #[.val (.ref sv), .val (.int (0 : Int32))] [])) t
    refine XS.aloadN X_2.here hx rfl (hb hby d11_6) rfl rfl ?_
    show Steps p.tables e below (T_2.setTop (mkF m 7 #[.val (.ref sv), .val (.int (0 : Int32))] [(.ref sv)])) t
    refine XS.iloadN X_2.here hx rfl (hb hby d11_7) rfl ?_
    exact kt
  have vq_3 := Vs
  obtain ⟨c_3, a_3, q_3, s_3, m_3, H_3, G_3⟩ := vq_3
  have hin_3 : ¬ ((0 : Int32) < 0 ∨ c_3.slots.size ≤ ((0 : Int32)).toNatClampNeg) := inb_of s_3 ⟨by decide, by decide⟩
  have hat_3 : c_3.slots[((0 : Int32)).toNatClampNeg]? = some (.int (106 : Int32)) := H_3.at hin_3 rfl
  refine own_go (T' := T_2) (g' := (mkF m 9 #[.val (.ref sv), .val (.int (0 : Int32))] [(.int (106 : Int32))])) (fun t kt => ?_) ?_
  · refine X_2.baloadBytes hx (j := (0 : Int32)) (v := (.int (106 : Int32))) (by rw [e_2]; exact a_3.1) (State.isArrayOf_alike hZ.alike a_3.2.1) a_3.2.2 hin_3 hat_3 (g := (mkF m 8 #[.val (.ref sv), .val (.int (0 : Int32))] [(.int (0 : Int32)), (.ref sv)])) rfl rfl (hb hby d11_8) _ ?_
    exact kt
  refine own_go (T' := T_2) (g' := (mkF m 14 #[.val (.ref sv), .val (.int (0 : Int32))] [(.int ((106 : Int32).toUInt32.toUInt16.toUInt32.toInt32))])) (fun t kt => ?_) ?_
  · show Steps p.tables e below (T_2.setTop (mkF m 9 #[.val (.ref sv), .val (.int (0 : Int32))] [(.int (106 : Int32))])) t
    refine XS.sipush X_2.here hx rfl (hb hby d11_9) ?_
    show Steps p.tables e below (T_2.setTop (mkF m 12 #[.val (.ref sv), .val (.int (0 : Int32))] [(.int (255 : Int32)), (.int (106 : Int32))])) t
    refine XS.iand X_2.here hx rfl (hb hby d11_12) rfl ?_
    show Steps p.tables e below (T_2.setTop (mkF m 13 #[.val (.ref sv), .val (.int (0 : Int32))] [(.int (106 : Int32))])) t
    refine XS.i2c X_2.here hx rfl (hb hby d11_13) rfl ?_
    exact kt
  obtain ⟨fs, hr, hrun, hended, hW, hsame⟩ := X_2.leave (v := some (.int ((106 : Int32).toUInt32.toUInt16.toUInt32.toInt32))) (fun h => by rw [Bd.returns] at h; cases h)
  refine ⟨_, _, ?_, hrun, hended, _, _, rfl, ?_, ⟨_, rfl⟩, hW, hsame.mono (by decide) (by decide)⟩
  · exact retN X_2 hx (t := .char) Bd.returns (by simp) (hb hby d11_14) hr
  · show Q_rlch Z _ _ _ _ h0 n0 _ T_2.heap _
    rw [e_2]
    exact ⟨congrArg (fun z => some (Value.int z)) (by decide), N_2, rfl⟩
theorem pn_9 : plainName "java/lang/String" = true := by first | (simp [plainName, overriddenIn]; done) | decide +kernel
theorem ef_9 (m : MethodId) (x0 : Addr) (x1 : Int32) : entryFrame m #[(.ref x0), (.int x1)] 2 = mkF m 0 #[.val (.ref x0), .val (.int x1)] [] := by first | (simp [entryFrame, mkF, argsToLocals, Value.category]; done) | rfl
def Q_rch (Z : State) (a1 : Addr) (sv : Addr) (ks : ClassId) (cs : Int32) (fv : Value) (h0 : Heap) (n0 : Nat) (v : Option Value) (h : Heap) (L : List Loc) : Prop := v = some (.int (106 : Int32)) ∧ Fr n0 L ∧ h = h0
theorem d9_0 : decode jdk_42_method_56_code 0 = .ok (.aload_n 0, 1) := by decide +kernel
theorem d9_1 : decode jdk_42_method_56_code 1 = .ok (.invokevirtual 492, 3) := by decide +kernel
theorem pd_4 : parseMethodDescriptor "()Z" = some ⟨[], some .boolean⟩ := by decide +kernel
theorem d9_4 : decode jdk_42_method_56_code 4 = .ok (.ifCond .eq 12, 3) := by decide +kernel
theorem d9_7 : decode jdk_42_method_56_code 7 = .ok (.aload_n 0, 1) := by decide +kernel
theorem d9_8 : decode jdk_42_method_56_code 8 = .ok (.getfield 9, 3) := by decide +kernel
theorem d9_11 : decode jdk_42_method_56_code 11 = .ok (.iload_n 1, 1) := by decide +kernel
theorem d9_12 : decode jdk_42_method_56_code 12 = .ok (.invokestatic 495, 3) := by decide +kernel
theorem pd_8 : parseMethodDescriptor "([BI)C" = some ⟨[(.array .byte), .int], some .char⟩ := by decide +kernel
theorem d9_15 : decode jdk_42_method_56_code 15 = .ok (.ireturn, 1) := by decide +kernel
set_option maxRecDepth 65536 in
set_option maxHeartbeats 40000000 in
theorem rch (l : Launch) (Z : State) (a0 : Array Value) (hw : ∀ d ∈ tables_1, d.before a0 Z = true) (ws : List Jvm.Cond) (a1 : Addr) (sv : Addr) (ks : ClassId) (cs : Int32) (fv : Value) (h0 : Heap) (n0 : Nat) (Z0 : n0 ≤ h0.size) (Es : Exa Z h0 a1 "java/lang/String") (Fc : Fld Z h0 a1 "java/lang/String" "coder" "B" (.int (0 : Int32))) (Fv : Fld Z h0 a1 "java/lang/String" "value" "[B" (.ref sv)) (Vs : Arv Z h0 sv ks .byte (1 : Int32) [(.int (106 : Int32))] (.int (0 : Int32))) (O0 : Old Z n0 h0) (S1 : Sta Z Z.heap "java/lang/String" "COMPACT_STRINGS" "Z" (.int cs)) (hcs : ¬ (cs = (0 : Int32))) (S2 : Sta Z Z.heap "jdk/internal/util/Preconditions" "SIOOBE_FORMATTER" "Ljava/util/function/BiFunction;" fv) (rf : fv.isRef = true) :
    MetFree l (⟨"java/lang/String", "charAt", "(I)C"⟩ : MethodName) (head1 (Jvm.Cond.code (⟨"java/lang/String", "charAt", "(I)C"⟩ : MethodName) jdk_42_method_56_code 2 (some .char) :: ws) ({ frames := 3, cells := 0, slots := 0, locals := 48 } : Room)) (fun a U => a = #[(.ref a1), (.int (0 : Int32))] ∧ Z.Warmed39 U.vm ∧ U.heap = h0) (fun _ _ _ _ _ => True) (fun _ U o U' => ∃ v L, o = .returned v ∧ Q_rch Z a1 sv ks cs fv h0 n0 v U'.heap L ∧ FrameEnd U o U' L ({ frames := 3, cells := 0, slots := 0, locals := 48 } : Room).cells ({ frames := 3, cells := 0, slots := 0, locals := 48 } : Room).slots) := by
  refine MetFree.of_bodySF (plainFor_of_name pn_9) hisR ?_
  intro p e s m args below meth c s₁ Bd hml0 hP hK
  obtain ⟨rfl, hZ, hh⟩ := hP
  have hx := Bd.exec
  have hby := Bd.bytes
  have hml : c.maxLocals = 2 := hml0
  have hown : s.vm.findClass "java/lang/String" = some m.cls := findClass_of_methodNamed Bd.named
  have hnm := (name_of_methodNamed Bd.named Bd.method).1
  have X0 : Stand p l e ({ frames := 3, cells := 0, slots := 0, locals := 48 } : Room) s m #[(.ref a1), (.int (0 : Int32))] below meth c s₁ [] 0 0 := Stand.of_body Bd
  have e0 : s₁.heap = h0 := by rw [← hh, Bd.state]; rfl
  have N0 := Fr.nil n0
  refine own_go (g' := (mkF m 0 #[.val (.ref a1), .val (.int (0 : Int32))] [])) (fun t k => castTop (ef_9 m (a1) ((0 : Int32))) k) ?_
  refine own_go (T' := s₁) (g' := (mkF m 1 #[.val (.ref a1), .val (.int (0 : Int32))] [(.ref a1)])) (fun t kt => ?_) ?_
  · show Steps p.tables e below (s₁.setTop (mkF m 0 #[.val (.ref a1), .val (.int (0 : Int32))] [])) t
    refine XS.aloadN X0.here hx rfl (hb hby d9_0) rfl rfl ?_
    exact kt
  obtain ⟨cq_1, kq_1, q_1a, q_1b, q_1c⟩ := isOf hZ e0 Es
  obtain ⟨_, _, ⟨T_1, L_1, k_1, n_1⟩, -, X_1, ⟨Lc_1, hQ_1, l_1, y_1, z_1⟩, st_1⟩ := X0.virtualBack hx (y := (⟨"java/lang/String", "isLatin1", "()Z"⟩ : MethodName)) (z := (⟨"java/lang/String", "isLatin1", "()Z"⟩ : MethodName)) hown (mvT hZ (hw _ (List.mem_of_getElem? (i := 54) rfl))) (mvT hZ (hw _ (List.mem_of_getElem? (i := 55) rfl))) (notFace_of_selects (args := #[]) (mvT hZ (hw _ (List.mem_of_getElem? (i := 57) rfl)))) (mvT hZ (hw _ (List.mem_of_getElem? (i := 57) rfl))) (mvT hZ (hw _ (List.mem_of_getElem? (i := 56) rfl))) (by decide) (backOf (W := 0) (rlat l Z a0 hw [] (a1) sv ks cs fv h0 n0 Z0 Es Fc Fv Vs O0 S1 hcs S2 rf) hZ (hw _ (List.mem_of_getElem? (i := 58) rfl)) (hw _ (List.mem_of_getElem? (i := 5) rfl)) (by decide) (by decide)) q_1a q_1c (g := (mkF m 1 #[.val (.ref a1), .val (.int (0 : Int32))] [(.ref a1)])) rfl (by rw [hml]; rfl) (Steps.refl _) (argsL := []) (rest := []) (lenOf pd_4 rfl) rfl (by show 2 * 0 + _ ≤ _; exact Nat.le_of_eq rfl) (hb hby d9_1) (fun _ _ => ⟨rfl, e0, (by decide : 0 + 0 ≤ _), (by decide : 0 + 0 ≤ _)⟩)
  dsimp only [Pt.U, Pt.locs, Pt.cells, Pt.slots] at X_1 l_1 y_1 z_1 st_1 hQ_1
  subst l_1 y_1 z_1
  obtain ⟨rfl, N_1q, e_1⟩ := hQ_1
  have N_1 := Fr.app N0 N_1q
  refine own_go (g' := (mkF m 4 #[.val (.ref a1), .val (.int (0 : Int32))] [(.int (1 : Int32))])) (fun t kt => st_1.trans kt) ?_
  refine own_go (T' := T_1) (g' := (mkF m 8 #[.val (.ref a1), .val (.int (0 : Int32))] [(.ref a1)])) (fun t kt => ?_) ?_
  · show Steps p.tables e below (T_1.setTop (mkF m 4 #[.val (.ref a1), .val (.int (0 : Int32))] [(.int (1 : Int32))])) t
    refine XS.ifNo X_1.here hx rfl (hb hby d9_4) rfl ((if0 _ _).trans (feq (by decide : ¬ ((1 : Int32) = (0 : Int32)))).1) ?_
    show Steps p.tables e below (T_1.setTop (mkF m 7 #[.val (.ref a1), .val (.int (0 : Int32))] [])) t
    refine XS.aloadN X_1.here hx rfl (hb hby d9_7) rfl rfl ?_
    exact kt
  obtain ⟨T_2, X_2, e_2, st_2⟩ := getF X_1 hx hZ hown (host := "") (Or.inl (hw _ (List.mem_of_getElem? (i := 36) rfl))) Via.refl e_1 Fv (g := (mkF m 8 #[.val (.ref a1), .val (.int (0 : Int32))] [(.ref a1)])) rfl rfl (hb hby d9_8)
  refine own_go (g' := (mkF m 11 #[.val (.ref a1), .val (.int (0 : Int32))] [(.ref sv)])) st_2 ?_
  refine own_go (T' := T_2) (g' := (mkF m 12 #[.val (.ref a1), .val (.int (0 : Int32))] [(.int (0 : Int32)), (.ref sv)])) (fun t kt => ?_) ?_
  · show Steps p.tables e below (T_2.setTop (mkF m 11 #[.val (.ref a1), .val (.int (0 : Int32))] [(.ref sv)])) t
    refine XS.iloadN X_2.here hx rfl (hb hby d9_11) rfl ?_
    exact kt
  obtain ⟨_, _, ⟨T_3, L_3, k_3, n_3⟩, -, X_3, ⟨Lc_3, hQ_3, l_3, y_3, z_3⟩, st_3⟩ := Jvm.LawKit.callS X_2 hx (y := (⟨"java/lang/StringLatin1", "charAt", "([BI)C"⟩ : MethodName)) hown (mvT hZ (hw _ (List.mem_of_getElem? (i := 59) rfl))) (mvT hZ (hw _ (List.mem_of_getElem? (i := 60) rfl))) (mvT hZ (hw _ (List.mem_of_getElem? (i := 61) rfl))) (mvT hZ (hw _ (List.mem_of_getElem? (i := 62) rfl))) (by decide) (backOf (W := 0) (rlch l Z a0 hw [] sv ks cs fv  h0 n0 Z0 Vs O0 S1 hcs S2 rf) hZ (hw _ (List.mem_of_getElem? (i := 62) rfl)) (hw _ (List.mem_of_getElem? (i := 61) rfl)) (by decide) (by decide)) (g := (mkF m 12 #[.val (.ref a1), .val (.int (0 : Int32))] [(.int (0 : Int32)), (.ref sv)])) rfl (by rw [hml]; rfl) (argsL := [(.ref sv), (.int (0 : Int32))]) (rest := []) (lenOf pd_8 rfl) rfl (by show 2 * 0 + _ ≤ _; exact Nat.le_of_eq rfl) (hb hby d9_12) (fun _ _ => ⟨rfl, e_2, (by decide : 0 + 0 ≤ _), (by decide : 0 + 0 ≤ _)⟩)
  dsimp only [Pt.U, Pt.locs, Pt.cells, Pt.slots] at X_3 l_3 y_3 z_3 st_3 hQ_3
  subst l_3 y_3 z_3
  obtain ⟨rfl, N_3q, e_3⟩ := hQ_3
  have N_3 := Fr.app N_1 N_3q
  refine own_go (g' := (mkF m 15 #[.val (.ref a1), .val (.int (0 : Int32))] [(.int (106 : Int32))])) st_3 ?_
  obtain ⟨fs, hr, hrun, hended, hW, hsame⟩ := X_3.leave (v := some (.int (106 : Int32))) (fun h => by rw [Bd.returns] at h; cases h)
  refine ⟨_, _, ?_, hrun, hended, _, _, rfl, ?_, ⟨_, rfl⟩, hW, hsame.mono (by decide) (by decide)⟩
  · exact retN X_3 hx (t := .char) Bd.returns (by simp) (hb hby d9_15) hr
  · show Q_rch Z _ _ _ _ _ h0 n0 _ T_3.heap _
    rw [e_3]
    exact ⟨rfl, N_3, rfl⟩
theorem pn_4 : plainName "com/example/peakwise/peakwise/Job" = true := by first | (simp [plainName, overriddenIn]; done) | decide +kernel
theorem ef_4 (m : MethodId) (x0 : Addr) : entryFrame m #[(.ref x0)] 3 = mkF m 0 #[.val (.ref x0), .unset, .unset] [] := by first | (simp [entryFrame, mkF, argsToLocals, Value.category]; done) | rfl
def Q_rvid (Z : State) (a1 : Addr) (sv : Addr) (ks : ClassId) (cs : Int32) (fv : Value) (h0 : Heap) (n0 : Nat) (v : Option Value) (h : Heap) (L : List Loc) : Prop := v = none ∧ Fr n0 L ∧ Keep h0 h []
theorem d4_0 : decode prog_19_method_4_code 0 = .ok (.aload_n 0, 1) := by decide +kernel
theorem d4_1 : decode prog_19_method_4_code 1 = .ok (.ldc 46, 2) := by decide +kernel
theorem d4_3 : decode prog_19_method_4_code 3 = .ok (.invokestatic 47, 3) := by decide +kernel
theorem pd_3 : parseMethodDescriptor "(Ljava/lang/Object;Ljava/lang/String;)Ljava/lang/Object;" = some ⟨[(.object "java/lang/Object"), (.object "java/lang/String")], some (.object "java/lang/Object")⟩ := by decide +kernel
theorem d4_6 : decode prog_19_method_4_code 6 = .ok (.pop, 1) := by decide +kernel
theorem d4_7 : decode prog_19_method_4_code 7 = .ok (.aload_n 0, 1) := by decide +kernel
theorem d4_8 : decode prog_19_method_4_code 8 = .ok (.invokevirtual 53, 3) := by decide +kernel
theorem d4_11 : decode prog_19_method_4_code 11 = .ok (.ifCond .eq 13, 3) := by decide +kernel
theorem d4_24 : decode prog_19_method_4_code 24 = .ok (.iconst 0, 1) := by decide +kernel
theorem d4_25 : decode prog_19_method_4_code 25 = .ok (.istore_n 1, 1) := by decide +kernel
theorem d4_26 : decode prog_19_method_4_code 26 = .ok (.iload_n 1, 1) := by decide +kernel
theorem d4_27 : decode prog_19_method_4_code 27 = .ok (.aload_n 0, 1) := by decide +kernel
theorem d4_28 : decode prog_19_method_4_code 28 = .ok (.invokevirtual 61, 3) := by decide +kernel
theorem pd_5 : parseMethodDescriptor "()I" = some ⟨[], some .int⟩ := by decide +kernel
theorem d4_31 : decode prog_19_method_4_code 31 = .ok (.if_icmp .ge 53, 3) := by decide +kernel
theorem d4_34 : decode prog_19_method_4_code 34 = .ok (.aload_n 0, 1) := by decide +kernel
theorem d4_35 : decode prog_19_method_4_code 35 = .ok (.iload_n 1, 1) := by decide +kernel
theorem d4_36 : decode prog_19_method_4_code 36 = .ok (.invokevirtual 65, 3) := by decide +kernel
theorem pd_7 : parseMethodDescriptor "(I)C" = some ⟨[.int], some .char⟩ := by decide +kernel
theorem d4_39 : decode prog_19_method_4_code 39 = .ok (.istore_n 2, 1) := by decide +kernel
theorem d4_40 : decode prog_19_method_4_code 40 = .ok (.iload_n 2, 1) := by decide +kernel
theorem d4_41 : decode prog_19_method_4_code 41 = .ok (.bipush 44, 2) := by decide +kernel
theorem d4_43 : decode prog_19_method_4_code 43 = .ok (.if_icmp .eq 21, 3) := by decide +kernel
theorem d4_46 : decode prog_19_method_4_code 46 = .ok (.iload_n 2, 1) := by decide +kernel
theorem d4_47 : decode prog_19_method_4_code 47 = .ok (.bipush 34, 2) := by decide +kernel
theorem d4_49 : decode prog_19_method_4_code 49 = .ok (.if_icmp .eq 15, 3) := by decide +kernel
theorem d4_52 : decode prog_19_method_4_code 52 = .ok (.iload_n 2, 1) := by decide +kernel
theorem d4_53 : decode prog_19_method_4_code 53 = .ok (.bipush 10, 2) := by decide +kernel
theorem d4_55 : decode prog_19_method_4_code 55 = .ok (.if_icmp .eq 9, 3) := by decide +kernel
theorem d4_58 : decode prog_19_method_4_code 58 = .ok (.iload_n 2, 1) := by decide +kernel
theorem d4_59 : decode prog_19_method_4_code 59 = .ok (.bipush 13, 2) := by decide +kernel
theorem d4_61 : decode prog_19_method_4_code 61 = .ok (.if_icmp .ne 17, 3) := by decide +kernel
theorem d4_78 : decode prog_19_method_4_code 78 = .ok (.iinc 1 1, 3) := by decide +kernel
theorem d4_81 : decode prog_19_method_4_code 81 = .ok (.goto (-55), 3) := by decide +kernel
theorem d4_84 : decode prog_19_method_4_code 84 = .ok (.return_, 1) := by decide +kernel
set_option maxRecDepth 65536 in
set_option maxHeartbeats 40000000 in
theorem rvid (l : Launch) (Z : State) (a0 : Array Value) (hw : ∀ d ∈ tables_1, d.before a0 Z = true) (ws : List Jvm.Cond) (a1 : Addr) (sv : Addr) (ks : ClassId) (cs : Int32) (fv : Value) (h0 : Heap) (n0 : Nat) (Z0 : n0 ≤ h0.size) (Es : Exa Z h0 a1 "java/lang/String") (Fc : Fld Z h0 a1 "java/lang/String" "coder" "B" (.int (0 : Int32))) (Fv : Fld Z h0 a1 "java/lang/String" "value" "[B" (.ref sv)) (Vs : Arv Z h0 sv ks .byte (1 : Int32) [(.int (106 : Int32))] (.int (0 : Int32))) (O0 : Old Z n0 h0) (S1 : Sta Z Z.heap "java/lang/String" "COMPACT_STRINGS" "Z" (.int cs)) (hcs : ¬ (cs = (0 : Int32))) (S2 : Sta Z Z.heap "jdk/internal/util/Preconditions" "SIOOBE_FORMATTER" "Ljava/util/function/BiFunction;" fv) (rf : fv.isRef = true) :
    MetFree l (⟨"com/example/peakwise/peakwise/Job", "requireValidId", "(Ljava/lang/String;)V"⟩ : MethodName) (head1 (Jvm.Cond.code (⟨"com/example/peakwise/peakwise/Job", "requireValidId", "(Ljava/lang/String;)V"⟩ : MethodName) prog_19_method_4_code 3 none :: ws) ({ frames := 4, cells := 2, slots := 12, locals := 63 } : Room)) (fun a U => a = #[(.ref a1)] ∧ Z.Warmed39 U.vm ∧ U.heap = h0) (fun _ _ _ _ _ => True) (fun _ U o U' => ∃ v L, o = .returned v ∧ Q_rvid Z a1 sv ks cs fv h0 n0 v U'.heap L ∧ ReturnedEndW U o U' L ({ frames := 4, cells := 2, slots := 12, locals := 63 } : Room).cells ({ frames := 4, cells := 2, slots := 12, locals := 63 } : Room).slots) := by
  refine MetFree.of_bodySF (plainFor_of_name pn_4) hisR ?_
  intro p e s m args below meth c s₁ Bd hml0 hP hK
  obtain ⟨rfl, hZ, hh⟩ := hP
  have hx := Bd.exec
  have hby := Bd.bytes
  have hml : c.maxLocals = 3 := hml0
  have hown : s.vm.findClass "com/example/peakwise/peakwise/Job" = some m.cls := findClass_of_methodNamed Bd.named
  have hnm := (name_of_methodNamed Bd.named Bd.method).1
  have X0 : Stand p l e ({ frames := 4, cells := 2, slots := 12, locals := 63 } : Room) (s.setVm s.vm) m #[(.ref a1)] below meth c s₁ [] 0 0 := Stand.of_body Bd
  have hZ0 : Z.Warmed39 (s.setVm s.vm).vm := hZ
  have hown0 : (s.setVm s.vm).vm.findClass "com/example/peakwise/peakwise/Job" = some m.cls := hown
  have hS0 : s.Since s.vm 0 := (State.WarmedH.refl s).since 0
  have hk0 : 0 ≤ h0.size := Nat.zero_le _
  have e0 : s₁.heap = h0 := by rw [← hh, Bd.state]; rfl
  have N0 := Fr.nil n0
  refine own_go (g' := (mkF m 0 #[.val (.ref a1), .unset, .unset] [])) (fun t k => castTop (ef_4 m (a1)) k) ?_
  refine own_go (T' := s₁) (g' := (mkF m 1 #[.val (.ref a1), .unset, .unset] [(.ref a1)])) (fun t kt => ?_) ?_
  · show Steps p.tables e below (s₁.setTop (mkF m 0 #[.val (.ref a1), .unset, .unset] [])) t
    refine XS.aloadN X0.here hx rfl (hb hby d4_0) rfl rfl ?_
    exact kt
  obtain ⟨b_1, T_1, h_1, kq_1, X_1, e_1, E_1, hS_1, hk_1, hZ_1, hown_1, st_1⟩ := ldcS X0 hx hZ0 hown0 (hw _ (List.mem_of_getElem? (i := 26) rfl)) (own_wS hw) e0 hS0 hk0 (g := (mkF m 1 #[.val (.ref a1), .unset, .unset] [(.ref a1)])) rfl (hb hby d4_1) (n := 8) (by decide) (by decide) (by decide) (by decide)
  have Z_1 : n0 ≤ h_1.size := Nat.le_trans Z0 E_1.1
  have hk_1' : 0 ≤ h_1.size := Nat.le_trans hk0 E_1.1
  have kk_1 : Keep h0 h_1 [] := (Keep.refl h0 []).ext E_1
  refine own_go (g' := (mkF m 3 #[.val (.ref a1), .unset, .unset] [(.ref b_1), (.ref a1)])) st_1 ?_
  obtain ⟨_, _, ⟨T_2, L_2, k_2, n_2⟩, -, X_2, ⟨Lc_2, hQ_2, l_2, y_2, z_2⟩, st_2⟩ := Jvm.LawKit.callS X_1 hx (y := (⟨"java/util/Objects", "requireNonNull", "(Ljava/lang/Object;Ljava/lang/String;)Ljava/lang/Object;"⟩ : MethodName)) hown_1 (mvT hZ_1 (hw _ (List.mem_of_getElem? (i := 27) rfl))) (mvT hZ_1 (hw _ (List.mem_of_getElem? (i := 28) rfl))) (mvT hZ_1 (hw _ (List.mem_of_getElem? (i := 29) rfl))) (mvT hZ_1 (hw _ (List.mem_of_getElem? (i := 30) rfl))) (by decide) (backOf (W := 0) (rnn l Z a0 hw [] (a1) (b_1)  h_1 n0 Z_1 ) hZ_1 (hw _ (List.mem_of_getElem? (i := 30) rfl)) (hw _ (List.mem_of_getElem? (i := 29) rfl)) (by decide) (by decide)) (g := (mkF m 3 #[.val (.ref a1), .unset, .unset] [(.ref b_1), (.ref a1)])) rfl (by rw [hml]; rfl) (argsL := [(.ref a1), (.ref b_1)]) (rest := []) (lenOf pd_3 rfl) rfl (by show 2 * 0 + _ ≤ _; exact Nat.le_of_eq rfl) (hb hby d4_3) (fun _ _ => ⟨rfl, e_1, (by decide : 2 + 0 ≤ _), (by decide : 12 + 0 ≤ _)⟩)
  dsimp only [Pt.U, Pt.locs, Pt.cells, Pt.slots] at X_2 l_2 y_2 z_2 st_2 hQ_2
  subst l_2 y_2 z_2
  obtain ⟨rfl, N_2q, e_2⟩ := hQ_2
  have N_2 := Fr.app N0 N_2q
  refine own_go (g' := (mkF m 6 #[.val (.ref a1), .unset, .unset] [(.ref a1)])) st_2 ?_
  refine own_go (T' := T_2) (g' := (mkF m 8 #[.val (.ref a1), .unset, .unset] [(.ref a1)])) (fun t kt => ?_) ?_
  · show Steps p.tables e below (T_2.setTop (mkF m 6 #[.val (.ref a1), .unset, .unset] [(.ref a1)])) t
    refine XS.pop X_2.here hx rfl (hb hby d4_6) rfl rfl ?_
    show Steps p.tables e below (T_2.setTop (mkF m 7 #[.val (.ref a1), .unset, .unset] [])) t
    refine XS.aloadN X_2.here hx rfl (hb hby d4_7) rfl rfl ?_
    exact kt
  have f_3 := (Es.ext E_1)
  have f_4 := (Fc.ext E_1)
  have f_5 := (Fv.ext E_1)
  have f_6 := (Vs.ext E_1)
  have f_7 := (O0.ext E_1)
  obtain ⟨cq_8, kq_8, q_8a, q_8b, q_8c⟩ := isOf hZ_1 e_2 f_3
  obtain ⟨_, _, ⟨T_8, L_8, k_8, n_8⟩, -, X_8, ⟨Lc_8, hQ_8, l_8, y_8, z_8⟩, st_8⟩ := X_2.virtualBack hx (y := (⟨"java/lang/String", "isEmpty", "()Z"⟩ : MethodName)) (z := (⟨"java/lang/String", "isEmpty", "()Z"⟩ : MethodName)) hown_1 (mvT hZ_1 (hw _ (List.mem_of_getElem? (i := 31) rfl))) (mvT hZ_1 (hw _ (List.mem_of_getElem? (i := 32) rfl))) (notFace_of_selects (args := #[]) (mvT hZ_1 (hw _ (List.mem_of_getElem? (i := 34) rfl)))) (mvT hZ_1 (hw _ (List.mem_of_getElem? (i := 34) rfl))) (mvT hZ_1 (hw _ (List.mem_of_getElem? (i := 33) rfl))) (by decide) (backOf (W := 0) (rise l Z a0 hw [] (a1) sv ks cs fv h_1 n0 Z_1 f_3 f_4 f_5 f_6 f_7 S1 hcs S2 rf) hZ_1 (hw _ (List.mem_of_getElem? (i := 35) rfl)) (hw _ (List.mem_of_getElem? (i := 5) rfl)) (by decide) (by decide)) q_8a q_8c (g := (mkF m 8 #[.val (.ref a1), .unset, .unset] [(.ref a1)])) rfl (by rw [hml]; rfl) (Steps.refl _) (argsL := []) (rest := []) (lenOf pd_4 rfl) rfl (by show 2 * 0 + _ ≤ _; exact Nat.le_of_eq rfl) (hb hby d4_8) (fun _ _ => ⟨rfl, e_2, (by decide : 2 + 0 ≤ _), (by decide : 12 + 0 ≤ _)⟩)
  dsimp only [Pt.U, Pt.locs, Pt.cells, Pt.slots] at X_8 l_8 y_8 z_8 st_8 hQ_8
  subst l_8 y_8 z_8
  obtain ⟨rfl, N_8q, e_8⟩ := hQ_8
  have N_8 := Fr.app N_2 N_8q
  refine own_go (g' := (mkF m 11 #[.val (.ref a1), .unset, .unset] [(.int (0 : Int32))])) (fun t kt => st_8.trans kt) ?_
  refine own_go (T' := T_8) (g' := (mkF m 28 #[.val (.ref a1), .val (.int (0 : Int32)), .unset] [(.ref a1), (.int (0 : Int32))])) (fun t kt => ?_) ?_
  · show Steps p.tables e below (T_8.setTop (mkF m 11 #[.val (.ref a1), .unset, .unset] [(.int (0 : Int32))])) t
    refine XS.ifYes X_8.here hx rfl (pc0 := 11) (pc' := 24) rfl (hb hby d4_11) rfl ((if0 _ _).trans (teq (by decide : (0 : Int32) = (0 : Int32))).1) (by decide) (by decide) ?_
    show Steps p.tables e below (T_8.setTop (mkF m 24 #[.val (.ref a1), .unset, .unset] [])) t
    refine XS.iconst X_8.here hx rfl (hb hby d4_24) ?_
    show Steps p.tables e below (T_8.setTop (mkF m 25 #[.val (.ref a1), .unset, .unset] [(.int (0 : Int32))])) t
    refine XS.istoreN X_8.here hx rfl (hb hby d4_25) rfl (l' := #[.val (.ref a1), .val (.int (0 : Int32)), .unset]) rfl ?_
    show Steps p.tables e below (T_8.setTop (mkF m 26 #[.val (.ref a1), .val (.int (0 : Int32)), .unset] [])) t
    refine XS.iloadN X_8.here hx rfl (hb hby d4_26) rfl ?_
    show Steps p.tables e below (T_8.setTop (mkF m 27 #[.val (.ref a1), .val (.int (0 : Int32)), .unset] [(.int (0 : Int32))])) t
    refine XS.aloadN X_8.here hx rfl (hb hby d4_27) rfl rfl ?_
    exact kt
  obtain ⟨cq_9, kq_9, q_9a, q_9b, q_9c⟩ := isOf hZ_1 e_8 f_3
  obtain ⟨_, _, ⟨T_9, L_9, k_9, n_9⟩, -, X_9, ⟨Lc_9, hQ_9, l_9, y_9, z_9⟩, st_9⟩ := X_8.virtualBack hx (y := (⟨"java/lang/String", "length", "()I"⟩ : MethodName)) (z := (⟨"java/lang/String", "length", "()I"⟩ : MethodName)) hown_1 (mvT hZ_1 (hw _ (List.mem_of_getElem? (i := 37) rfl))) (mvT hZ_1 (hw _ (List.mem_of_getElem? (i := 38) rfl))) (notFace_of_selects (args := #[]) (mvT hZ_1 (hw _ (List.mem_of_getElem? (i := 40) rfl)))) (mvT hZ_1 (hw _ (List.mem_of_getElem? (i := 40) rfl))) (mvT hZ_1 (hw _ (List.mem_of_getElem? (i := 39) rfl))) (by decide) (backOf (W := 1) (rlen l Z a0 hw [] (a1) sv ks cs fv h_1 n0 Z_1 f_3 f_4 f_5 f_6 f_7 S1 hcs S2 rf) hZ_1 (hw _ (List.mem_of_getElem? (i := 41) rfl)) (hw _ (List.mem_of_getElem? (i := 5) rfl)) (by decide) (by decide)) q_9a q_9c (g := (mkF m 28 #[.val (.ref a1), .val (.int (0 : Int32)), .unset] [(.ref a1), (.int (0 : Int32))])) rfl (by rw [hml]; rfl) (Steps.refl _) (argsL := []) (rest := [(.int (0 : Int32))]) (lenOf pd_5 rfl) rfl (by show 2 * 0 + _ ≤ _; exact Nat.le_of_eq rfl) (hb hby d4_28) (fun _ _ => ⟨rfl, e_8, (by decide : 2 + 0 ≤ _), (by decide : 12 + 0 ≤ _)⟩)
  dsimp only [Pt.U, Pt.locs, Pt.cells, Pt.slots] at X_9 l_9 y_9 z_9 st_9 hQ_9
  subst l_9 y_9 z_9
  obtain ⟨rfl, N_9q, e_9⟩ := hQ_9
  have N_9 := Fr.app N_8 N_9q
  refine own_go (g' := (mkF m 31 #[.val (.ref a1), .val (.int (0 : Int32)), .unset] [(.int (1 : Int32)), (.int (0 : Int32))])) (fun t kt => st_9.trans kt) ?_
  refine own_go (T' := T_9) (g' := (mkF m 36 #[.val (.ref a1), .val (.int (0 : Int32)), .unset] [(.int (0 : Int32)), (.ref a1)])) (fun t kt => ?_) ?_
  · show Steps p.tables e below (T_9.setTop (mkF m 31 #[.val (.ref a1), .val (.int (0 : Int32)), .unset] [(.int (1 : Int32)), (.int (0 : Int32))])) t
    refine XS.icmpNo X_9.here hx rfl (hb hby d4_31) rfl (tlt (by decide : (0 : Int32) < (1 : Int32))).2.1 ?_
    show Steps p.tables e below (T_9.setTop (mkF m 34 #[.val (.ref a1), .val (.int (0 : Int32)), .unset] [])) t
    refine XS.aloadN X_9.here hx rfl (hb hby d4_34) rfl rfl ?_
    show Steps p.tables e below (T_9.setTop (mkF m 35 #[.val (.ref a1), .val (.int (0 : Int32)), .unset] [(.ref a1)])) t
    refine XS.iloadN X_9.here hx rfl (hb hby d4_35) rfl ?_
    exact kt
  obtain ⟨cq_10, kq_10, q_10a, q_10b, q_10c⟩ := isOf hZ_1 e_9 f_3
  obtain ⟨_, _, ⟨T_10, L_10, k_10, n_10⟩, -, X_10, ⟨Lc_10, hQ_10, l_10, y_10, z_10⟩, st_10⟩ := X_9.virtualBack hx (y := (⟨"java/lang/String", "charAt", "(I)C"⟩ : MethodName)) (z := (⟨"java/lang/String", "charAt", "(I)C"⟩ : MethodName)) hown_1 (mvT hZ_1 (hw _ (List.mem_of_getElem? (i := 49) rfl))) (mvT hZ_1 (hw _ (List.mem_of_getElem? (i := 50) rfl))) (notFace_of_selects (args := #[]) (mvT hZ_1 (hw _ (List.mem_of_getElem? (i := 52) rfl)))) (mvT hZ_1 (hw _ (List.mem_of_getElem? (i := 52) rfl))) (mvT hZ_1 (hw _ (List.mem_of_getElem? (i := 51) rfl))) (by decide) (backOf (W := 0) (rch l Z a0 hw [] a1 sv ks cs fv h_1 n0 Z_1 f_3 f_4 f_5 f_6 f_7 S1 hcs S2 rf) hZ_1 (hw _ (List.mem_of_getElem? (i := 53) rfl)) (hw _ (List.mem_of_getElem? (i := 5) rfl)) (by decide) (by decide)) q_10a q_10c (g := (mkF m 36 #[.val (.ref a1), .val (.int (0 : Int32)), .unset] [(.int (0 : Int32)), (.ref a1)])) rfl (by rw [hml]; rfl) (Steps.refl _) (argsL := [(.int (0 : Int32))]) (rest := []) (lenOf pd_7 rfl) rfl (by show 2 * 0 + _ ≤ _; exact Nat.le_of_eq rfl) (hb hby d4_36) (fun _ _ => ⟨rfl, e_9, (by decide : 2 + 0 ≤ _), (by decide : 12 + 0 ≤ _)⟩)
  dsimp only [Pt.U, Pt.locs, Pt.cells, Pt.slots] at X_10 l_10 y_10 z_10 st_10 hQ_10
  subst l_10 y_10 z_10
  obtain ⟨rfl, N_10q, e_10⟩ := hQ_10
  have N_10 := Fr.app N_9 N_10q
  refine own_go (g' := (mkF m 39 #[.val (.ref a1), .val (.int (0 : Int32)), .unset] [(.int (106 : Int32))])) (fun t kt => st_10.trans kt) ?_
  refine own_go (T' := T_10) (g' := (mkF m 28 #[.val (.ref a1), .val (.int (1 : Int32)), .val (.int (106 : Int32))] [(.ref a1), (.int (1 : Int32))])) (fun t kt => ?_) ?_
  · show Steps p.tables e below (T_10.setTop (mkF m 39 #[.val (.ref a1), .val (.int (0 : Int32)), .unset] [(.int (106 : Int32))])) t
    refine XS.istoreN X_10.here hx rfl (hb hby d4_39) rfl (l' := #[.val (.ref a1), .val (.int (0 : Int32)), .val (.int (106 : Int32))]) rfl ?_
    show Steps p.tables e below (T_10.setTop (mkF m 40 #[.val (.ref a1), .val (.int (0 : Int32)), .val (.int (106 : Int32))] [])) t
    refine XS.iloadN X_10.here hx rfl (hb hby d4_40) rfl ?_
    show Steps p.tables e below (T_10.setTop (mkF m 41 #[.val (.ref a1), .val (.int (0 : Int32)), .val (.int (106 : Int32))] [(.int (106 : Int32))])) t
    refine XS.bipush X_10.here hx rfl (hb hby d4_41) ?_
    show Steps p.tables e below (T_10.setTop (mkF m 43 #[.val (.ref a1), .val (.int (0 : Int32)), .val (.int (106 : Int32))] [(.int (44 : Int32)), (.int (106 : Int32))])) t
    refine XS.icmpNo X_10.here hx rfl (hb hby d4_43) rfl (feq (by decide : ¬ ((106 : Int32) = (44 : Int32)))).1 ?_
    show Steps p.tables e below (T_10.setTop (mkF m 46 #[.val (.ref a1), .val (.int (0 : Int32)), .val (.int (106 : Int32))] [])) t
    refine XS.iloadN X_10.here hx rfl (hb hby d4_46) rfl ?_
    show Steps p.tables e below (T_10.setTop (mkF m 47 #[.val (.ref a1), .val (.int (0 : Int32)), .val (.int (106 : Int32))] [(.int (106 : Int32))])) t
    refine XS.bipush X_10.here hx rfl (hb hby d4_47) ?_
    show Steps p.tables e below (T_10.setTop (mkF m 49 #[.val (.ref a1), .val (.int (0 : Int32)), .val (.int (106 : Int32))] [(.int (34 : Int32)), (.int (106 : Int32))])) t
    refine XS.icmpNo X_10.here hx rfl (hb hby d4_49) rfl (feq (by decide : ¬ ((106 : Int32) = (34 : Int32)))).1 ?_
    show Steps p.tables e below (T_10.setTop (mkF m 52 #[.val (.ref a1), .val (.int (0 : Int32)), .val (.int (106 : Int32))] [])) t
    refine XS.iloadN X_10.here hx rfl (hb hby d4_52) rfl ?_
    show Steps p.tables e below (T_10.setTop (mkF m 53 #[.val (.ref a1), .val (.int (0 : Int32)), .val (.int (106 : Int32))] [(.int (106 : Int32))])) t
    refine XS.bipush X_10.here hx rfl (hb hby d4_53) ?_
    show Steps p.tables e below (T_10.setTop (mkF m 55 #[.val (.ref a1), .val (.int (0 : Int32)), .val (.int (106 : Int32))] [(.int (10 : Int32)), (.int (106 : Int32))])) t
    refine XS.icmpNo X_10.here hx rfl (hb hby d4_55) rfl (feq (by decide : ¬ ((106 : Int32) = (10 : Int32)))).1 ?_
    show Steps p.tables e below (T_10.setTop (mkF m 58 #[.val (.ref a1), .val (.int (0 : Int32)), .val (.int (106 : Int32))] [])) t
    refine XS.iloadN X_10.here hx rfl (hb hby d4_58) rfl ?_
    show Steps p.tables e below (T_10.setTop (mkF m 59 #[.val (.ref a1), .val (.int (0 : Int32)), .val (.int (106 : Int32))] [(.int (106 : Int32))])) t
    refine XS.bipush X_10.here hx rfl (hb hby d4_59) ?_
    show Steps p.tables e below (T_10.setTop (mkF m 61 #[.val (.ref a1), .val (.int (0 : Int32)), .val (.int (106 : Int32))] [(.int (13 : Int32)), (.int (106 : Int32))])) t
    refine XS.icmpYes X_10.here hx rfl (pc0 := 61) (pc' := 78) rfl (hb hby d4_61) rfl (feq (by decide : ¬ ((106 : Int32) = (13 : Int32)))).2 (by decide) (by decide) ?_
    show Steps p.tables e below (T_10.setTop (mkF m 78 #[.val (.ref a1), .val (.int (0 : Int32)), .val (.int (106 : Int32))] [])) t
    refine XS.iinc X_10.here hx rfl (hb hby d4_78) rfl (l' := #[.val (.ref a1), .val (.int (1 : Int32)), .val (.int (106 : Int32))]) rfl ?_
    show Steps p.tables e below (T_10.setTop (mkF m 81 #[.val (.ref a1), .val (.int (1 : Int32)), .val (.int (106 : Int32))] [])) t
    refine XS.goto X_10.here hx rfl (pc0 := 81) (pc' := 26) rfl (hb hby d4_81) (by decide) (by decide) ?_
    show Steps p.tables e below (T_10.setTop (mkF m 26 #[.val (.ref a1), .val (.int (1 : Int32)), .val (.int (106 : Int32))] [])) t
    refine XS.iloadN X_10.here hx rfl (hb hby d4_26) rfl ?_
    show Steps p.tables e below (T_10.setTop (mkF m 27 #[.val (.ref a1), .val (.int (1 : Int32)), .val (.int (106 : Int32))] [(.int (1 : Int32))])) t
    refine XS.aloadN X_10.here hx rfl (hb hby d4_27) rfl rfl ?_
    exact kt
  obtain ⟨cq_11, kq_11, q_11a, q_11b, q_11c⟩ := isOf hZ_1 e_10 f_3
  obtain ⟨_, _, ⟨T_11, L_11, k_11, n_11⟩, -, X_11, ⟨Lc_11, hQ_11, l_11, y_11, z_11⟩, st_11⟩ := X_10.virtualBack hx (y := (⟨"java/lang/String", "length", "()I"⟩ : MethodName)) (z := (⟨"java/lang/String", "length", "()I"⟩ : MethodName)) hown_1 (mvT hZ_1 (hw _ (List.mem_of_getElem? (i := 37) rfl))) (mvT hZ_1 (hw _ (List.mem_of_getElem? (i := 38) rfl))) (notFace_of_selects (args := #[]) (mvT hZ_1 (hw _ (List.mem_of_getElem? (i := 40) rfl)))) (mvT hZ_1 (hw _ (List.mem_of_getElem? (i := 40) rfl))) (mvT hZ_1 (hw _ (List.mem_of_getElem? (i := 39) rfl))) (by decide) (backOf (W := 1) (rlen l Z a0 hw [] (a1) sv ks cs fv h_1 n0 Z_1 f_3 f_4 f_5 f_6 f_7 S1 hcs S2 rf) hZ_1 (hw _ (List.mem_of_getElem? (i := 41) rfl)) (hw _ (List.mem_of_getElem? (i := 5) rfl)) (by decide) (by decide)) q_11a q_11c (g := (mkF m 28 #[.val (.ref a1), .val (.int (1 : Int32)), .val (.int (106 : Int32))] [(.ref a1), (.int (1 : Int32))])) rfl (by rw [hml]; rfl) (Steps.refl _) (argsL := []) (rest := [(.int (1 : Int32))]) (lenOf pd_5 rfl) rfl (by show 2 * 0 + _ ≤ _; exact Nat.le_of_eq rfl) (hb hby d4_28) (fun _ _ => ⟨rfl, e_10, (by decide : 2 + 0 ≤ _), (by decide : 12 + 0 ≤ _)⟩)
  dsimp only [Pt.U, Pt.locs, Pt.cells, Pt.slots] at X_11 l_11 y_11 z_11 st_11 hQ_11
  subst l_11 y_11 z_11
  obtain ⟨rfl, N_11q, e_11⟩ := hQ_11
  have N_11 := Fr.app N_10 N_11q
  refine own_go (g' := (mkF m 31 #[.val (.ref a1), .val (.int (1 : Int32)), .val (.int (106 : Int32))] [(.int (1 : Int32)), (.int (1 : Int32))])) (fun t kt => st_11.trans kt) ?_
  refine own_go (T' := T_11) (g' := (mkF m 84 #[.val (.ref a1), .val (.int (1 : Int32)), .val (.int (106 : Int32))] [])) (fun t kt => ?_) ?_
  · show Steps p.tables e below (T_11.setTop (mkF m 31 #[.val (.ref a1), .val (.int (1 : Int32)), .val (.int (106 : Int32))] [(.int (1 : Int32)), (.int (1 : Int32))])) t
    refine XS.icmpYes X_11.here hx rfl (pc0 := 31) (pc' := 84) rfl (hb hby d4_31) rfl (flt (by decide : ¬ ((1 : Int32) < (1 : Int32)))).2.1 (by decide) (by decide) ?_
    exact kt
  obtain ⟨fs, hr, hrun, hended, hE1, hE2, hE3, hE4⟩ := X_11.leaveW hS_1 (by rw [e_11]; exact hk_1) (v := none) (fun _ => rfl)
  refine ⟨_, _, ?_, hrun, hended, _, _, rfl, ?_, hE1, hE2, hE3, hE4.mono (by decide) (by decide)⟩
  · exact X_11.returnOut hx Bd.returns (hb hby d4_84) hr
  · show Q_rvid Z _ _ _ _ _ h0 n0 _ T_11.heap _
    rw [e_11]
    exact ⟨rfl, N_11, kk_1⟩
theorem pn_14 : plainName "com/example/peakwise/peakwise/Job" = true := by first | (simp [plainName, overriddenIn]; done) | decide +kernel
theorem ef_14 (m : MethodId) (x0 : Addr) (x1 : Int64) (x2 : Int64) : entryFrame m #[(.ref x0), (.long x1), (.long x2)] 5 = mkF m 0 #[.val (.ref x0), .val (.long x1), .second, .val (.long x2), .second] [] := by first | (simp [entryFrame, mkF, argsToLocals, Value.category]; done) | rfl
def Q_rir (Z : State) (a1 : Addr) (q2 : Int64) (q3 : Int64) (h0 : Heap) (n0 : Nat) (v : Option Value) (h : Heap) (L : List Loc) : Prop := v = none ∧ Fr n0 L ∧ h = h0
theorem d14_0 : decode prog_19_method_5_code 0 = .ok (.lload_n 1, 1) := by decide +kernel
theorem d14_1 : decode prog_19_method_5_code 1 = .ok (.lload_n 3, 1) := by decide +kernel
theorem d14_2 : decode prog_19_method_5_code 2 = .ok (.lcmp, 1) := by decide +kernel
theorem d14_3 : decode prog_19_method_5_code 3 = .ok (.ifCond .lt 11, 3) := by decide +kernel
theorem d14_6 : decode prog_19_method_5_code 6 = .ok (.lload_n 1, 1) := by decide +kernel
theorem d14_7 : decode prog_19_method_5_code 7 = .ok (.ldc2_w 72, 3) := by decide +kernel
theorem d14_10 : decode prog_19_method_5_code 10 = .ok (.lcmp, 1) := by decide +kernel
theorem d14_11 : decode prog_19_method_5_code 11 = .ok (.ifCond .lt 19, 3) := by decide +kernel
theorem d14_30 : decode prog_19_method_5_code 30 = .ok (.return_, 1) := by decide +kernel
set_option maxRecDepth 65536 in
set_option maxHeartbeats 40000000 in
theorem rir (l : Launch) (Z : State) (a0 : Array Value) (hw : ∀ d ∈ tables_1, d.before a0 Z = true) (ws : List Jvm.Cond) (a1 : Addr) (q2 : Int64) (q3 : Int64) (h0 : Heap) (n0 : Nat) (Z0 : n0 ≤ h0.size) (h1 : ¬ (q2 < q3)) (h2 : q2 < (4611686018427387904 : Int64)) :
    MetFree l (⟨"com/example/peakwise/peakwise/Job", "requireInRange", "(Ljava/lang/String;JJ)V"⟩ : MethodName) (head1 (Jvm.Cond.code (⟨"com/example/peakwise/peakwise/Job", "requireInRange", "(Ljava/lang/String;JJ)V"⟩ : MethodName) prog_19_method_5_code 5 none :: ws) ({ frames := 0, cells := 0, slots := 0, locals := 0 } : Room)) (fun a U => a = #[(.ref a1), (.long q2), (.long q3)] ∧ Z.Warmed39 U.vm ∧ U.heap = h0) (fun _ _ _ _ _ => True) (fun _ U o U' => ∃ v L, o = .returned v ∧ Q_rir Z a1 q2 q3 h0 n0 v U'.heap L ∧ FrameEnd U o U' L ({ frames := 0, cells := 0, slots := 0, locals := 0 } : Room).cells ({ frames := 0, cells := 0, slots := 0, locals := 0 } : Room).slots) := by
  refine MetFree.of_bodySF (plainFor_of_name pn_14) hisR ?_
  intro p e s m args below meth c s₁ Bd hml0 hP hK
  obtain ⟨rfl, hZ, hh⟩ := hP
  have hx := Bd.exec
  have hby := Bd.bytes
  have hml : c.maxLocals = 5 := hml0
  have hown : s.vm.findClass "com/example/peakwise/peakwise/Job" = some m.cls := findClass_of_methodNamed Bd.named
  have hnm := (name_of_methodNamed Bd.named Bd.method).1
  have X0 : Stand p l e ({ frames := 0, cells := 0, slots := 0, locals := 0 } : Room) s m #[(.ref a1), (.long q2), (.long q3)] below meth c s₁ [] 0 0 := Stand.of_body Bd
  have e0 : s₁.heap = h0 := by rw [← hh, Bd.state]; rfl
  have N0 := Fr.nil n0
  refine own_go (g' := (mkF m 0 #[.val (.ref a1), .val (.long q2), .second, .val (.long q3), .second] [])) (fun t k => castTop (ef_14 m (a1) (q2) (q3)) k) ?_
  refine own_go (T' := s₁) (g' := (mkF m 30 #[.val (.ref a1), .val (.long q2), .second, .val (.long q3), .second] [])) (fun t kt => ?_) ?_
  · show Steps p.tables e below (s₁.setTop (mkF m 0 #[.val (.ref a1), .val (.long q2), .second, .val (.long q3), .second] [])) t
    refine XS.lloadN X0.here hx rfl (hb hby d14_0) rfl ?_
    show Steps p.tables e below (s₁.setTop (mkF m 1 #[.val (.ref a1), .val (.long q2), .second, .val (.long q3), .second] [(.long q2)])) t
    refine XS.lloadN X0.here hx rfl (hb hby d14_1) rfl ?_
    show Steps p.tables e below (s₁.setTop (mkF m 2 #[.val (.ref a1), .val (.long q2), .second, .val (.long q3), .second] [(.long q3), (.long q2)])) t
    refine XS.lcmp X0.here hx rfl (hb hby d14_2) rfl ?_
    show Steps p.tables e below (s₁.setTop (mkF m 3 #[.val (.ref a1), .val (.long q2), .second, .val (.long q3), .second] [(.int (lcmpW q2 q3))])) t
    refine XS.ifNo X0.here hx rfl (hb hby d14_3) rfl ((if0 _ _).trans (flt (fun q => (h1 : ¬ (q2 < q3)) ((lw_lt _ _).mp q))).1) ?_
    show Steps p.tables e below (s₁.setTop (mkF m 6 #[.val (.ref a1), .val (.long q2), .second, .val (.long q3), .second] [])) t
    refine XS.lloadN X0.here hx rfl (hb hby d14_6) rfl ?_
    show Steps p.tables e below (s₁.setTop (mkF m 7 #[.val (.ref a1), .val (.long q2), .second, .val (.long q3), .second] [(.long q2)])) t
    refine X0.ldc2Long hx hown (mvT hZ (hw _ (List.mem_of_getElem? (i := 75) rfl))) (g := (mkF m 7 #[.val (.ref a1), .val (.long q2), .second, .val (.long q3), .second] [(.long q2)])) rfl (hb hby d14_7) _ ?_
    show Steps p.tables e below (s₁.setTop (mkF m 10 #[.val (.ref a1), .val (.long q2), .second, .val (.long q3), .second] [(.long (4611686018427387904 : Int64)), (.long q2)])) t
    refine XS.lcmp X0.here hx rfl (hb hby d14_10) rfl ?_
    show Steps p.tables e below (s₁.setTop (mkF m 11 #[.val (.ref a1), .val (.long q2), .second, .val (.long q3), .second] [(.int (lcmpW q2 (4611686018427387904 : Int64)))])) t
    refine XS.ifYes X0.here hx rfl (pc0 := 11) (pc' := 30) rfl (hb hby d14_11) rfl ((if0 _ _).trans (tlt ((lw_lt _ _).mpr (h2 : q2 < (4611686018427387904 : Int64)))).1) (by decide) (by decide) ?_
    exact kt
  obtain ⟨fs, hr, hrun, hended, hW, hsame⟩ := X0.leave (v := none) (fun _ => rfl)
  refine ⟨_, _, ?_, hrun, hended, _, _, rfl, ?_, ⟨_, rfl⟩, hW, hsame.mono (by decide) (by decide)⟩
  · exact X0.returnOut hx Bd.returns (hb hby d14_30) hr
  · show Q_rir Z _ _ _ h0 n0 _ s₁.heap _
    rw [e0]
    exact ⟨rfl, N0, rfl⟩
theorem pn_2 : plainName "java/lang/Record" = true := by first | (simp [plainName, overriddenIn]; done) | decide +kernel
theorem ef_2 (m : MethodId) (x0 : Addr) : entryFrame m #[(.ref x0)] 1 = mkF m 0 #[.val (.ref x0)] [] := by first | (simp [entryFrame, mkF, argsToLocals, Value.category]; done) | rfl
def Q_rrec (Z : State) (a1 : Addr) (h0 : Heap) (n0 : Nat) (v : Option Value) (h : Heap) (L : List Loc) : Prop := v = none ∧ Fr n0 L ∧ h = h0
theorem d2_0 : decode jdk_30_method_1_code 0 = .ok (.aload_n 0, 1) := by decide +kernel
theorem d2_1 : decode jdk_30_method_1_code 1 = .ok (.invokespecial 1, 3) := by decide +kernel
theorem d2_4 : decode jdk_30_method_1_code 4 = .ok (.return_, 1) := by decide +kernel
set_option maxRecDepth 65536 in
set_option maxHeartbeats 40000000 in
theorem rrec (l : Launch) (Z : State) (a0 : Array Value) (hw : ∀ d ∈ tables_1, d.before a0 Z = true) (ws : List Jvm.Cond) (a1 : Addr) (h0 : Heap) (n0 : Nat) (Z0 : n0 ≤ h0.size)  :
    MetFree l (⟨"java/lang/Record", "<init>", "()V"⟩ : MethodName) (head1 (Jvm.Cond.code (⟨"java/lang/Record", "<init>", "()V"⟩ : MethodName) jdk_30_method_1_code 1 none :: ws) ({ frames := 1, cells := 0, slots := 0, locals := 12 } : Room)) (fun a U => a = #[(.ref a1)] ∧ Z.Warmed39 U.vm ∧ U.heap = h0) (fun _ _ _ _ _ => True) (fun _ U o U' => ∃ v L, o = .returned v ∧ Q_rrec Z a1 h0 n0 v U'.heap L ∧ FrameEnd U o U' L ({ frames := 1, cells := 0, slots := 0, locals := 12 } : Room).cells ({ frames := 1, cells := 0, slots := 0, locals := 12 } : Room).slots) := by
  refine MetFree.of_bodySF (plainFor_of_name pn_2) hisR ?_
  intro p e s m args below meth c s₁ Bd hml0 hP hK
  obtain ⟨rfl, hZ, hh⟩ := hP
  have hx := Bd.exec
  have hby := Bd.bytes
  have hml : c.maxLocals = 1 := hml0
  have hown : s.vm.findClass "java/lang/Record" = some m.cls := findClass_of_methodNamed Bd.named
  have hnm := (name_of_methodNamed Bd.named Bd.method).1
  have X0 : Stand p l e ({ frames := 1, cells := 0, slots := 0, locals := 12 } : Room) s m #[(.ref a1)] below meth c s₁ [] 0 0 := Stand.of_body Bd
  have e0 : s₁.heap = h0 := by rw [← hh, Bd.state]; rfl
  have N0 := Fr.nil n0
  refine own_go (g' := (mkF m 0 #[.val (.ref a1)] [])) (fun t k => castTop (ef_2 m (a1)) k) ?_
  refine own_go (T' := s₁) (g' := (mkF m 1 #[.val (.ref a1)] [(.ref a1)])) (fun t kt => ?_) ?_
  · show Steps p.tables e below (s₁.setTop (mkF m 0 #[.val (.ref a1)] [])) t
    refine XS.aloadN X0.here hx rfl (hb hby d2_0) rfl rfl ?_
    exact kt
  obtain ⟨T_1, X_1, e_1, st_1⟩ := initO X0 hx hZ hown (hw _ (List.mem_of_getElem? (i := 20) rfl)) (hw _ (List.mem_of_getElem? (i := 21) rfl)) (hw _ (List.mem_of_getElem? (i := 22) rfl)) e0 (g := (mkF m 1 #[.val (.ref a1)] [(.ref a1)])) rfl (by rw [hml]; rfl) rfl (hb hby d2_1) (by decide) (W := 0) (by show 2 * 0 + _ ≤ _; exact Nat.le_of_eq rfl) (by decide)
  refine own_go (g' := (mkF m 4 #[.val (.ref a1)] [])) st_1 ?_
  obtain ⟨fs, hr, hrun, hended, hW, hsame⟩ := X_1.leave (v := none) (fun _ => rfl)
  refine ⟨_, _, ?_, hrun, hended, _, _, rfl, ?_, ⟨_, rfl⟩, hW, hsame.mono (by decide) (by decide)⟩
  · exact X_1.returnOut hx Bd.returns (hb hby d2_4) hr
  · show Q_rrec Z _ h0 n0 _ T_1.heap _
    rw [e_1]
    exact ⟨rfl, N0, rfl⟩
theorem pn_1 : plainName "com/example/peakwise/peakwise/Job" = true := by first | (simp [plainName, overriddenIn]; done) | decide +kernel
theorem ef_1 (m : MethodId) (x0 : Addr) (x1 : Addr) (x2 : Int64) (x3 : Int64) (x4 : Int64) (x5 : Int64) : entryFrame m #[(.ref x0), (.ref x1), (.long x2), (.long x3), (.long x4), (.long x5)] 10 = mkF m 0 #[.val (.ref x0), .val (.ref x1), .val (.long x2), .second, .val (.long x3), .second, .val (.long x4), .second, .val (.long x5), .second] [] := by first | (simp [entryFrame, mkF, argsToLocals, Value.category]; done) | rfl
def Q_rjob (Z : State) (a1 : Addr) (a2 : Addr) (q3 : Int64) (q4 : Int64) (q5 : Int64) (sv : Addr) (ks : ClassId) (cs : Int32) (fv : Value) (h0 : Heap) (n0 : Nat) (v : Option Value) (h : Heap) (L : List Loc) : Prop := v = none ∧ Fr n0 L ∧ Keep h0 h [a1] ∧ Fld Z h a1 "com/example/peakwise/peakwise/Job" "release" "J" (.long q3) ∧ Fld Z h a1 "com/example/peakwise/peakwise/Job" "deadline" "J" (.long q4) ∧ Fld Z h a1 "com/example/peakwise/peakwise/Job" "width" "J" (.long q5)
theorem d1_0 : decode prog_19_method_1_code 0 = .ok (.aload_n 0, 1) := by decide +kernel
theorem d1_1 : decode prog_19_method_1_code 1 = .ok (.invokespecial 1, 3) := by decide +kernel
theorem pd_1 : parseMethodDescriptor "()V" = some ⟨[], none⟩ := by decide +kernel
theorem d1_4 : decode prog_19_method_1_code 4 = .ok (.aload_n 1, 1) := by decide +kernel
theorem d1_5 : decode prog_19_method_1_code 5 = .ok (.invokestatic 7, 3) := by decide +kernel
theorem pd_2 : parseMethodDescriptor "(Ljava/lang/String;)V" = some ⟨[(.object "java/lang/String")], none⟩ := by decide +kernel
theorem d1_8 : decode prog_19_method_1_code 8 = .ok (.ldc 13, 2) := by decide +kernel
theorem d1_10 : decode prog_19_method_1_code 10 = .ok (.lload_n 2, 1) := by decide +kernel
theorem d1_11 : decode prog_19_method_1_code 11 = .ok (.lconst 0, 1) := by decide +kernel
theorem d1_12 : decode prog_19_method_1_code 12 = .ok (.invokestatic 15, 3) := by decide +kernel
theorem pd_11 : parseMethodDescriptor "(Ljava/lang/String;JJ)V" = some ⟨[(.object "java/lang/String"), .long, .long], none⟩ := by decide +kernel
theorem d1_15 : decode prog_19_method_1_code 15 = .ok (.ldc 19, 2) := by decide +kernel
theorem d1_17 : decode prog_19_method_1_code 17 = .ok (.lload 6, 2) := by decide +kernel
theorem d1_19 : decode prog_19_method_1_code 19 = .ok (.lconst 1, 1) := by decide +kernel
theorem d1_20 : decode prog_19_method_1_code 20 = .ok (.invokestatic 15, 3) := by decide +kernel
theorem d1_23 : decode prog_19_method_1_code 23 = .ok (.ldc 21, 2) := by decide +kernel
theorem d1_25 : decode prog_19_method_1_code 25 = .ok (.lload 8, 2) := by decide +kernel
theorem d1_27 : decode prog_19_method_1_code 27 = .ok (.lconst 1, 1) := by decide +kernel
theorem d1_28 : decode prog_19_method_1_code 28 = .ok (.invokestatic 15, 3) := by decide +kernel
theorem d1_31 : decode prog_19_method_1_code 31 = .ok (.ldc 23, 2) := by decide +kernel
theorem d1_33 : decode prog_19_method_1_code 33 = .ok (.lload 4, 2) := by decide +kernel
theorem d1_35 : decode prog_19_method_1_code 35 = .ok (.lconst 0, 1) := by decide +kernel
theorem d1_36 : decode prog_19_method_1_code 36 = .ok (.invokestatic 15, 3) := by decide +kernel
theorem d1_39 : decode prog_19_method_1_code 39 = .ok (.lload 4, 2) := by decide +kernel
theorem d1_41 : decode prog_19_method_1_code 41 = .ok (.lload_n 2, 1) := by decide +kernel
theorem d1_42 : decode prog_19_method_1_code 42 = .ok (.lload 6, 2) := by decide +kernel
theorem d1_44 : decode prog_19_method_1_code 44 = .ok (.ladd, 1) := by decide +kernel
theorem d1_45 : decode prog_19_method_1_code 45 = .ok (.lcmp, 1) := by decide +kernel
theorem d1_46 : decode prog_19_method_1_code 46 = .ok (.ifCond .ge 22, 3) := by decide +kernel
theorem d1_68 : decode prog_19_method_1_code 68 = .ok (.aload_n 0, 1) := by decide +kernel
theorem d1_69 : decode prog_19_method_1_code 69 = .ok (.aload_n 1, 1) := by decide +kernel
theorem d1_70 : decode prog_19_method_1_code 70 = .ok (.putfield 33, 3) := by decide +kernel
theorem d1_73 : decode prog_19_method_1_code 73 = .ok (.aload_n 0, 1) := by decide +kernel
theorem d1_74 : decode prog_19_method_1_code 74 = .ok (.lload_n 2, 1) := by decide +kernel
theorem d1_75 : decode prog_19_method_1_code 75 = .ok (.putfield 37, 3) := by decide +kernel
theorem d1_78 : decode prog_19_method_1_code 78 = .ok (.aload_n 0, 1) := by decide +kernel
theorem d1_79 : decode prog_19_method_1_code 79 = .ok (.lload 4, 2) := by decide +kernel
theorem d1_81 : decode prog_19_method_1_code 81 = .ok (.putfield 40, 3) := by decide +kernel
theorem d1_84 : decode prog_19_method_1_code 84 = .ok (.aload_n 0, 1) := by decide +kernel
theorem d1_85 : decode prog_19_method_1_code 85 = .ok (.lload 6, 2) := by decide +kernel
theorem d1_87 : decode prog_19_method_1_code 87 = .ok (.putfield 42, 3) := by decide +kernel
theorem d1_90 : decode prog_19_method_1_code 90 = .ok (.aload_n 0, 1) := by decide +kernel
theorem d1_91 : decode prog_19_method_1_code 91 = .ok (.lload 8, 2) := by decide +kernel
theorem d1_93 : decode prog_19_method_1_code 93 = .ok (.putfield 44, 3) := by decide +kernel
theorem d1_96 : decode prog_19_method_1_code 96 = .ok (.return_, 1) := by decide +kernel
set_option maxRecDepth 65536 in
set_option maxHeartbeats 40000000 in
theorem rjob (l : Launch) (Z : State) (a0 : Array Value) (hw : ∀ d ∈ tables_1, d.before a0 Z = true) (ws : List Jvm.Cond) (a1 : Addr) (a2 : Addr) (q3 : Int64) (q4 : Int64) (q5 : Int64) (sv : Addr) (ks : ClassId) (cs : Int32) (fv : Value) (h0 : Heap) (n0 : Nat) (Z0 : n0 ≤ h0.size) (E1 : Exa Z h0 a1 "com/example/peakwise/peakwise/Job") (G_id : Fld Z h0 a1 "com/example/peakwise/peakwise/Job" "id" "Ljava/lang/String;" .null) (G_release : Fld Z h0 a1 "com/example/peakwise/peakwise/Job" "release" "J" (.long (0 : Int64))) (G_deadline : Fld Z h0 a1 "com/example/peakwise/peakwise/Job" "deadline" "J" (.long (0 : Int64))) (G_width : Fld Z h0 a1 "com/example/peakwise/peakwise/Job" "width" "J" (.long (0 : Int64))) (G_height : Fld Z h0 a1 "com/example/peakwise/peakwise/Job" "height" "J" (.long (0 : Int64))) (g_a1 : n0 ≤ a1) (Es : Exa Z h0 a2 "java/lang/String") (Fc : Fld Z h0 a2 "java/lang/String" "coder" "B" (.int (0 : Int32))) (Fv : Fld Z h0 a2 "java/lang/String" "value" "[B" (.ref sv)) (Vs : Arv Z h0 sv ks .byte (1 : Int32) [(.int (106 : Int32))] (.int (0 : Int32))) (O0 : Old Z n0 h0) (S1 : Sta Z Z.heap "java/lang/String" "COMPACT_STRINGS" "Z" (.int cs)) (hcs : ¬ (cs = (0 : Int32))) (S2 : Sta Z Z.heap "jdk/internal/util/Preconditions" "SIOOBE_FORMATTER" "Ljava/util/function/BiFunction;" fv) (rf : fv.isRef = true) (hr : ¬ (q3 < (0 : Int64)) ∧ q3 < (4611686018427387904 : Int64) ∧ ¬ (q5 < (1 : Int64)) ∧ q5 < (4611686018427387904 : Int64) ∧ ¬ (q4 < (0 : Int64)) ∧ q4 < (4611686018427387904 : Int64) ∧ ¬ (q4 < q3 + q5)) :
    MetFree l (⟨"com/example/peakwise/peakwise/Job", "<init>", "(Ljava/lang/String;JJJJ)V"⟩ : MethodName) (head1 (Jvm.Cond.code (⟨"com/example/peakwise/peakwise/Job", "<init>", "(Ljava/lang/String;JJJJ)V"⟩ : MethodName) prog_19_method_1_code 10 none :: ws) ({ frames := 5, cells := 10, slots := 132, locals := 77 } : Room)) (fun a U => a = #[(.ref a1), (.ref a2), (.long q3), (.long q4), (.long q5), (.long (1 : Int64))] ∧ Z.Warmed39 U.vm ∧ U.heap = h0) (fun _ _ _ _ _ => True) (fun _ U o U' => ∃ v L, o = .returned v ∧ Q_rjob Z a1 a2 q3 q4 q5 sv ks cs fv h0 n0 v U'.heap L ∧ ReturnedEndW U o U' L ({ frames := 5, cells := 10, slots := 132, locals := 77 } : Room).cells ({ frames := 5, cells := 10, slots := 132, locals := 77 } : Room).slots) := by
  refine MetFree.of_bodySF (plainFor_of_name pn_1) hisR ?_
  intro p e s m args below meth c s₁ Bd hml0 hP hK
  obtain ⟨rfl, hZ, hh⟩ := hP
  have hx := Bd.exec
  have hby := Bd.bytes
  have hml : c.maxLocals = 10 := hml0
  have hown : s.vm.findClass "com/example/peakwise/peakwise/Job" = some m.cls := findClass_of_methodNamed Bd.named
  have hnm := (name_of_methodNamed Bd.named Bd.method).1
  have X0 : Stand p l e ({ frames := 5, cells := 10, slots := 132, locals := 77 } : Room) (s.setVm s.vm) m #[(.ref a1), (.ref a2), (.long q3), (.long q4), (.long q5), (.long (1 : Int64))] below meth c s₁ [] 0 0 := Stand.of_body Bd
  have hZ0 : Z.Warmed39 (s.setVm s.vm).vm := hZ
  have hown0 : (s.setVm s.vm).vm.findClass "com/example/peakwise/peakwise/Job" = some m.cls := hown
  have hS0 : s.Since s.vm 0 := (State.WarmedH.refl s).since 0
  have hk0 : 0 ≤ h0.size := Nat.zero_le _
  have e0 : s₁.heap = h0 := by rw [← hh, Bd.state]; rfl
  have N0 := Fr.nil n0
  refine own_go (g' := (mkF m 0 #[.val (.ref a1), .val (.ref a2), .val (.long q3), .second, .val (.long q4), .second, .val (.long q5), .second, .val (.long (1 : Int64)), .second] [])) (fun t k => castTop (ef_1 m (a1) (a2) (q3) (q4) (q5) ((1 : Int64))) k) ?_
  refine own_go (T' := s₁) (g' := (mkF m 1 #[.val (.ref a1), .val (.ref a2), .val (.long q3), .second, .val (.long q4), .second, .val (.long q5), .second, .val (.long (1 : Int64)), .second] [(.ref a1)])) (fun t kt => ?_) ?_
  · show Steps p.tables e below (s₁.setTop (mkF m 0 #[.val (.ref a1), .val (.ref a2), .val (.long q3), .second, .val (.long q4), .second, .val (.long q5), .second, .val (.long (1 : Int64)), .second] [])) t
    refine XS.aloadN X0.here hx rfl (hb hby d1_0) rfl rfl ?_
    exact kt
  obtain ⟨_, _, ⟨T_1, L_1, k_1, n_1⟩, -, X_1, ⟨Lc_1, hQ_1, l_1, y_1, z_1⟩, st_1⟩ := X0.specialBack hx (y := (⟨"java/lang/Record", "<init>", "()V"⟩ : MethodName)) rfl hown0 (mvT hZ0 (hw _ (List.mem_of_getElem? (i := 15) rfl))) (mvT hZ0 (hw _ (List.mem_of_getElem? (i := 16) rfl))) (mvT hZ0 (hw _ (List.mem_of_getElem? (i := 19) rfl))) (by decide) (backOf (W := 0) (rrec l Z a0 hw [] (a1)  h0 n0 Z0 ) hZ0 (hw _ (List.mem_of_getElem? (i := 19) rfl)) (hw _ (List.mem_of_getElem? (i := 18) rfl)) (by decide) (by decide)) (g := (mkF m 1 #[.val (.ref a1), .val (.ref a2), .val (.long q3), .second, .val (.long q4), .second, .val (.long q5), .second, .val (.long (1 : Int64)), .second] [(.ref a1)])) rfl (by rw [hml]; rfl) (Steps.refl _) (a := a1) (argsL := []) (rest := []) (lenOf pd_1 rfl) rfl (by show 2 * 0 + _ ≤ _; exact Nat.le_of_eq rfl) (hb hby d1_1) (fun _ _ => ⟨rfl, e0, (by decide : 0 + 0 ≤ _), (by decide : 0 + 0 ≤ _)⟩)
  dsimp only [Pt.U, Pt.locs, Pt.cells, Pt.slots] at X_1 l_1 y_1 z_1 st_1 hQ_1
  subst l_1 y_1 z_1
  obtain ⟨rfl, N_1q, e_1⟩ := hQ_1
  have N_1 := Fr.app N0 N_1q
  refine own_go (g' := (mkF m 4 #[.val (.ref a1), .val (.ref a2), .val (.long q3), .second, .val (.long q4), .second, .val (.long q5), .second, .val (.long (1 : Int64)), .second] [])) (fun t kt => st_1.trans kt) ?_
  refine own_go (T' := T_1) (g' := (mkF m 5 #[.val (.ref a1), .val (.ref a2), .val (.long q3), .second, .val (.long q4), .second, .val (.long q5), .second, .val (.long (1 : Int64)), .second] [(.ref a2)])) (fun t kt => ?_) ?_
  · show Steps p.tables e below (T_1.setTop (mkF m 4 #[.val (.ref a1), .val (.ref a2), .val (.long q3), .second, .val (.long q4), .second, .val (.long q5), .second, .val (.long (1 : Int64)), .second] [])) t
    refine XS.aloadN X_1.here hx rfl (hb hby d1_4) rfl rfl ?_
    exact kt
  obtain ⟨_, _, ⟨T_2, L_2, k_2, n_2⟩, -, X_2w, hSw_2, hgr_2, ⟨Lc_2, hQ_2, l_2, y_2, z_2⟩, st_2⟩ := callSS X_1 hx (y := (⟨"com/example/peakwise/peakwise/Job", "requireValidId", "(Ljava/lang/String;)V"⟩ : MethodName)) hown0 (mvT hZ0 (hw _ (List.mem_of_getElem? (i := 23) rfl))) (mvT hZ0 (hw _ (List.mem_of_getElem? (i := 24) rfl))) (mvT hZ0 (hw _ (List.mem_of_getElem? (i := 3) rfl))) (mvT hZ0 (hw _ (List.mem_of_getElem? (i := 25) rfl))) (by decide) (backOfS (W := 0) (rvid l Z a0 hw [] (a2) sv ks cs fv h0 n0 Z0 Es Fc Fv Vs O0 S1 hcs S2 rf) hZ0 (hw _ (List.mem_of_getElem? (i := 25) rfl)) (hw _ (List.mem_of_getElem? (i := 3) rfl)) (by decide) (by decide)) (g := (mkF m 5 #[.val (.ref a1), .val (.ref a2), .val (.long q3), .second, .val (.long q4), .second, .val (.long q5), .second, .val (.long (1 : Int64)), .second] [(.ref a2)])) rfl (by rw [hml]; rfl) (argsL := [(.ref a2)]) (rest := []) (lenOf pd_2 rfl) rfl (by show 2 * 0 + _ ≤ _; exact Nat.le_of_eq rfl) (hb hby d1_5) (fun _ _ => ⟨rfl, e_1, (by decide : 0 + 2 ≤ _), (by decide : 0 + 12 ≤ _)⟩)
  dsimp only [Pt.U, Pt.locs, Pt.cells, Pt.slots] at X_2w hSw_2 hgr_2 l_2 y_2 z_2 st_2 hQ_2
  subst l_2 y_2 z_2
  obtain ⟨X_2, hS_2, hZ_2, hown_2⟩ := rebS hS0 (by rw [e_1]; exact hk0) X_2w hSw_2 hgr_2 hZ0 hown0
  obtain ⟨rfl, N_2q, K_2⟩ := hQ_2
  have N_2 := Fr.app N_1 N_2q
  have Z_2 : n0 ≤ T_2.heap.size := Nat.le_trans Z0 K_2.1
  have hk_2' : 0 ≤ T_2.heap.size := Nat.le_trans hk0 K_2.1
  have kk_2 : Keep h0 T_2.heap [a1] := (Keep.refl h0 [a1]).trans K_2 all0
  refine own_go (g' := (mkF m 8 #[.val (.ref a1), .val (.ref a2), .val (.long q3), .second, .val (.long q4), .second, .val (.long q5), .second, .val (.long (1 : Int64)), .second] [])) (fun t kt => st_2.trans kt) ?_
  obtain ⟨b_3, T_3, h_3, kq_3, X_3, e_3, E_3, hS_3, hk_3, hZ_3, hown_3, st_3⟩ := ldcS X_2 hx hZ_2 hown_2 (hw _ (List.mem_of_getElem? (i := 71) rfl)) (own_wS hw) rfl hS_2 (Nat.le_refl _) (g := (mkF m 8 #[.val (.ref a1), .val (.ref a2), .val (.long q3), .second, .val (.long q4), .second, .val (.long q5), .second, .val (.long (1 : Int64)), .second] [])) rfl (hb hby d1_8) (n := 28) (by decide) (by decide) (by decide) (by decide)
  have Z_3 : n0 ≤ h_3.size := Nat.le_trans Z_2 E_3.1
  have hk_3' : T_2.heap.size ≤ h_3.size := Nat.le_trans (Nat.le_refl _) E_3.1
  have kk_3 : Keep h0 h_3 [a1] := kk_2.ext E_3
  refine own_go (g' := (mkF m 10 #[.val (.ref a1), .val (.ref a2), .val (.long q3), .second, .val (.long q4), .second, .val (.long q5), .second, .val (.long (1 : Int64)), .second] [(.ref b_3)])) st_3 ?_
  refine own_go (T' := T_3) (g' := (mkF m 12 #[.val (.ref a1), .val (.ref a2), .val (.long q3), .second, .val (.long q4), .second, .val (.long q5), .second, .val (.long (1 : Int64)), .second] [(.long (0 : Int64)), (.long q3), (.ref b_3)])) (fun t kt => ?_) ?_
  · show Steps p.tables e below (T_3.setTop (mkF m 10 #[.val (.ref a1), .val (.ref a2), .val (.long q3), .second, .val (.long q4), .second, .val (.long q5), .second, .val (.long (1 : Int64)), .second] [(.ref b_3)])) t
    refine XS.lloadN X_3.here hx rfl (hb hby d1_10) rfl ?_
    show Steps p.tables e below (T_3.setTop (mkF m 11 #[.val (.ref a1), .val (.ref a2), .val (.long q3), .second, .val (.long q4), .second, .val (.long q5), .second, .val (.long (1 : Int64)), .second] [(.long q3), (.ref b_3)])) t
    refine XS.lconst X_3.here hx rfl (hb hby d1_11) ?_
    exact kt
  obtain ⟨_, _, ⟨T_4, L_4, k_4, n_4⟩, -, X_4, ⟨Lc_4, hQ_4, l_4, y_4, z_4⟩, st_4⟩ := Jvm.LawKit.callS X_3 hx (y := (⟨"com/example/peakwise/peakwise/Job", "requireInRange", "(Ljava/lang/String;JJ)V"⟩ : MethodName)) hown_3 (mvT hZ_3 (hw _ (List.mem_of_getElem? (i := 72) rfl))) (mvT hZ_3 (hw _ (List.mem_of_getElem? (i := 73) rfl))) (mvT hZ_3 (hw _ (List.mem_of_getElem? (i := 3) rfl))) (mvT hZ_3 (hw _ (List.mem_of_getElem? (i := 74) rfl))) (by decide) (backOf (W := 0) (rir l Z a0 hw [] (b_3) (q3) ((0 : Int64))  h_3 n0 Z_3 hr.1 hr.2.1) hZ_3 (hw _ (List.mem_of_getElem? (i := 74) rfl)) (hw _ (List.mem_of_getElem? (i := 3) rfl)) (by decide) (by decide)) (g := (mkF m 12 #[.val (.ref a1), .val (.ref a2), .val (.long q3), .second, .val (.long q4), .second, .val (.long q5), .second, .val (.long (1 : Int64)), .second] [(.long (0 : Int64)), (.long q3), (.ref b_3)])) rfl (by rw [hml]; rfl) (argsL := [(.ref b_3), (.long q3), (.long (0 : Int64))]) (rest := []) (lenOf pd_11 rfl) rfl (by show 2 * 0 + _ ≤ _; exact Nat.le_of_eq rfl) (hb hby d1_12) (fun _ _ => ⟨rfl, e_3, (by decide : 4 + 0 ≤ _), (by decide : 44 + 0 ≤ _)⟩)
  dsimp only [Pt.U, Pt.locs, Pt.cells, Pt.slots] at X_4 l_4 y_4 z_4 st_4 hQ_4
  subst l_4 y_4 z_4
  obtain ⟨rfl, N_4q, e_4⟩ := hQ_4
  have N_4 := Fr.app N_2 N_4q
  refine own_go (g' := (mkF m 15 #[.val (.ref a1), .val (.ref a2), .val (.long q3), .second, .val (.long q4), .second, .val (.long q5), .second, .val (.long (1 : Int64)), .second] [])) st_4 ?_
  obtain ⟨b_5, T_5, h_5, kq_5, X_5, e_5, E_5, hS_5, hk_5, hZ_5, hown_5, st_5⟩ := ldcS X_4 hx hZ_3 hown_3 (hw _ (List.mem_of_getElem? (i := 76) rfl)) (own_wS hw) e_4 hS_3 hk_3 (g := (mkF m 15 #[.val (.ref a1), .val (.ref a2), .val (.long q3), .second, .val (.long q4), .second, .val (.long q5), .second, .val (.long (1 : Int64)), .second] [])) rfl (hb hby d1_15) (n := 20) (by decide) (by decide) (by decide) (by decide)
  have Z_5 : n0 ≤ h_5.size := Nat.le_trans Z_3 E_5.1
  have hk_5' : kq_3 ≤ h_5.size := Nat.le_trans hk_3 E_5.1
  have kk_5 : Keep h0 h_5 [a1] := kk_3.ext E_5
  refine own_go (g' := (mkF m 17 #[.val (.ref a1), .val (.ref a2), .val (.long q3), .second, .val (.long q4), .second, .val (.long q5), .second, .val (.long (1 : Int64)), .second] [(.ref b_5)])) st_5 ?_
  refine own_go (T' := T_5) (g' := (mkF m 20 #[.val (.ref a1), .val (.ref a2), .val (.long q3), .second, .val (.long q4), .second, .val (.long q5), .second, .val (.long (1 : Int64)), .second] [(.long (1 : Int64)), (.long q5), (.ref b_5)])) (fun t kt => ?_) ?_
  · show Steps p.tables e below (T_5.setTop (mkF m 17 #[.val (.ref a1), .val (.ref a2), .val (.long q3), .second, .val (.long q4), .second, .val (.long q5), .second, .val (.long (1 : Int64)), .second] [(.ref b_5)])) t
    refine XS.lload X_5.here hx rfl (hb hby d1_17) rfl ?_
    show Steps p.tables e below (T_5.setTop (mkF m 19 #[.val (.ref a1), .val (.ref a2), .val (.long q3), .second, .val (.long q4), .second, .val (.long q5), .second, .val (.long (1 : Int64)), .second] [(.long q5), (.ref b_5)])) t
    refine XS.lconst X_5.here hx rfl (hb hby d1_19) ?_
    exact kt
  obtain ⟨_, _, ⟨T_6, L_6, k_6, n_6⟩, -, X_6, ⟨Lc_6, hQ_6, l_6, y_6, z_6⟩, st_6⟩ := Jvm.LawKit.callS X_5 hx (y := (⟨"com/example/peakwise/peakwise/Job", "requireInRange", "(Ljava/lang/String;JJ)V"⟩ : MethodName)) hown_5 (mvT hZ_5 (hw _ (List.mem_of_getElem? (i := 72) rfl))) (mvT hZ_5 (hw _ (List.mem_of_getElem? (i := 73) rfl))) (mvT hZ_5 (hw _ (List.mem_of_getElem? (i := 3) rfl))) (mvT hZ_5 (hw _ (List.mem_of_getElem? (i := 74) rfl))) (by decide) (backOf (W := 0) (rir l Z a0 hw [] (b_5) (q5) ((1 : Int64))  h_5 n0 Z_5 hr.2.2.1 hr.2.2.2.1) hZ_5 (hw _ (List.mem_of_getElem? (i := 74) rfl)) (hw _ (List.mem_of_getElem? (i := 3) rfl)) (by decide) (by decide)) (g := (mkF m 20 #[.val (.ref a1), .val (.ref a2), .val (.long q3), .second, .val (.long q4), .second, .val (.long q5), .second, .val (.long (1 : Int64)), .second] [(.long (1 : Int64)), (.long q5), (.ref b_5)])) rfl (by rw [hml]; rfl) (argsL := [(.ref b_5), (.long q5), (.long (1 : Int64))]) (rest := []) (lenOf pd_11 rfl) rfl (by show 2 * 0 + _ ≤ _; exact Nat.le_of_eq rfl) (hb hby d1_20) (fun _ _ => ⟨rfl, e_5, (by decide : 6 + 0 ≤ _), (by decide : 68 + 0 ≤ _)⟩)
  dsimp only [Pt.U, Pt.locs, Pt.cells, Pt.slots] at X_6 l_6 y_6 z_6 st_6 hQ_6
  subst l_6 y_6 z_6
  obtain ⟨rfl, N_6q, e_6⟩ := hQ_6
  have N_6 := Fr.app N_4 N_6q
  refine own_go (g' := (mkF m 23 #[.val (.ref a1), .val (.ref a2), .val (.long q3), .second, .val (.long q4), .second, .val (.long q5), .second, .val (.long (1 : Int64)), .second] [])) st_6 ?_
  obtain ⟨b_7, T_7, h_7, kq_7, X_7, e_7, E_7, hS_7, hk_7, hZ_7, hown_7, st_7⟩ := ldcS X_6 hx hZ_5 hown_5 (hw _ (List.mem_of_getElem? (i := 77) rfl)) (own_wS hw) e_6 hS_5 hk_5 (g := (mkF m 23 #[.val (.ref a1), .val (.ref a2), .val (.long q3), .second, .val (.long q4), .second, .val (.long q5), .second, .val (.long (1 : Int64)), .second] [])) rfl (hb hby d1_23) (n := 24) (by decide) (by decide) (by decide) (by decide)
  have Z_7 : n0 ≤ h_7.size := Nat.le_trans Z_5 E_7.1
  have hk_7' : kq_5 ≤ h_7.size := Nat.le_trans hk_5 E_7.1
  have kk_7 : Keep h0 h_7 [a1] := kk_5.ext E_7
  refine own_go (g' := (mkF m 25 #[.val (.ref a1), .val (.ref a2), .val (.long q3), .second, .val (.long q4), .second, .val (.long q5), .second, .val (.long (1 : Int64)), .second] [(.ref b_7)])) st_7 ?_
  refine own_go (T' := T_7) (g' := (mkF m 28 #[.val (.ref a1), .val (.ref a2), .val (.long q3), .second, .val (.long q4), .second, .val (.long q5), .second, .val (.long (1 : Int64)), .second] [(.long (1 : Int64)), (.long (1 : Int64)), (.ref b_7)])) (fun t kt => ?_) ?_
  · show Steps p.tables e below (T_7.setTop (mkF m 25 #[.val (.ref a1), .val (.ref a2), .val (.long q3), .second, .val (.long q4), .second, .val (.long q5), .second, .val (.long (1 : Int64)), .second] [(.ref b_7)])) t
    refine XS.lload X_7.here hx rfl (hb hby d1_25) rfl ?_
    show Steps p.tables e below (T_7.setTop (mkF m 27 #[.val (.ref a1), .val (.ref a2), .val (.long q3), .second, .val (.long q4), .second, .val (.long q5), .second, .val (.long (1 : Int64)), .second] [(.long (1 : Int64)), (.ref b_7)])) t
    refine XS.lconst X_7.here hx rfl (hb hby d1_27) ?_
    exact kt
  obtain ⟨_, _, ⟨T_8, L_8, k_8, n_8⟩, -, X_8, ⟨Lc_8, hQ_8, l_8, y_8, z_8⟩, st_8⟩ := Jvm.LawKit.callS X_7 hx (y := (⟨"com/example/peakwise/peakwise/Job", "requireInRange", "(Ljava/lang/String;JJ)V"⟩ : MethodName)) hown_7 (mvT hZ_7 (hw _ (List.mem_of_getElem? (i := 72) rfl))) (mvT hZ_7 (hw _ (List.mem_of_getElem? (i := 73) rfl))) (mvT hZ_7 (hw _ (List.mem_of_getElem? (i := 3) rfl))) (mvT hZ_7 (hw _ (List.mem_of_getElem? (i := 74) rfl))) (by decide) (backOf (W := 0) (rir l Z a0 hw [] (b_7) ((1 : Int64)) ((1 : Int64))  h_7 n0 Z_7 (by decide) (by decide)) hZ_7 (hw _ (List.mem_of_getElem? (i := 74) rfl)) (hw _ (List.mem_of_getElem? (i := 3) rfl)) (by decide) (by decide)) (g := (mkF m 28 #[.val (.ref a1), .val (.ref a2), .val (.long q3), .second, .val (.long q4), .second, .val (.long q5), .second, .val (.long (1 : Int64)), .second] [(.long (1 : Int64)), (.long (1 : Int64)), (.ref b_7)])) rfl (by rw [hml]; rfl) (argsL := [(.ref b_7), (.long (1 : Int64)), (.long (1 : Int64))]) (rest := []) (lenOf pd_11 rfl) rfl (by show 2 * 0 + _ ≤ _; exact Nat.le_of_eq rfl) (hb hby d1_28) (fun _ _ => ⟨rfl, e_7, (by decide : 8 + 0 ≤ _), (by decide : 96 + 0 ≤ _)⟩)
  dsimp only [Pt.U, Pt.locs, Pt.cells, Pt.slots] at X_8 l_8 y_8 z_8 st_8 hQ_8
  subst l_8 y_8 z_8
  obtain ⟨rfl, N_8q, e_8⟩ := hQ_8
  have N_8 := Fr.app N_6 N_8q
  refine own_go (g' := (mkF m 31 #[.val (.ref a1), .val (.ref a2), .val (.long q3), .second, .val (.long q4), .second, .val (.long q5), .second, .val (.long (1 : Int64)), .second] [])) st_8 ?_
  obtain ⟨b_9, T_9, h_9, kq_9, X_9, e_9, E_9, hS_9, hk_9, hZ_9, hown_9, st_9⟩ := ldcS X_8 hx hZ_7 hown_7 (hw _ (List.mem_of_getElem? (i := 78) rfl)) (own_wS hw) e_8 hS_7 hk_7 (g := (mkF m 31 #[.val (.ref a1), .val (.ref a2), .val (.long q3), .second, .val (.long q4), .second, .val (.long q5), .second, .val (.long (1 : Int64)), .second] [])) rfl (hb hby d1_31) (n := 32) (by decide) (by decide) (by decide) (by decide)
  have Z_9 : n0 ≤ h_9.size := Nat.le_trans Z_7 E_9.1
  have hk_9' : kq_7 ≤ h_9.size := Nat.le_trans hk_7 E_9.1
  have kk_9 : Keep h0 h_9 [a1] := kk_7.ext E_9
  refine own_go (g' := (mkF m 33 #[.val (.ref a1), .val (.ref a2), .val (.long q3), .second, .val (.long q4), .second, .val (.long q5), .second, .val (.long (1 : Int64)), .second] [(.ref b_9)])) st_9 ?_
  refine own_go (T' := T_9) (g' := (mkF m 36 #[.val (.ref a1), .val (.ref a2), .val (.long q3), .second, .val (.long q4), .second, .val (.long q5), .second, .val (.long (1 : Int64)), .second] [(.long (0 : Int64)), (.long q4), (.ref b_9)])) (fun t kt => ?_) ?_
  · show Steps p.tables e below (T_9.setTop (mkF m 33 #[.val (.ref a1), .val (.ref a2), .val (.long q3), .second, .val (.long q4), .second, .val (.long q5), .second, .val (.long (1 : Int64)), .second] [(.ref b_9)])) t
    refine XS.lload X_9.here hx rfl (hb hby d1_33) rfl ?_
    show Steps p.tables e below (T_9.setTop (mkF m 35 #[.val (.ref a1), .val (.ref a2), .val (.long q3), .second, .val (.long q4), .second, .val (.long q5), .second, .val (.long (1 : Int64)), .second] [(.long q4), (.ref b_9)])) t
    refine XS.lconst X_9.here hx rfl (hb hby d1_35) ?_
    exact kt
  obtain ⟨_, _, ⟨T_10, L_10, k_10, n_10⟩, -, X_10, ⟨Lc_10, hQ_10, l_10, y_10, z_10⟩, st_10⟩ := Jvm.LawKit.callS X_9 hx (y := (⟨"com/example/peakwise/peakwise/Job", "requireInRange", "(Ljava/lang/String;JJ)V"⟩ : MethodName)) hown_9 (mvT hZ_9 (hw _ (List.mem_of_getElem? (i := 72) rfl))) (mvT hZ_9 (hw _ (List.mem_of_getElem? (i := 73) rfl))) (mvT hZ_9 (hw _ (List.mem_of_getElem? (i := 3) rfl))) (mvT hZ_9 (hw _ (List.mem_of_getElem? (i := 74) rfl))) (by decide) (backOf (W := 0) (rir l Z a0 hw [] (b_9) (q4) ((0 : Int64))  h_9 n0 Z_9 hr.2.2.2.2.1 hr.2.2.2.2.2.1) hZ_9 (hw _ (List.mem_of_getElem? (i := 74) rfl)) (hw _ (List.mem_of_getElem? (i := 3) rfl)) (by decide) (by decide)) (g := (mkF m 36 #[.val (.ref a1), .val (.ref a2), .val (.long q3), .second, .val (.long q4), .second, .val (.long q5), .second, .val (.long (1 : Int64)), .second] [(.long (0 : Int64)), (.long q4), (.ref b_9)])) rfl (by rw [hml]; rfl) (argsL := [(.ref b_9), (.long q4), (.long (0 : Int64))]) (rest := []) (lenOf pd_11 rfl) rfl (by show 2 * 0 + _ ≤ _; exact Nat.le_of_eq rfl) (hb hby d1_36) (fun _ _ => ⟨rfl, e_9, (by decide : 10 + 0 ≤ _), (by decide : 132 + 0 ≤ _)⟩)
  dsimp only [Pt.U, Pt.locs, Pt.cells, Pt.slots] at X_10 l_10 y_10 z_10 st_10 hQ_10
  subst l_10 y_10 z_10
  obtain ⟨rfl, N_10q, e_10⟩ := hQ_10
  have N_10 := Fr.app N_8 N_10q
  refine own_go (g' := (mkF m 39 #[.val (.ref a1), .val (.ref a2), .val (.long q3), .second, .val (.long q4), .second, .val (.long q5), .second, .val (.long (1 : Int64)), .second] [])) st_10 ?_
  refine own_go (T' := T_10) (g' := (mkF m 70 #[.val (.ref a1), .val (.ref a2), .val (.long q3), .second, .val (.long q4), .second, .val (.long q5), .second, .val (.long (1 : Int64)), .second] [(.ref a2), (.ref a1)])) (fun t kt => ?_) ?_
  · show Steps p.tables e below (T_10.setTop (mkF m 39 #[.val (.ref a1), .val (.ref a2), .val (.long q3), .second, .val (.long q4), .second, .val (.long q5), .second, .val (.long (1 : Int64)), .second] [])) t
    refine XS.lload X_10.here hx rfl (hb hby d1_39) rfl ?_
    show Steps p.tables e below (T_10.setTop (mkF m 41 #[.val (.ref a1), .val (.ref a2), .val (.long q3), .second, .val (.long q4), .second, .val (.long q5), .second, .val (.long (1 : Int64)), .second] [(.long q4)])) t
    refine XS.lloadN X_10.here hx rfl (hb hby d1_41) rfl ?_
    show Steps p.tables e below (T_10.setTop (mkF m 42 #[.val (.ref a1), .val (.ref a2), .val (.long q3), .second, .val (.long q4), .second, .val (.long q5), .second, .val (.long (1 : Int64)), .second] [(.long q3), (.long q4)])) t
    refine XS.lload X_10.here hx rfl (hb hby d1_42) rfl ?_
    show Steps p.tables e below (T_10.setTop (mkF m 44 #[.val (.ref a1), .val (.ref a2), .val (.long q3), .second, .val (.long q4), .second, .val (.long q5), .second, .val (.long (1 : Int64)), .second] [(.long q5), (.long q3), (.long q4)])) t
    refine XS.ladd X_10.here hx rfl (hb hby d1_44) rfl ?_
    show Steps p.tables e below (T_10.setTop (mkF m 45 #[.val (.ref a1), .val (.ref a2), .val (.long q3), .second, .val (.long q4), .second, .val (.long q5), .second, .val (.long (1 : Int64)), .second] [(.long (q3 + q5)), (.long q4)])) t
    refine XS.lcmp X_10.here hx rfl (hb hby d1_45) rfl ?_
    show Steps p.tables e below (T_10.setTop (mkF m 46 #[.val (.ref a1), .val (.ref a2), .val (.long q3), .second, .val (.long q4), .second, .val (.long q5), .second, .val (.long (1 : Int64)), .second] [(.int (lcmpW q4 (q3 + q5)))])) t
    refine XS.ifYes X_10.here hx rfl (pc0 := 46) (pc' := 68) rfl (hb hby d1_46) rfl ((if0 _ _).trans (flt (fun q => (hr.2.2.2.2.2.2 : ¬ (q4 < (q3 + q5))) ((lw_lt _ _).mp q))).2.1) (by decide) (by decide) ?_
    show Steps p.tables e below (T_10.setTop (mkF m 68 #[.val (.ref a1), .val (.ref a2), .val (.long q3), .second, .val (.long q4), .second, .val (.long q5), .second, .val (.long (1 : Int64)), .second] [])) t
    refine XS.aloadN X_10.here hx rfl (hb hby d1_68) rfl rfl ?_
    show Steps p.tables e below (T_10.setTop (mkF m 69 #[.val (.ref a1), .val (.ref a2), .val (.long q3), .second, .val (.long q4), .second, .val (.long q5), .second, .val (.long (1 : Int64)), .second] [(.ref a1)])) t
    refine XS.aloadN X_10.here hx rfl (hb hby d1_69) rfl rfl ?_
    exact kt
  have f_12 := (((((E1.keep K_2).ext E_3).ext E_5).ext E_7).ext E_9)
  have f_13 := (((((G_id.keep K_2 nin0).ext E_3).ext E_5).ext E_7).ext E_9)
  obtain ⟨T_11, h_11, X_11, e_11, W_11, st_11⟩ := putF X_10 hx hZ_9 hown_9 (host := "") (Or.inl (hw _ (List.mem_of_getElem? (i := 79) rfl))) Via.refl e_10 f_13 f_12 (Or.inr ⟨(hw _ (List.mem_of_getElem? (i := 80) rfl)), rfl, hnm⟩) (hw _ (List.mem_of_getElem? (i := 2) rfl)) (ty := (.object "java/lang/String")) (by decide) rfl rfl (g := (mkF m 70 #[.val (.ref a1), .val (.ref a2), .val (.long q3), .second, .val (.long q4), .second, .val (.long q5), .second, .val (.long (1 : Int64)), .second] [(.ref a2), (.ref a1)])) rfl rfl (hb hby d1_70)
  have Fw_11 := f_13.same W_11
  have Z_11 : n0 ≤ h_11.size := Nat.le_trans Z_9 (Keep.of_wr W_11).1
  have hk_11' : kq_9 ≤ h_11.size := Nat.le_trans hk_9 (Keep.of_wr W_11).1
  have kk_11 : Keep h0 h_11 [a1] := kk_9.wr W_11 (Or.inl (List.mem_of_getElem? (i := 0) rfl))
  have N_11 := Fr.snoc X_11 N_10 g_a1
  refine own_go (g' := (mkF m 73 #[.val (.ref a1), .val (.ref a2), .val (.long q3), .second, .val (.long q4), .second, .val (.long q5), .second, .val (.long (1 : Int64)), .second] [])) st_11 ?_
  refine own_go (T' := T_11) (g' := (mkF m 75 #[.val (.ref a1), .val (.ref a2), .val (.long q3), .second, .val (.long q4), .second, .val (.long q5), .second, .val (.long (1 : Int64)), .second] [(.long q3), (.ref a1)])) (fun t kt => ?_) ?_
  · show Steps p.tables e below (T_11.setTop (mkF m 73 #[.val (.ref a1), .val (.ref a2), .val (.long q3), .second, .val (.long q4), .second, .val (.long q5), .second, .val (.long (1 : Int64)), .second] [])) t
    refine XS.aloadN X_11.here hx rfl (hb hby d1_73) rfl rfl ?_
    show Steps p.tables e below (T_11.setTop (mkF m 74 #[.val (.ref a1), .val (.ref a2), .val (.long q3), .second, .val (.long q4), .second, .val (.long q5), .second, .val (.long (1 : Int64)), .second] [(.ref a1)])) t
    refine XS.lloadN X_11.here hx rfl (hb hby d1_74) rfl ?_
    exact kt
  have f_15 := (f_12.wr W_11)
  have f_16 := ((((((G_release.keep K_2 nin0).ext E_3).ext E_5).ext E_7).ext E_9).other W_11 (Or.inr (slot_ne (Or.inr (hw _ (List.mem_of_getElem? (i := 82) rfl))) (Or.inr (hw _ (List.mem_of_getElem? (i := 80) rfl))) (by decide) (t := .long) (t' := (.object "java/lang/String")) (by decide) (by decide))))
  obtain ⟨T_14, h_14, X_14, e_14, W_14, st_14⟩ := putF X_11 hx hZ_9 hown_9 (host := "") (Or.inl (hw _ (List.mem_of_getElem? (i := 81) rfl))) Via.refl e_11 f_16 f_15 (Or.inr ⟨(hw _ (List.mem_of_getElem? (i := 82) rfl)), rfl, hnm⟩) (hw _ (List.mem_of_getElem? (i := 2) rfl)) (ty := .long) (by decide) rfl rfl (g := (mkF m 75 #[.val (.ref a1), .val (.ref a2), .val (.long q3), .second, .val (.long q4), .second, .val (.long q5), .second, .val (.long (1 : Int64)), .second] [(.long q3), (.ref a1)])) rfl rfl (hb hby d1_75)
  have Fw_14 := f_16.same W_14
  have Z_14 : n0 ≤ h_14.size := Nat.le_trans Z_11 (Keep.of_wr W_14).1
  have hk_14' : kq_9 ≤ h_14.size := Nat.le_trans hk_11' (Keep.of_wr W_14).1
  have kk_14 : Keep h0 h_14 [a1] := kk_11.wr W_14 (Or.inl (List.mem_of_getElem? (i := 0) rfl))
  have N_14 := Fr.snoc X_14 N_11 g_a1
  refine own_go (g' := (mkF m 78 #[.val (.ref a1), .val (.ref a2), .val (.long q3), .second, .val (.long q4), .second, .val (.long q5), .second, .val (.long (1 : Int64)), .second] [])) st_14 ?_
  refine own_go (T' := T_14) (g' := (mkF m 81 #[.val (.ref a1), .val (.ref a2), .val (.long q3), .second, .val (.long q4), .second, .val (.long q5), .second, .val (.long (1 : Int64)), .second] [(.long q4), (.ref a1)])) (fun t kt => ?_) ?_
  · show Steps p.tables e below (T_14.setTop (mkF m 78 #[.val (.ref a1), .val (.ref a2), .val (.long q3), .second, .val (.long q4), .second, .val (.long q5), .second, .val (.long (1 : Int64)), .second] [])) t
    refine XS.aloadN X_14.here hx rfl (hb hby d1_78) rfl rfl ?_
    show Steps p.tables e below (T_14.setTop (mkF m 79 #[.val (.ref a1), .val (.ref a2), .val (.long q3), .second, .val (.long q4), .second, .val (.long q5), .second, .val (.long (1 : Int64)), .second] [(.ref a1)])) t
    refine XS.lload X_14.here hx rfl (hb hby d1_79) rfl ?_
    exact kt
  have f_18 := (f_15.wr W_14)
  have f_19 := (((((((G_deadline.keep K_2 nin0).ext E_3).ext E_5).ext E_7).ext E_9).other W_11 (Or.inr (slot_ne (Or.inr (hw _ (List.mem_of_getElem? (i := 84) rfl))) (Or.inr (hw _ (List.mem_of_getElem? (i := 80) rfl))) (by decide) (t := .long) (t' := (.object "java/lang/String")) (by decide) (by decide)))).other W_14 (Or.inr (slot_ne (Or.inr (hw _ (List.mem_of_getElem? (i := 84) rfl))) (Or.inr (hw _ (List.mem_of_getElem? (i := 82) rfl))) (by decide) (t := .long) (t' := .long) (by decide) (by decide))))
  obtain ⟨T_17, h_17, X_17, e_17, W_17, st_17⟩ := putF X_14 hx hZ_9 hown_9 (host := "") (Or.inl (hw _ (List.mem_of_getElem? (i := 83) rfl))) Via.refl e_14 f_19 f_18 (Or.inr ⟨(hw _ (List.mem_of_getElem? (i := 84) rfl)), rfl, hnm⟩) (hw _ (List.mem_of_getElem? (i := 2) rfl)) (ty := .long) (by decide) rfl rfl (g := (mkF m 81 #[.val (.ref a1), .val (.ref a2), .val (.long q3), .second, .val (.long q4), .second, .val (.long q5), .second, .val (.long (1 : Int64)), .second] [(.long q4), (.ref a1)])) rfl rfl (hb hby d1_81)
  have Fw_17 := f_19.same W_17
  have Z_17 : n0 ≤ h_17.size := Nat.le_trans Z_14 (Keep.of_wr W_17).1
  have hk_17' : kq_9 ≤ h_17.size := Nat.le_trans hk_14' (Keep.of_wr W_17).1
  have kk_17 : Keep h0 h_17 [a1] := kk_14.wr W_17 (Or.inl (List.mem_of_getElem? (i := 0) rfl))
  have N_17 := Fr.snoc X_17 N_14 g_a1
  refine own_go (g' := (mkF m 84 #[.val (.ref a1), .val (.ref a2), .val (.long q3), .second, .val (.long q4), .second, .val (.long q5), .second, .val (.long (1 : Int64)), .second] [])) st_17 ?_
  refine own_go (T' := T_17) (g' := (mkF m 87 #[.val (.ref a1), .val (.ref a2), .val (.long q3), .second, .val (.long q4), .second, .val (.long q5), .second, .val (.long (1 : Int64)), .second] [(.long q5), (.ref a1)])) (fun t kt => ?_) ?_
  · show Steps p.tables e below (T_17.setTop (mkF m 84 #[.val (.ref a1), .val (.ref a2), .val (.long q3), .second, .val (.long q4), .second, .val (.long q5), .second, .val (.long (1 : Int64)), .second] [])) t
    refine XS.aloadN X_17.here hx rfl (hb hby d1_84) rfl rfl ?_
    show Steps p.tables e below (T_17.setTop (mkF m 85 #[.val (.ref a1), .val (.ref a2), .val (.long q3), .second, .val (.long q4), .second, .val (.long q5), .second, .val (.long (1 : Int64)), .second] [(.ref a1)])) t
    refine XS.lload X_17.here hx rfl (hb hby d1_85) rfl ?_
    exact kt
  have f_21 := (f_18.wr W_17)
  have f_22 := ((((((((G_width.keep K_2 nin0).ext E_3).ext E_5).ext E_7).ext E_9).other W_11 (Or.inr (slot_ne (Or.inr (hw _ (List.mem_of_getElem? (i := 86) rfl))) (Or.inr (hw _ (List.mem_of_getElem? (i := 80) rfl))) (by decide) (t := .long) (t' := (.object "java/lang/String")) (by decide) (by decide)))).other W_14 (Or.inr (slot_ne (Or.inr (hw _ (List.mem_of_getElem? (i := 86) rfl))) (Or.inr (hw _ (List.mem_of_getElem? (i := 82) rfl))) (by decide) (t := .long) (t' := .long) (by decide) (by decide)))).other W_17 (Or.inr (slot_ne (Or.inr (hw _ (List.mem_of_getElem? (i := 86) rfl))) (Or.inr (hw _ (List.mem_of_getElem? (i := 84) rfl))) (by decide) (t := .long) (t' := .long) (by decide) (by decide))))
  obtain ⟨T_20, h_20, X_20, e_20, W_20, st_20⟩ := putF X_17 hx hZ_9 hown_9 (host := "") (Or.inl (hw _ (List.mem_of_getElem? (i := 85) rfl))) Via.refl e_17 f_22 f_21 (Or.inr ⟨(hw _ (List.mem_of_getElem? (i := 86) rfl)), rfl, hnm⟩) (hw _ (List.mem_of_getElem? (i := 2) rfl)) (ty := .long) (by decide) rfl rfl (g := (mkF m 87 #[.val (.ref a1), .val (.ref a2), .val (.long q3), .second, .val (.long q4), .second, .val (.long q5), .second, .val (.long (1 : Int64)), .second] [(.long q5), (.ref a1)])) rfl rfl (hb hby d1_87)
  have Fw_20 := f_22.same W_20
  have Z_20 : n0 ≤ h_20.size := Nat.le_trans Z_17 (Keep.of_wr W_20).1
  have hk_20' : kq_9 ≤ h_20.size := Nat.le_trans hk_17' (Keep.of_wr W_20).1
  have kk_20 : Keep h0 h_20 [a1] := kk_17.wr W_20 (Or.inl (List.mem_of_getElem? (i := 0) rfl))
  have N_20 := Fr.snoc X_20 N_17 g_a1
  refine own_go (g' := (mkF m 90 #[.val (.ref a1), .val (.ref a2), .val (.long q3), .second, .val (.long q4), .second, .val (.long q5), .second, .val (.long (1 : Int64)), .second] [])) st_20 ?_
  refine own_go (T' := T_20) (g' := (mkF m 93 #[.val (.ref a1), .val (.ref a2), .val (.long q3), .second, .val (.long q4), .second, .val (.long q5), .second, .val (.long (1 : Int64)), .second] [(.long (1 : Int64)), (.ref a1)])) (fun t kt => ?_) ?_
  · show Steps p.tables e below (T_20.setTop (mkF m 90 #[.val (.ref a1), .val (.ref a2), .val (.long q3), .second, .val (.long q4), .second, .val (.long q5), .second, .val (.long (1 : Int64)), .second] [])) t
    refine XS.aloadN X_20.here hx rfl (hb hby d1_90) rfl rfl ?_
    show Steps p.tables e below (T_20.setTop (mkF m 91 #[.val (.ref a1), .val (.ref a2), .val (.long q3), .second, .val (.long q4), .second, .val (.long q5), .second, .val (.long (1 : Int64)), .second] [(.ref a1)])) t
    refine XS.lload X_20.here hx rfl (hb hby d1_91) rfl ?_
    exact kt
  have f_24 := (f_21.wr W_20)
  have f_25 := (((((((((G_height.keep K_2 nin0).ext E_3).ext E_5).ext E_7).ext E_9).other W_11 (Or.inr (slot_ne (Or.inr (hw _ (List.mem_of_getElem? (i := 88) rfl))) (Or.inr (hw _ (List.mem_of_getElem? (i := 80) rfl))) (by decide) (t := .long) (t' := (.object "java/lang/String")) (by decide) (by decide)))).other W_14 (Or.inr (slot_ne (Or.inr (hw _ (List.mem_of_getElem? (i := 88) rfl))) (Or.inr (hw _ (List.mem_of_getElem? (i := 82) rfl))) (by decide) (t := .long) (t' := .long) (by decide) (by decide)))).other W_17 (Or.inr (slot_ne (Or.inr (hw _ (List.mem_of_getElem? (i := 88) rfl))) (Or.inr (hw _ (List.mem_of_getElem? (i := 84) rfl))) (by decide) (t := .long) (t' := .long) (by decide) (by decide)))).other W_20 (Or.inr (slot_ne (Or.inr (hw _ (List.mem_of_getElem? (i := 88) rfl))) (Or.inr (hw _ (List.mem_of_getElem? (i := 86) rfl))) (by decide) (t := .long) (t' := .long) (by decide) (by decide))))
  obtain ⟨T_23, h_23, X_23, e_23, W_23, st_23⟩ := putF X_20 hx hZ_9 hown_9 (host := "") (Or.inl (hw _ (List.mem_of_getElem? (i := 87) rfl))) Via.refl e_20 f_25 f_24 (Or.inr ⟨(hw _ (List.mem_of_getElem? (i := 88) rfl)), rfl, hnm⟩) (hw _ (List.mem_of_getElem? (i := 2) rfl)) (ty := .long) (by decide) rfl rfl (g := (mkF m 93 #[.val (.ref a1), .val (.ref a2), .val (.long q3), .second, .val (.long q4), .second, .val (.long q5), .second, .val (.long (1 : Int64)), .second] [(.long (1 : Int64)), (.ref a1)])) rfl rfl (hb hby d1_93)
  have Fw_23 := f_25.same W_23
  have Z_23 : n0 ≤ h_23.size := Nat.le_trans Z_20 (Keep.of_wr W_23).1
  have hk_23' : kq_9 ≤ h_23.size := Nat.le_trans hk_20' (Keep.of_wr W_23).1
  have kk_23 : Keep h0 h_23 [a1] := kk_20.wr W_23 (Or.inl (List.mem_of_getElem? (i := 0) rfl))
  have N_23 := Fr.snoc X_23 N_20 g_a1
  refine own_go (g' := (mkF m 96 #[.val (.ref a1), .val (.ref a2), .val (.long q3), .second, .val (.long q4), .second, .val (.long q5), .second, .val (.long (1 : Int64)), .second] [])) st_23 ?_
  have f_26 := (((Fw_14.other W_17 (Or.inr (slot_ne (Or.inr (hw _ (List.mem_of_getElem? (i := 82) rfl))) (Or.inr (hw _ (List.mem_of_getElem? (i := 84) rfl))) (by decide) (t := .long) (t' := .long) (by decide) (by decide)))).other W_20 (Or.inr (slot_ne (Or.inr (hw _ (List.mem_of_getElem? (i := 82) rfl))) (Or.inr (hw _ (List.mem_of_getElem? (i := 86) rfl))) (by decide) (t := .long) (t' := .long) (by decide) (by decide)))).other W_23 (Or.inr (slot_ne (Or.inr (hw _ (List.mem_of_getElem? (i := 82) rfl))) (Or.inr (hw _ (List.mem_of_getElem? (i := 88) rfl))) (by decide) (t := .long) (t' := .long) (by decide) (by decide))))
  have f_27 := ((Fw_17.other W_20 (Or.inr (slot_ne (Or.inr (hw _ (List.mem_of_getElem? (i := 84) rfl))) (Or.inr (hw _ (List.mem_of_getElem? (i := 86) rfl))) (by decide) (t := .long) (t' := .long) (by decide) (by decide)))).other W_23 (Or.inr (slot_ne (Or.inr (hw _ (List.mem_of_getElem? (i := 84) rfl))) (Or.inr (hw _ (List.mem_of_getElem? (i := 88) rfl))) (by decide) (t := .long) (t' := .long) (by decide) (by decide))))
  have f_28 := (Fw_20.other W_23 (Or.inr (slot_ne (Or.inr (hw _ (List.mem_of_getElem? (i := 86) rfl))) (Or.inr (hw _ (List.mem_of_getElem? (i := 88) rfl))) (by decide) (t := .long) (t' := .long) (by decide) (by decide))))
  obtain ⟨fs, hr, hrun, hended, hE1, hE2, hE3, hE4⟩ := X_23.leaveW hS_9 (by rw [e_23]; exact hk_23') (v := none) (fun _ => rfl)
  refine ⟨_, _, ?_, hrun, hended, _, _, rfl, ?_, hE1, hE2, hE3, hE4.mono (by decide) (by decide)⟩
  · exact X_23.returnOut hx Bd.returns (hb hby d1_96) hr
  · show Q_rjob Z _ _ _ _ _ _ _ _ _ h0 n0 _ T_23.heap _
    rw [e_23]
    exact ⟨rfl, N_23, kk_23, f_26, f_27, f_28⟩
theorem pn_15 : plainName "com/example/peakwise/peakwise/Job" = true := by first | (simp [plainName, overriddenIn]; done) | decide +kernel
theorem ef_15 (m : MethodId) (x0 : Addr) (x1 : Int64) : entryFrame m #[(.ref x0), (.long x1)] 3 = mkF m 0 #[.val (.ref x0), .val (.long x1), .second] [] := by first | (simp [entryFrame, mkF, argsToLocals, Value.category]; done) | rfl
def Q_rfit (Z : State) (a1 : Addr) (q2 : Int64) (q3 : Int64) (q4 : Int64) (q5 : Int64) (h0 : Heap) (n0 : Nat) (v : Option Value) (h : Heap) (L : List Loc) : Prop := v = some (.int (own_fits q3 q4 q5 q2)) ∧ Fr n0 L ∧ h = h0
theorem d15_0 : decode prog_19_method_3_code 0 = .ok (.aload_n 0, 1) := by decide +kernel
theorem d15_1 : decode prog_19_method_3_code 1 = .ok (.getfield 37, 3) := by decide +kernel
theorem d15_4 : decode prog_19_method_3_code 4 = .ok (.lload_n 1, 1) := by decide +kernel
theorem d15_5 : decode prog_19_method_3_code 5 = .ok (.lcmp, 1) := by decide +kernel
theorem d15_6 : decode prog_19_method_3_code 6 = .ok (.ifCond .gt 21, 3) := by decide +kernel
theorem d15_27 : decode prog_19_method_3_code 27 = .ok (.iconst 0, 1) := by decide +kernel
theorem d15_28 : decode prog_19_method_3_code 28 = .ok (.ireturn, 1) := by decide +kernel
theorem d15_9 : decode prog_19_method_3_code 9 = .ok (.lload_n 1, 1) := by decide +kernel
theorem d15_10 : decode prog_19_method_3_code 10 = .ok (.aload_n 0, 1) := by decide +kernel
theorem d15_11 : decode prog_19_method_3_code 11 = .ok (.getfield 40, 3) := by decide +kernel
theorem d15_14 : decode prog_19_method_3_code 14 = .ok (.aload_n 0, 1) := by decide +kernel
theorem d15_15 : decode prog_19_method_3_code 15 = .ok (.getfield 42, 3) := by decide +kernel
theorem d15_18 : decode prog_19_method_3_code 18 = .ok (.lsub, 1) := by decide +kernel
theorem d15_19 : decode prog_19_method_3_code 19 = .ok (.lcmp, 1) := by decide +kernel
theorem d15_20 : decode prog_19_method_3_code 20 = .ok (.ifCond .gt 7, 3) := by decide +kernel
theorem d15_23 : decode prog_19_method_3_code 23 = .ok (.iconst 1, 1) := by decide +kernel
theorem d15_24 : decode prog_19_method_3_code 24 = .ok (.goto 4, 3) := by decide +kernel
set_option maxRecDepth 65536 in
set_option maxHeartbeats 40000000 in
theorem rfit (l : Launch) (Z : State) (a0 : Array Value) (hw : ∀ d ∈ tables_1, d.before a0 Z = true) (ws : List Jvm.Cond) (a1 : Addr) (q2 : Int64) (q3 : Int64) (q4 : Int64) (q5 : Int64) (h0 : Heap) (n0 : Nat) (Z0 : n0 ≤ h0.size) (F1 : Fld Z h0 a1 "com/example/peakwise/peakwise/Job" "release" "J" (.long q3)) (F2 : Fld Z h0 a1 "com/example/peakwise/peakwise/Job" "deadline" "J" (.long q4)) (F3 : Fld Z h0 a1 "com/example/peakwise/peakwise/Job" "width" "J" (.long q5)) :
    MetFree l (⟨"com/example/peakwise/peakwise/Job", "fits", "(J)Z"⟩ : MethodName) (head1 (Jvm.Cond.code (⟨"com/example/peakwise/peakwise/Job", "fits", "(J)Z"⟩ : MethodName) prog_19_method_3_code 3 (some .boolean) :: ws) ({ frames := 0, cells := 0, slots := 0, locals := 0 } : Room)) (fun a U => a = #[(.ref a1), (.long q2)] ∧ Z.Warmed39 U.vm ∧ U.heap = h0) (fun _ _ _ _ _ => True) (fun _ U o U' => ∃ v L, o = .returned v ∧ Q_rfit Z a1 q2 q3 q4 q5 h0 n0 v U'.heap L ∧ FrameEnd U o U' L ({ frames := 0, cells := 0, slots := 0, locals := 0 } : Room).cells ({ frames := 0, cells := 0, slots := 0, locals := 0 } : Room).slots) := by
  refine MetFree.of_bodySF (plainFor_of_name pn_15) hisR ?_
  intro p e s m args below meth c s₁ Bd hml0 hP hK
  obtain ⟨rfl, hZ, hh⟩ := hP
  have hx := Bd.exec
  have hby := Bd.bytes
  have hml : c.maxLocals = 3 := hml0
  have hown : s.vm.findClass "com/example/peakwise/peakwise/Job" = some m.cls := findClass_of_methodNamed Bd.named
  have hnm := (name_of_methodNamed Bd.named Bd.method).1
  have X0 : Stand p l e ({ frames := 0, cells := 0, slots := 0, locals := 0 } : Room) s m #[(.ref a1), (.long q2)] below meth c s₁ [] 0 0 := Stand.of_body Bd
  have e0 : s₁.heap = h0 := by rw [← hh, Bd.state]; rfl
  have N0 := Fr.nil n0
  refine own_go (g' := (mkF m 0 #[.val (.ref a1), .val (.long q2), .second] [])) (fun t k => castTop (ef_15 m (a1) (q2)) k) ?_
  refine own_go (T' := s₁) (g' := (mkF m 1 #[.val (.ref a1), .val (.long q2), .second] [(.ref a1)])) (fun t kt => ?_) ?_
  · show Steps p.tables e below (s₁.setTop (mkF m 0 #[.val (.ref a1), .val (.long q2), .second] [])) t
    refine XS.aloadN X0.here hx rfl (hb hby d15_0) rfl rfl ?_
    exact kt
  obtain ⟨T_1, X_1, e_1, st_1⟩ := getF X0 hx hZ hown (host := "") (Or.inl (hw _ (List.mem_of_getElem? (i := 81) rfl))) Via.refl e0 F1 (g := (mkF m 1 #[.val (.ref a1), .val (.long q2), .second] [(.ref a1)])) rfl rfl (hb hby d15_1)
  refine own_go (g' := (mkF m 4 #[.val (.ref a1), .val (.long q2), .second] [(.long q3)])) st_1 ?_
  refine own_go (T' := T_1) (g' := (mkF m 6 #[.val (.ref a1), .val (.long q2), .second] [(.int (lcmpW q3 q2))])) (fun t kt => ?_) ?_
  · show Steps p.tables e below (T_1.setTop (mkF m 4 #[.val (.ref a1), .val (.long q2), .second] [(.long q3)])) t
    refine XS.lloadN X_1.here hx rfl (hb hby d15_4) rfl ?_
    show Steps p.tables e below (T_1.setTop (mkF m 5 #[.val (.ref a1), .val (.long q2), .second] [(.long q2), (.long q3)])) t
    refine XS.lcmp X_1.here hx rfl (hb hby d15_5) rfl ?_
    exact kt
  by_cases hc6 : q2 < q3
  · refine own_go (T' := T_1) (g' := (mkF m 28 #[.val (.ref a1), .val (.long q2), .second] [(.int (0 : Int32))])) (fun t kt => ?_) ?_
    · show Steps p.tables e below (T_1.setTop (mkF m 6 #[.val (.ref a1), .val (.long q2), .second] [(.int (lcmpW q3 q2))])) t
      refine XS.ifYes X_1.here hx rfl (pc0 := 6) (pc' := 27) rfl (hb hby d15_6) rfl ((if0 _ _).trans (tlt ((lw_gt _ _).mpr hc6)).2.2.1) (by decide) (by decide) ?_
      show Steps p.tables e below (T_1.setTop (mkF m 27 #[.val (.ref a1), .val (.long q2), .second] [])) t
      refine XS.iconst X_1.here hx rfl (hb hby d15_27) ?_
      exact kt
    obtain ⟨fs, hr, hrun, hended, hW, hsame⟩ := X_1.leave (v := some (.int (0 : Int32))) (fun h => by rw [Bd.returns] at h; cases h)
    refine ⟨_, _, ?_, hrun, hended, _, _, rfl, ?_, ⟨_, rfl⟩, hW, hsame.mono (by decide) (by decide)⟩
    · exact retN X_1 hx (t := .boolean) Bd.returns (by simp) (hb hby d15_28) hr
    · show Q_rfit Z _ _ _ _ _ h0 n0 _ T_1.heap _
      rw [e_1]
      exact ⟨congrArg (fun z => some (Value.int z)) (by simp only [own_fits, hc6, if_true, if_false]), N0, rfl⟩
  · refine own_go (T' := T_1) (g' := (mkF m 11 #[.val (.ref a1), .val (.long q2), .second] [(.ref a1), (.long q2)])) (fun t kt => ?_) ?_
    · show Steps p.tables e below (T_1.setTop (mkF m 6 #[.val (.ref a1), .val (.long q2), .second] [(.int (lcmpW q3 q2))])) t
      refine XS.ifNo X_1.here hx rfl (hb hby d15_6) rfl ((if0 _ _).trans (flt (fun q => hc6 ((lw_gt _ _).mp q))).2.2.1) ?_
      show Steps p.tables e below (T_1.setTop (mkF m 9 #[.val (.ref a1), .val (.long q2), .second] [])) t
      refine XS.lloadN X_1.here hx rfl (hb hby d15_9) rfl ?_
      show Steps p.tables e below (T_1.setTop (mkF m 10 #[.val (.ref a1), .val (.long q2), .second] [(.long q2)])) t
      refine XS.aloadN X_1.here hx rfl (hb hby d15_10) rfl rfl ?_
      exact kt
    obtain ⟨T_2, X_2, e_2, st_2⟩ := getF X_1 hx hZ hown (host := "") (Or.inl (hw _ (List.mem_of_getElem? (i := 83) rfl))) Via.refl e_1 F2 (g := (mkF m 11 #[.val (.ref a1), .val (.long q2), .second] [(.ref a1), (.long q2)])) rfl rfl (hb hby d15_11)
    refine own_go (g' := (mkF m 14 #[.val (.ref a1), .val (.long q2), .second] [(.long q4), (.long q2)])) st_2 ?_
    refine own_go (T' := T_2) (g' := (mkF m 15 #[.val (.ref a1), .val (.long q2), .second] [(.ref a1), (.long q4), (.long q2)])) (fun t kt => ?_) ?_
    · show Steps p.tables e below (T_2.setTop (mkF m 14 #[.val (.ref a1), .val (.long q2), .second] [(.long q4), (.long q2)])) t
      refine XS.aloadN X_2.here hx rfl (hb hby d15_14) rfl rfl ?_
      exact kt
    obtain ⟨T_3, X_3, e_3, st_3⟩ := getF X_2 hx hZ hown (host := "") (Or.inl (hw _ (List.mem_of_getElem? (i := 85) rfl))) Via.refl e_2 F3 (g := (mkF m 15 #[.val (.ref a1), .val (.long q2), .second] [(.ref a1), (.long q4), (.long q2)])) rfl rfl (hb hby d15_15)
    refine own_go (g' := (mkF m 18 #[.val (.ref a1), .val (.long q2), .second] [(.long q5), (.long q4), (.long q2)])) st_3 ?_
    refine own_go (T' := T_3) (g' := (mkF m 20 #[.val (.ref a1), .val (.long q2), .second] [(.int (lcmpW q2 (q4 - q5)))])) (fun t kt => ?_) ?_
    · show Steps p.tables e below (T_3.setTop (mkF m 18 #[.val (.ref a1), .val (.long q2), .second] [(.long q5), (.long q4), (.long q2)])) t
      refine XS.lsub X_3.here hx rfl (hb hby d15_18) rfl ?_
      show Steps p.tables e below (T_3.setTop (mkF m 19 #[.val (.ref a1), .val (.long q2), .second] [(.long (q4 - q5)), (.long q2)])) t
      refine XS.lcmp X_3.here hx rfl (hb hby d15_19) rfl ?_
      exact kt
    by_cases hc20 : (q4 - q5) < q2
    · refine own_go (T' := T_3) (g' := (mkF m 28 #[.val (.ref a1), .val (.long q2), .second] [(.int (0 : Int32))])) (fun t kt => ?_) ?_
      · show Steps p.tables e below (T_3.setTop (mkF m 20 #[.val (.ref a1), .val (.long q2), .second] [(.int (lcmpW q2 (q4 - q5)))])) t
        refine XS.ifYes X_3.here hx rfl (pc0 := 20) (pc' := 27) rfl (hb hby d15_20) rfl ((if0 _ _).trans (tlt ((lw_gt _ _).mpr hc20)).2.2.1) (by decide) (by decide) ?_
        show Steps p.tables e below (T_3.setTop (mkF m 27 #[.val (.ref a1), .val (.long q2), .second] [])) t
        refine XS.iconst X_3.here hx rfl (hb hby d15_27) ?_
        exact kt
      obtain ⟨fs, hr, hrun, hended, hW, hsame⟩ := X_3.leave (v := some (.int (0 : Int32))) (fun h => by rw [Bd.returns] at h; cases h)
      refine ⟨_, _, ?_, hrun, hended, _, _, rfl, ?_, ⟨_, rfl⟩, hW, hsame.mono (by decide) (by decide)⟩
      · exact retN X_3 hx (t := .boolean) Bd.returns (by simp) (hb hby d15_28) hr
      · show Q_rfit Z _ _ _ _ _ h0 n0 _ T_3.heap _
        rw [e_3]
        exact ⟨congrArg (fun z => some (Value.int z)) (by simp only [own_fits, hc6, hc20, if_true, if_false]), N0, rfl⟩
    · refine own_go (T' := T_3) (g' := (mkF m 28 #[.val (.ref a1), .val (.long q2), .second] [(.int (1 : Int32))])) (fun t kt => ?_) ?_
      · show Steps p.tables e below (T_3.setTop (mkF m 20 #[.val (.ref a1), .val (.long q2), .second] [(.int (lcmpW q2 (q4 - q5)))])) t
        refine XS.ifNo X_3.here hx rfl (hb hby d15_20) rfl ((if0 _ _).trans (flt (fun q => hc20 ((lw_gt _ _).mp q))).2.2.1) ?_
        show Steps p.tables e below (T_3.setTop (mkF m 23 #[.val (.ref a1), .val (.long q2), .second] [])) t
        refine XS.iconst X_3.here hx rfl (hb hby d15_23) ?_
        show Steps p.tables e below (T_3.setTop (mkF m 24 #[.val (.ref a1), .val (.long q2), .second] [(.int (1 : Int32))])) t
        refine XS.goto X_3.here hx rfl (pc0 := 24) (pc' := 28) rfl (hb hby d15_24) (by decide) (by decide) ?_
        exact kt
      obtain ⟨fs, hr, hrun, hended, hW, hsame⟩ := X_3.leave (v := some (.int (1 : Int32))) (fun h => by rw [Bd.returns] at h; cases h)
      refine ⟨_, _, ?_, hrun, hended, _, _, rfl, ?_, ⟨_, rfl⟩, hW, hsame.mono (by decide) (by decide)⟩
      · exact retN X_3 hx (t := .boolean) Bd.returns (by simp) (hb hby d15_28) hr
      · show Q_rfit Z _ _ _ _ _ h0 n0 _ T_3.heap _
        rw [e_3]
        exact ⟨congrArg (fun z => some (Value.int z)) (by simp only [own_fits, hc6, hc20, if_true, if_false]), N0, rfl⟩
theorem pn_16 : plainName "com/example/peakwise/peakwise/JobFitsPinLaw" = true := by first | (simp [plainName, overriddenIn]; done) | decide +kernel
theorem ef_16 (m : MethodId) (x0 : Int64) (x1 : Int64) (x2 : Int64) (x3 : Int64) : entryFrame m #[(.long x0), (.long x1), (.long x2), (.long x3)] 8 = mkF m 0 #[.val (.long x0), .second, .val (.long x1), .second, .val (.long x2), .second, .val (.long x3), .second] [] := by first | (simp [entryFrame, mkF, argsToLocals, Value.category]; done) | rfl
def Q_rref (Z : State) (q1 : Int64) (q2 : Int64) (q3 : Int64) (q4 : Int64) (h0 : Heap) (n0 : Nat) (v : Option Value) (h : Heap) (L : List Loc) : Prop := v = some (.int (own_ref q1 q2 q3 q4)) ∧ Fr n0 L ∧ h = h0
theorem d16_0 : decode method_2_code 0 = .ok (.lload 6, 2) := by decide +kernel
theorem d16_2 : decode method_2_code 2 = .ok (.lload_n 0, 1) := by decide +kernel
theorem d16_3 : decode method_2_code 3 = .ok (.lcmp, 1) := by decide +kernel
theorem d16_4 : decode method_2_code 4 = .ok (.ifCond .ge 5, 3) := by decide +kernel
theorem d16_7 : decode method_2_code 7 = .ok (.iconst 0, 1) := by decide +kernel
theorem d16_8 : decode method_2_code 8 = .ok (.ireturn, 1) := by decide +kernel
theorem d16_9 : decode method_2_code 9 = .ok (.lload 6, 2) := by decide +kernel
theorem d16_11 : decode method_2_code 11 = .ok (.ldc2_w 9, 3) := by decide +kernel
theorem d16_14 : decode method_2_code 14 = .ok (.lcmp, 1) := by decide +kernel
theorem d16_15 : decode method_2_code 15 = .ok (.ifCond .lt 5, 3) := by decide +kernel
theorem d16_20 : decode method_2_code 20 = .ok (.lload 6, 2) := by decide +kernel
theorem d16_22 : decode method_2_code 22 = .ok (.lload 4, 2) := by decide +kernel
theorem d16_24 : decode method_2_code 24 = .ok (.ladd, 1) := by decide +kernel
theorem d16_25 : decode method_2_code 25 = .ok (.lload_n 2, 1) := by decide +kernel
theorem d16_26 : decode method_2_code 26 = .ok (.lcmp, 1) := by decide +kernel
theorem d16_27 : decode method_2_code 27 = .ok (.ifCond .gt 7, 3) := by decide +kernel
theorem d16_34 : decode method_2_code 34 = .ok (.iconst 0, 1) := by decide +kernel
theorem d16_35 : decode method_2_code 35 = .ok (.ireturn, 1) := by decide +kernel
theorem d16_30 : decode method_2_code 30 = .ok (.iconst 1, 1) := by decide +kernel
theorem d16_31 : decode method_2_code 31 = .ok (.goto 4, 3) := by decide +kernel
theorem d16_18 : decode method_2_code 18 = .ok (.iconst 0, 1) := by decide +kernel
theorem d16_19 : decode method_2_code 19 = .ok (.ireturn, 1) := by decide +kernel
set_option maxRecDepth 65536 in
set_option maxHeartbeats 40000000 in
theorem rref (l : Launch) (Z : State) (a0 : Array Value) (hw : ∀ d ∈ tables_1, d.before a0 Z = true) (ws : List Jvm.Cond) (q1 : Int64) (q2 : Int64) (q3 : Int64) (q4 : Int64) (h0 : Heap) (n0 : Nat) (Z0 : n0 ≤ h0.size)  :
    MetFree l (⟨"com/example/peakwise/peakwise/JobFitsPinLaw", "reference", "(JJJJ)Z"⟩ : MethodName) (head1 (Jvm.Cond.code (⟨"com/example/peakwise/peakwise/JobFitsPinLaw", "reference", "(JJJJ)Z"⟩ : MethodName) method_2_code 8 (some .boolean) :: ws) ({ frames := 0, cells := 0, slots := 0, locals := 0 } : Room)) (fun a U => a = #[(.long q1), (.long q2), (.long q3), (.long q4)] ∧ Z.Warmed39 U.vm ∧ U.heap = h0) (fun _ _ _ _ _ => True) (fun _ U o U' => ∃ v L, o = .returned v ∧ Q_rref Z q1 q2 q3 q4 h0 n0 v U'.heap L ∧ FrameEnd U o U' L ({ frames := 0, cells := 0, slots := 0, locals := 0 } : Room).cells ({ frames := 0, cells := 0, slots := 0, locals := 0 } : Room).slots) := by
  refine MetFree.of_bodySF (plainFor_of_name pn_16) hisR ?_
  intro p e s m args below meth c s₁ Bd hml0 hP hK
  obtain ⟨rfl, hZ, hh⟩ := hP
  have hx := Bd.exec
  have hby := Bd.bytes
  have hml : c.maxLocals = 8 := hml0
  have hown : s.vm.findClass "com/example/peakwise/peakwise/JobFitsPinLaw" = some m.cls := findClass_of_methodNamed Bd.named
  have hnm := (name_of_methodNamed Bd.named Bd.method).1
  have X0 : Stand p l e ({ frames := 0, cells := 0, slots := 0, locals := 0 } : Room) s m #[(.long q1), (.long q2), (.long q3), (.long q4)] below meth c s₁ [] 0 0 := Stand.of_body Bd
  have e0 : s₁.heap = h0 := by rw [← hh, Bd.state]; rfl
  have N0 := Fr.nil n0
  refine own_go (g' := (mkF m 0 #[.val (.long q1), .second, .val (.long q2), .second, .val (.long q3), .second, .val (.long q4), .second] [])) (fun t k => castTop (ef_16 m (q1) (q2) (q3) (q4)) k) ?_
  refine own_go (T' := s₁) (g' := (mkF m 4 #[.val (.long q1), .second, .val (.long q2), .second, .val (.long q3), .second, .val (.long q4), .second] [(.int (lcmpW q4 q1))])) (fun t kt => ?_) ?_
  · show Steps p.tables e below (s₁.setTop (mkF m 0 #[.val (.long q1), .second, .val (.long q2), .second, .val (.long q3), .second, .val (.long q4), .second] [])) t
    refine XS.lload X0.here hx rfl (hb hby d16_0) rfl ?_
    show Steps p.tables e below (s₁.setTop (mkF m 2 #[.val (.long q1), .second, .val (.long q2), .second, .val (.long q3), .second, .val (.long q4), .second] [(.long q4)])) t
    refine XS.lloadN X0.here hx rfl (hb hby d16_2) rfl ?_
    show Steps p.tables e below (s₁.setTop (mkF m 3 #[.val (.long q1), .second, .val (.long q2), .second, .val (.long q3), .second, .val (.long q4), .second] [(.long q1), (.long q4)])) t
    refine XS.lcmp X0.here hx rfl (hb hby d16_3) rfl ?_
    exact kt
  by_cases hc4 : q4 < q1
  · refine own_go (T' := s₁) (g' := (mkF m 8 #[.val (.long q1), .second, .val (.long q2), .second, .val (.long q3), .second, .val (.long q4), .second] [(.int (0 : Int32))])) (fun t kt => ?_) ?_
    · show Steps p.tables e below (s₁.setTop (mkF m 4 #[.val (.long q1), .second, .val (.long q2), .second, .val (.long q3), .second, .val (.long q4), .second] [(.int (lcmpW q4 q1))])) t
      refine XS.ifNo X0.here hx rfl (hb hby d16_4) rfl ((if0 _ _).trans (tlt ((lw_lt _ _).mpr hc4)).2.1) ?_
      show Steps p.tables e below (s₁.setTop (mkF m 7 #[.val (.long q1), .second, .val (.long q2), .second, .val (.long q3), .second, .val (.long q4), .second] [])) t
      refine XS.iconst X0.here hx rfl (hb hby d16_7) ?_
      exact kt
    obtain ⟨fs, hr, hrun, hended, hW, hsame⟩ := X0.leave (v := some (.int (0 : Int32))) (fun h => by rw [Bd.returns] at h; cases h)
    refine ⟨_, _, ?_, hrun, hended, _, _, rfl, ?_, ⟨_, rfl⟩, hW, hsame.mono (by decide) (by decide)⟩
    · exact retN X0 hx (t := .boolean) Bd.returns (by simp) (hb hby d16_8) hr
    · show Q_rref Z _ _ _ _ h0 n0 _ s₁.heap _
      rw [e0]
      exact ⟨congrArg (fun z => some (Value.int z)) (by simp only [own_ref, hc4, if_true, if_false]), N0, rfl⟩
  · refine own_go (T' := s₁) (g' := (mkF m 15 #[.val (.long q1), .second, .val (.long q2), .second, .val (.long q3), .second, .val (.long q4), .second] [(.int (lcmpW q4 (4611686018427387904 : Int64)))])) (fun t kt => ?_) ?_
    · show Steps p.tables e below (s₁.setTop (mkF m 4 #[.val (.long q1), .second, .val (.long q2), .second, .val (.long q3), .second, .val (.long q4), .second] [(.int (lcmpW q4 q1))])) t
      refine XS.ifYes X0.here hx rfl (pc0 := 4) (pc' := 9) rfl (hb hby d16_4) rfl ((if0 _ _).trans (flt (fun q => hc4 ((lw_lt _ _).mp q))).2.1) (by decide) (by decide) ?_
      show Steps p.tables e below (s₁.setTop (mkF m 9 #[.val (.long q1), .second, .val (.long q2), .second, .val (.long q3), .second, .val (.long q4), .second] [])) t
      refine XS.lload X0.here hx rfl (hb hby d16_9) rfl ?_
      show Steps p.tables e below (s₁.setTop (mkF m 11 #[.val (.long q1), .second, .val (.long q2), .second, .val (.long q3), .second, .val (.long q4), .second] [(.long q4)])) t
      refine X0.ldc2Long hx hown (mvT hZ (hw _ (List.mem_of_getElem? (i := 98) rfl))) (g := (mkF m 11 #[.val (.long q1), .second, .val (.long q2), .second, .val (.long q3), .second, .val (.long q4), .second] [(.long q4)])) rfl (hb hby d16_11) _ ?_
      show Steps p.tables e below (s₁.setTop (mkF m 14 #[.val (.long q1), .second, .val (.long q2), .second, .val (.long q3), .second, .val (.long q4), .second] [(.long (4611686018427387904 : Int64)), (.long q4)])) t
      refine XS.lcmp X0.here hx rfl (hb hby d16_14) rfl ?_
      exact kt
    by_cases hc15 : q4 < (4611686018427387904 : Int64)
    · refine own_go (T' := s₁) (g' := (mkF m 27 #[.val (.long q1), .second, .val (.long q2), .second, .val (.long q3), .second, .val (.long q4), .second] [(.int (lcmpW (q4 + q3) q2))])) (fun t kt => ?_) ?_
      · show Steps p.tables e below (s₁.setTop (mkF m 15 #[.val (.long q1), .second, .val (.long q2), .second, .val (.long q3), .second, .val (.long q4), .second] [(.int (lcmpW q4 (4611686018427387904 : Int64)))])) t
        refine XS.ifYes X0.here hx rfl (pc0 := 15) (pc' := 20) rfl (hb hby d16_15) rfl ((if0 _ _).trans (tlt ((lw_lt _ _).mpr hc15)).1) (by decide) (by decide) ?_
        show Steps p.tables e below (s₁.setTop (mkF m 20 #[.val (.long q1), .second, .val (.long q2), .second, .val (.long q3), .second, .val (.long q4), .second] [])) t
        refine XS.lload X0.here hx rfl (hb hby d16_20) rfl ?_
        show Steps p.tables e below (s₁.setTop (mkF m 22 #[.val (.long q1), .second, .val (.long q2), .second, .val (.long q3), .second, .val (.long q4), .second] [(.long q4)])) t
        refine XS.lload X0.here hx rfl (hb hby d16_22) rfl ?_
        show Steps p.tables e below (s₁.setTop (mkF m 24 #[.val (.long q1), .second, .val (.long q2), .second, .val (.long q3), .second, .val (.long q4), .second] [(.long q3), (.long q4)])) t
        refine XS.ladd X0.here hx rfl (hb hby d16_24) rfl ?_
        show Steps p.tables e below (s₁.setTop (mkF m 25 #[.val (.long q1), .second, .val (.long q2), .second, .val (.long q3), .second, .val (.long q4), .second] [(.long (q4 + q3))])) t
        refine XS.lloadN X0.here hx rfl (hb hby d16_25) rfl ?_
        show Steps p.tables e below (s₁.setTop (mkF m 26 #[.val (.long q1), .second, .val (.long q2), .second, .val (.long q3), .second, .val (.long q4), .second] [(.long q2), (.long (q4 + q3))])) t
        refine XS.lcmp X0.here hx rfl (hb hby d16_26) rfl ?_
        exact kt
      by_cases hc27 : q2 < (q4 + q3)
      · refine own_go (T' := s₁) (g' := (mkF m 35 #[.val (.long q1), .second, .val (.long q2), .second, .val (.long q3), .second, .val (.long q4), .second] [(.int (0 : Int32))])) (fun t kt => ?_) ?_
        · show Steps p.tables e below (s₁.setTop (mkF m 27 #[.val (.long q1), .second, .val (.long q2), .second, .val (.long q3), .second, .val (.long q4), .second] [(.int (lcmpW (q4 + q3) q2))])) t
          refine XS.ifYes X0.here hx rfl (pc0 := 27) (pc' := 34) rfl (hb hby d16_27) rfl ((if0 _ _).trans (tlt ((lw_gt _ _).mpr hc27)).2.2.1) (by decide) (by decide) ?_
          show Steps p.tables e below (s₁.setTop (mkF m 34 #[.val (.long q1), .second, .val (.long q2), .second, .val (.long q3), .second, .val (.long q4), .second] [])) t
          refine XS.iconst X0.here hx rfl (hb hby d16_34) ?_
          exact kt
        obtain ⟨fs, hr, hrun, hended, hW, hsame⟩ := X0.leave (v := some (.int (0 : Int32))) (fun h => by rw [Bd.returns] at h; cases h)
        refine ⟨_, _, ?_, hrun, hended, _, _, rfl, ?_, ⟨_, rfl⟩, hW, hsame.mono (by decide) (by decide)⟩
        · exact retN X0 hx (t := .boolean) Bd.returns (by simp) (hb hby d16_35) hr
        · show Q_rref Z _ _ _ _ h0 n0 _ s₁.heap _
          rw [e0]
          exact ⟨congrArg (fun z => some (Value.int z)) (by simp only [own_ref, hc4, hc15, hc27, if_true, if_false]), N0, rfl⟩
      · refine own_go (T' := s₁) (g' := (mkF m 35 #[.val (.long q1), .second, .val (.long q2), .second, .val (.long q3), .second, .val (.long q4), .second] [(.int (1 : Int32))])) (fun t kt => ?_) ?_
        · show Steps p.tables e below (s₁.setTop (mkF m 27 #[.val (.long q1), .second, .val (.long q2), .second, .val (.long q3), .second, .val (.long q4), .second] [(.int (lcmpW (q4 + q3) q2))])) t
          refine XS.ifNo X0.here hx rfl (hb hby d16_27) rfl ((if0 _ _).trans (flt (fun q => hc27 ((lw_gt _ _).mp q))).2.2.1) ?_
          show Steps p.tables e below (s₁.setTop (mkF m 30 #[.val (.long q1), .second, .val (.long q2), .second, .val (.long q3), .second, .val (.long q4), .second] [])) t
          refine XS.iconst X0.here hx rfl (hb hby d16_30) ?_
          show Steps p.tables e below (s₁.setTop (mkF m 31 #[.val (.long q1), .second, .val (.long q2), .second, .val (.long q3), .second, .val (.long q4), .second] [(.int (1 : Int32))])) t
          refine XS.goto X0.here hx rfl (pc0 := 31) (pc' := 35) rfl (hb hby d16_31) (by decide) (by decide) ?_
          exact kt
        obtain ⟨fs, hr, hrun, hended, hW, hsame⟩ := X0.leave (v := some (.int (1 : Int32))) (fun h => by rw [Bd.returns] at h; cases h)
        refine ⟨_, _, ?_, hrun, hended, _, _, rfl, ?_, ⟨_, rfl⟩, hW, hsame.mono (by decide) (by decide)⟩
        · exact retN X0 hx (t := .boolean) Bd.returns (by simp) (hb hby d16_35) hr
        · show Q_rref Z _ _ _ _ h0 n0 _ s₁.heap _
          rw [e0]
          exact ⟨congrArg (fun z => some (Value.int z)) (by simp only [own_ref, hc4, hc15, hc27, if_true, if_false]), N0, rfl⟩
    · refine own_go (T' := s₁) (g' := (mkF m 19 #[.val (.long q1), .second, .val (.long q2), .second, .val (.long q3), .second, .val (.long q4), .second] [(.int (0 : Int32))])) (fun t kt => ?_) ?_
      · show Steps p.tables e below (s₁.setTop (mkF m 15 #[.val (.long q1), .second, .val (.long q2), .second, .val (.long q3), .second, .val (.long q4), .second] [(.int (lcmpW q4 (4611686018427387904 : Int64)))])) t
        refine XS.ifNo X0.here hx rfl (hb hby d16_15) rfl ((if0 _ _).trans (flt (fun q => hc15 ((lw_lt _ _).mp q))).1) ?_
        show Steps p.tables e below (s₁.setTop (mkF m 18 #[.val (.long q1), .second, .val (.long q2), .second, .val (.long q3), .second, .val (.long q4), .second] [])) t
        refine XS.iconst X0.here hx rfl (hb hby d16_18) ?_
        exact kt
      obtain ⟨fs, hr, hrun, hended, hW, hsame⟩ := X0.leave (v := some (.int (0 : Int32))) (fun h => by rw [Bd.returns] at h; cases h)
      refine ⟨_, _, ?_, hrun, hended, _, _, rfl, ?_, ⟨_, rfl⟩, hW, hsame.mono (by decide) (by decide)⟩
      · exact retN X0 hx (t := .boolean) Bd.returns (by simp) (hb hby d16_19) hr
      · show Q_rref Z _ _ _ _ h0 n0 _ s₁.heap _
        rw [e0]
        exact ⟨congrArg (fun z => some (Value.int z)) (by simp only [own_ref, hc4, hc15, if_true, if_false]), N0, rfl⟩
theorem pn_0 : plainName "com/example/peakwise/peakwise/JobFitsPinLaw" = true := by first | (simp [plainName, overriddenIn]; done) | decide +kernel
theorem ef_0 (m : MethodId) (x0 : Int64) (x1 : Int64) (x2 : Int64) (x3 : Int64) (x4 : Int32) : entryFrame m #[(.long x0), (.long x1), (.long x2), (.long x3), (.int x4)] maxLocals = mkF m 0 #[.val (.long x0), .second, .val (.long x1), .second, .val (.long x2), .second, .val (.long x3), .second, .val (.int x4), .unset, .unset, .unset, .unset, .unset, .unset, .unset, .unset, .unset, .unset, .unset] [] := by first | (simp [entryFrame, mkF, argsToLocals, Value.category, maxLocals]; done) | rfl
def Q_rm0 (Z : State) (q1 : Int64) (q2 : Int64) (q3 : Int64) (q4 : Int64) (p5 : Int32) (cs : Int32) (fv : Value) (h0 : Heap) (n0 : Nat) (v : Option Value) (h : Heap) (L : List Loc) : Prop := v = some (.int (1 : Int32)) ∧ Fr n0 L
theorem pd_0 : parseMethodDescriptor "(Ljava/lang/String;JJJJ)V" = some ⟨[(.object "java/lang/String"), .long, .long, .long, .long], none⟩ := by decide +kernel
theorem pd_12 : parseMethodDescriptor "(J)Z" = some ⟨[.long], some .boolean⟩ := by decide +kernel
theorem pd_13 : parseMethodDescriptor "(JJJJ)Z" = some ⟨[.long, .long, .long, .long], some .boolean⟩ := by decide +kernel
set_option maxRecDepth 65536 in
set_option maxHeartbeats 40000000 in
theorem rm0 (l : Launch) (Z : State) (a0 : Array Value) (hw : ∀ d ∈ tables_1, d.before a0 Z = true) (ws : List Jvm.Cond) (q1 : Int64) (q2 : Int64) (q3 : Int64) (q4 : Int64) (p5 : Int32) (cs : Int32) (fv : Value) (h0 : Heap) (n0 : Nat) (Z0 : n0 ≤ h0.size) (O0 : Old Z n0 h0) (S1 : Sta Z Z.heap "java/lang/String" "COMPACT_STRINGS" "Z" (.int cs)) (hcs : ¬ (cs = (0 : Int32))) (S2 : Sta Z Z.heap "jdk/internal/util/Preconditions" "SIOOBE_FORMATTER" "Ljava/util/function/BiFunction;" fv) (rf : fv.isRef = true) (hch : Jvm.Lit.constHeld Z "com/example/peakwise/peakwise/JobFitsPinLaw" 19) (hcw : Jvm.Lit.compactW.before a0 Z = true) :
    MetFree l x (head1 (Jvm.Cond.code x code maxLocals ret :: ws) room_1) (fun a U => a = #[(.long q1), (.long q2), (.long q3), (.long q4), (.int p5)] ∧ Z.Warmed39 U.vm ∧ U.heap = h0 ∧ IB Z U.vm []) (fun _ _ _ _ _ => True) (fun _ U o U' => ∃ v L, o = .returned v ∧ Q_rm0 Z q1 q2 q3 q4 p5 cs fv h0 n0 v U'.heap L ∧ ReturnedEndW U o U' L room_1.cells room_1.slots) := by
  refine MetFree.of_bodySF (plainFor_of_name pn_0) hisR ?_
  intro p e s m args below meth c s₁ Bd hml0 hP hK
  obtain ⟨rfl, hZ, hh, hIB0⟩ := hP
  have hx := Bd.exec
  have hby := Bd.bytes
  have hml : c.maxLocals = 20 := hml0
  have hown : s.vm.findClass "com/example/peakwise/peakwise/JobFitsPinLaw" = some m.cls := findClass_of_methodNamed Bd.named
  have hnm := (name_of_methodNamed Bd.named Bd.method).1
  have X0 : Stand p l e room_1 (s.setVm s.vm) m #[(.long q1), (.long q2), (.long q3), (.long q4), (.int p5)] below meth c s₁ [] 0 0 := Stand.of_body Bd
  have hZ0 : Z.Warmed39 (s.setVm s.vm).vm := hZ
  have hown0 : (s.setVm s.vm).vm.findClass "com/example/peakwise/peakwise/JobFitsPinLaw" = some m.cls := hown
  have hS0 : s.Since s.vm 0 := (State.WarmedH.refl s).since 0
  have hk0 : 0 ≤ h0.size := Nat.zero_le _
  have e0 : s₁.heap = h0 := by rw [← hh, Bd.state]; rfl
  have N0 := Fr.nil n0
  refine own_go (g' := (mkF m 0 #[.val (.long q1), .second, .val (.long q2), .second, .val (.long q3), .second, .val (.long q4), .second, .val (.int p5), .unset, .unset, .unset, .unset, .unset, .unset, .unset, .unset, .unset, .unset, .unset] [])) (fun t k => castTop (ef_0 m (q1) (q2) (q3) (q4) (p5)) k) ?_
  refine own_go (T' := s₁) (g' := (mkF m 13 #[.val (.long q1), .second, .val (.long q2), .second, .val (.long q3), .second, .val (.long q4), .second, .val (.int p5), .val (.long ((1 : Int64) + ((q1 &&& (4611686018427387903 : Int64)) - ((q1 &&& (4611686018427387903 : Int64)) / (4611686018427387903 : Int64)) * (4611686018427387903 : Int64)))), .second, .unset, .unset, .unset, .unset, .unset, .unset, .unset, .unset, .unset] [])) (fun t kt => ?_) ?_
  · show Steps p.tables e below (s₁.setTop (mkF m 0 #[.val (.long q1), .second, .val (.long q2), .second, .val (.long q3), .second, .val (.long q4), .second, .val (.int p5), .unset, .unset, .unset, .unset, .unset, .unset, .unset, .unset, .unset, .unset, .unset] [])) t
    refine XS.lconst X0.here hx rfl (hb hby at_0) ?_
    show Steps p.tables e below (s₁.setTop (mkF m 1 #[.val (.long q1), .second, .val (.long q2), .second, .val (.long q3), .second, .val (.long q4), .second, .val (.int p5), .unset, .unset, .unset, .unset, .unset, .unset, .unset, .unset, .unset, .unset, .unset] [(.long (1 : Int64))])) t
    refine XS.lloadN X0.here hx rfl (hb hby at_1) rfl ?_
    show Steps p.tables e below (s₁.setTop (mkF m 2 #[.val (.long q1), .second, .val (.long q2), .second, .val (.long q3), .second, .val (.long q4), .second, .val (.int p5), .unset, .unset, .unset, .unset, .unset, .unset, .unset, .unset, .unset, .unset, .unset] [(.long q1), (.long (1 : Int64))])) t
    refine X0.ldc2Long hx hown0 (mvT hZ0 (hw _ (List.mem_of_getElem? (i := 0) rfl))) (g := (mkF m 2 #[.val (.long q1), .second, .val (.long q2), .second, .val (.long q3), .second, .val (.long q4), .second, .val (.int p5), .unset, .unset, .unset, .unset, .unset, .unset, .unset, .unset, .unset, .unset, .unset] [(.long q1), (.long (1 : Int64))])) rfl (hb hby at_2) _ ?_
    show Steps p.tables e below (s₁.setTop (mkF m 5 #[.val (.long q1), .second, .val (.long q2), .second, .val (.long q3), .second, .val (.long q4), .second, .val (.int p5), .unset, .unset, .unset, .unset, .unset, .unset, .unset, .unset, .unset, .unset, .unset] [(.long (4611686018427387903 : Int64)), (.long q1), (.long (1 : Int64))])) t
    refine XS.land X0.here hx rfl (hb hby at_5) rfl ?_
    show Steps p.tables e below (s₁.setTop (mkF m 6 #[.val (.long q1), .second, .val (.long q2), .second, .val (.long q3), .second, .val (.long q4), .second, .val (.int p5), .unset, .unset, .unset, .unset, .unset, .unset, .unset, .unset, .unset, .unset, .unset] [(.long (q1 &&& (4611686018427387903 : Int64))), (.long (1 : Int64))])) t
    refine X0.ldc2Long hx hown0 (mvT hZ0 (hw _ (List.mem_of_getElem? (i := 0) rfl))) (g := (mkF m 6 #[.val (.long q1), .second, .val (.long q2), .second, .val (.long q3), .second, .val (.long q4), .second, .val (.int p5), .unset, .unset, .unset, .unset, .unset, .unset, .unset, .unset, .unset, .unset, .unset] [(.long (q1 &&& (4611686018427387903 : Int64))), (.long (1 : Int64))])) rfl (hb hby at_6) _ ?_
    show Steps p.tables e below (s₁.setTop (mkF m 9 #[.val (.long q1), .second, .val (.long q2), .second, .val (.long q3), .second, .val (.long q4), .second, .val (.int p5), .unset, .unset, .unset, .unset, .unset, .unset, .unset, .unset, .unset, .unset, .unset] [(.long (4611686018427387903 : Int64)), (.long (q1 &&& (4611686018427387903 : Int64))), (.long (1 : Int64))])) t
    refine XS.lrem X0.here hx rfl (hb hby at_9) rfl (by decide) ?_
    show Steps p.tables e below (s₁.setTop (mkF m 10 #[.val (.long q1), .second, .val (.long q2), .second, .val (.long q3), .second, .val (.long q4), .second, .val (.int p5), .unset, .unset, .unset, .unset, .unset, .unset, .unset, .unset, .unset, .unset, .unset] [(.long ((q1 &&& (4611686018427387903 : Int64)) - ((q1 &&& (4611686018427387903 : Int64)) / (4611686018427387903 : Int64)) * (4611686018427387903 : Int64))), (.long (1 : Int64))])) t
    refine XS.ladd X0.here hx rfl (hb hby at_10) rfl ?_
    show Steps p.tables e below (s₁.setTop (mkF m 11 #[.val (.long q1), .second, .val (.long q2), .second, .val (.long q3), .second, .val (.long q4), .second, .val (.int p5), .unset, .unset, .unset, .unset, .unset, .unset, .unset, .unset, .unset, .unset, .unset] [(.long ((1 : Int64) + ((q1 &&& (4611686018427387903 : Int64)) - ((q1 &&& (4611686018427387903 : Int64)) / (4611686018427387903 : Int64)) * (4611686018427387903 : Int64))))])) t
    refine XS.lstore X0.here hx rfl (hb hby at_11) rfl (l' := #[.val (.long q1), .second, .val (.long q2), .second, .val (.long q3), .second, .val (.long q4), .second, .val (.int p5), .val (.long ((1 : Int64) + ((q1 &&& (4611686018427387903 : Int64)) - ((q1 &&& (4611686018427387903 : Int64)) / (4611686018427387903 : Int64)) * (4611686018427387903 : Int64)))), .second, .unset, .unset, .unset, .unset, .unset, .unset, .unset, .unset, .unset]) rfl ?_
    exact kt
  obtain ⟨hD1, hD2⟩ := own_d q1
  generalize ((1 : Int64) + ((q1 &&& (4611686018427387903 : Int64)) - ((q1 &&& (4611686018427387903 : Int64)) / (4611686018427387903 : Int64)) * (4611686018427387903 : Int64))) = dl at hD1 hD2 ⊢
  refine own_go (T' := s₁) (g' := (mkF m 25 #[.val (.long q1), .second, .val (.long q2), .second, .val (.long q3), .second, .val (.long q4), .second, .val (.int p5), .val (.long dl), .second, .val (.long ((1 : Int64) + ((q2 &&& (4611686018427387903 : Int64)) - ((q2 &&& (4611686018427387903 : Int64)) / dl) * dl))), .second, .unset, .unset, .unset, .unset, .unset, .unset, .unset] [])) (fun t kt => ?_) ?_
  · show Steps p.tables e below (s₁.setTop (mkF m 13 #[.val (.long q1), .second, .val (.long q2), .second, .val (.long q3), .second, .val (.long q4), .second, .val (.int p5), .val (.long dl), .second, .unset, .unset, .unset, .unset, .unset, .unset, .unset, .unset, .unset] [])) t
    refine XS.lconst X0.here hx rfl (hb hby at_13) ?_
    show Steps p.tables e below (s₁.setTop (mkF m 14 #[.val (.long q1), .second, .val (.long q2), .second, .val (.long q3), .second, .val (.long q4), .second, .val (.int p5), .val (.long dl), .second, .unset, .unset, .unset, .unset, .unset, .unset, .unset, .unset, .unset] [(.long (1 : Int64))])) t
    refine XS.lloadN X0.here hx rfl (hb hby at_14) rfl ?_
    show Steps p.tables e below (s₁.setTop (mkF m 15 #[.val (.long q1), .second, .val (.long q2), .second, .val (.long q3), .second, .val (.long q4), .second, .val (.int p5), .val (.long dl), .second, .unset, .unset, .unset, .unset, .unset, .unset, .unset, .unset, .unset] [(.long q2), (.long (1 : Int64))])) t
    refine X0.ldc2Long hx hown0 (mvT hZ0 (hw _ (List.mem_of_getElem? (i := 0) rfl))) (g := (mkF m 15 #[.val (.long q1), .second, .val (.long q2), .second, .val (.long q3), .second, .val (.long q4), .second, .val (.int p5), .val (.long dl), .second, .unset, .unset, .unset, .unset, .unset, .unset, .unset, .unset, .unset] [(.long q2), (.long (1 : Int64))])) rfl (hb hby at_15) _ ?_
    show Steps p.tables e below (s₁.setTop (mkF m 18 #[.val (.long q1), .second, .val (.long q2), .second, .val (.long q3), .second, .val (.long q4), .second, .val (.int p5), .val (.long dl), .second, .unset, .unset, .unset, .unset, .unset, .unset, .unset, .unset, .unset] [(.long (4611686018427387903 : Int64)), (.long q2), (.long (1 : Int64))])) t
    refine XS.land X0.here hx rfl (hb hby at_18) rfl ?_
    show Steps p.tables e below (s₁.setTop (mkF m 19 #[.val (.long q1), .second, .val (.long q2), .second, .val (.long q3), .second, .val (.long q4), .second, .val (.int p5), .val (.long dl), .second, .unset, .unset, .unset, .unset, .unset, .unset, .unset, .unset, .unset] [(.long (q2 &&& (4611686018427387903 : Int64))), (.long (1 : Int64))])) t
    refine XS.lload X0.here hx rfl (hb hby at_19) rfl ?_
    show Steps p.tables e below (s₁.setTop (mkF m 21 #[.val (.long q1), .second, .val (.long q2), .second, .val (.long q3), .second, .val (.long q4), .second, .val (.int p5), .val (.long dl), .second, .unset, .unset, .unset, .unset, .unset, .unset, .unset, .unset, .unset] [(.long dl), (.long (q2 &&& (4611686018427387903 : Int64))), (.long (1 : Int64))])) t
    refine XS.lrem X0.here hx rfl (hb hby at_21) rfl (own_nz dl hD1) ?_
    show Steps p.tables e below (s₁.setTop (mkF m 22 #[.val (.long q1), .second, .val (.long q2), .second, .val (.long q3), .second, .val (.long q4), .second, .val (.int p5), .val (.long dl), .second, .unset, .unset, .unset, .unset, .unset, .unset, .unset, .unset, .unset] [(.long ((q2 &&& (4611686018427387903 : Int64)) - ((q2 &&& (4611686018427387903 : Int64)) / dl) * dl)), (.long (1 : Int64))])) t
    refine XS.ladd X0.here hx rfl (hb hby at_22) rfl ?_
    show Steps p.tables e below (s₁.setTop (mkF m 23 #[.val (.long q1), .second, .val (.long q2), .second, .val (.long q3), .second, .val (.long q4), .second, .val (.int p5), .val (.long dl), .second, .unset, .unset, .unset, .unset, .unset, .unset, .unset, .unset, .unset] [(.long ((1 : Int64) + ((q2 &&& (4611686018427387903 : Int64)) - ((q2 &&& (4611686018427387903 : Int64)) / dl) * dl)))])) t
    refine XS.lstore X0.here hx rfl (hb hby at_23) rfl (l' := #[.val (.long q1), .second, .val (.long q2), .second, .val (.long q3), .second, .val (.long q4), .second, .val (.int p5), .val (.long dl), .second, .val (.long ((1 : Int64) + ((q2 &&& (4611686018427387903 : Int64)) - ((q2 &&& (4611686018427387903 : Int64)) / dl) * dl))), .second, .unset, .unset, .unset, .unset, .unset, .unset, .unset]) rfl ?_
    exact kt
  obtain ⟨hW1, hW2⟩ := own_w q2 dl hD1 hD2
  generalize ((1 : Int64) + ((q2 &&& (4611686018427387903 : Int64)) - ((q2 &&& (4611686018427387903 : Int64)) / dl) * dl)) = wd at hW1 hW2 ⊢
  have hM := own_m dl wd hW1 hW2 hD2
  refine own_go (T' := s₁) (g' := (mkF m 41 #[.val (.long q1), .second, .val (.long q2), .second, .val (.long q3), .second, .val (.long q4), .second, .val (.int p5), .val (.long dl), .second, .val (.long wd), .second, .val (.long ((q3 &&& (4611686018427387903 : Int64)) - ((q3 &&& (4611686018427387903 : Int64)) / ((dl - wd) + (1 : Int64))) * ((dl - wd) + (1 : Int64)))), .second, .unset, .unset, .unset, .unset, .unset] [])) (fun t kt => ?_) ?_
  · show Steps p.tables e below (s₁.setTop (mkF m 25 #[.val (.long q1), .second, .val (.long q2), .second, .val (.long q3), .second, .val (.long q4), .second, .val (.int p5), .val (.long dl), .second, .val (.long wd), .second, .unset, .unset, .unset, .unset, .unset, .unset, .unset] [])) t
    refine XS.lload X0.here hx rfl (hb hby at_25) rfl ?_
    show Steps p.tables e below (s₁.setTop (mkF m 27 #[.val (.long q1), .second, .val (.long q2), .second, .val (.long q3), .second, .val (.long q4), .second, .val (.int p5), .val (.long dl), .second, .val (.long wd), .second, .unset, .unset, .unset, .unset, .unset, .unset, .unset] [(.long q3)])) t
    refine X0.ldc2Long hx hown0 (mvT hZ0 (hw _ (List.mem_of_getElem? (i := 0) rfl))) (g := (mkF m 27 #[.val (.long q1), .second, .val (.long q2), .second, .val (.long q3), .second, .val (.long q4), .second, .val (.int p5), .val (.long dl), .second, .val (.long wd), .second, .unset, .unset, .unset, .unset, .unset, .unset, .unset] [(.long q3)])) rfl (hb hby at_27) _ ?_
    show Steps p.tables e below (s₁.setTop (mkF m 30 #[.val (.long q1), .second, .val (.long q2), .second, .val (.long q3), .second, .val (.long q4), .second, .val (.int p5), .val (.long dl), .second, .val (.long wd), .second, .unset, .unset, .unset, .unset, .unset, .unset, .unset] [(.long (4611686018427387903 : Int64)), (.long q3)])) t
    refine XS.land X0.here hx rfl (hb hby at_30) rfl ?_
    show Steps p.tables e below (s₁.setTop (mkF m 31 #[.val (.long q1), .second, .val (.long q2), .second, .val (.long q3), .second, .val (.long q4), .second, .val (.int p5), .val (.long dl), .second, .val (.long wd), .second, .unset, .unset, .unset, .unset, .unset, .unset, .unset] [(.long (q3 &&& (4611686018427387903 : Int64)))])) t
    refine XS.lload X0.here hx rfl (hb hby at_31) rfl ?_
    show Steps p.tables e below (s₁.setTop (mkF m 33 #[.val (.long q1), .second, .val (.long q2), .second, .val (.long q3), .second, .val (.long q4), .second, .val (.int p5), .val (.long dl), .second, .val (.long wd), .second, .unset, .unset, .unset, .unset, .unset, .unset, .unset] [(.long dl), (.long (q3 &&& (4611686018427387903 : Int64)))])) t
    refine XS.lload X0.here hx rfl (hb hby at_33) rfl ?_
    show Steps p.tables e below (s₁.setTop (mkF m 35 #[.val (.long q1), .second, .val (.long q2), .second, .val (.long q3), .second, .val (.long q4), .second, .val (.int p5), .val (.long dl), .second, .val (.long wd), .second, .unset, .unset, .unset, .unset, .unset, .unset, .unset] [(.long wd), (.long dl), (.long (q3 &&& (4611686018427387903 : Int64)))])) t
    refine XS.lsub X0.here hx rfl (hb hby at_35) rfl ?_
    show Steps p.tables e below (s₁.setTop (mkF m 36 #[.val (.long q1), .second, .val (.long q2), .second, .val (.long q3), .second, .val (.long q4), .second, .val (.int p5), .val (.long dl), .second, .val (.long wd), .second, .unset, .unset, .unset, .unset, .unset, .unset, .unset] [(.long (dl - wd)), (.long (q3 &&& (4611686018427387903 : Int64)))])) t
    refine XS.lconst X0.here hx rfl (hb hby at_36) ?_
    show Steps p.tables e below (s₁.setTop (mkF m 37 #[.val (.long q1), .second, .val (.long q2), .second, .val (.long q3), .second, .val (.long q4), .second, .val (.int p5), .val (.long dl), .second, .val (.long wd), .second, .unset, .unset, .unset, .unset, .unset, .unset, .unset] [(.long (1 : Int64)), (.long (dl - wd)), (.long (q3 &&& (4611686018427387903 : Int64)))])) t
    refine XS.ladd X0.here hx rfl (hb hby at_37) rfl ?_
    show Steps p.tables e below (s₁.setTop (mkF m 38 #[.val (.long q1), .second, .val (.long q2), .second, .val (.long q3), .second, .val (.long q4), .second, .val (.int p5), .val (.long dl), .second, .val (.long wd), .second, .unset, .unset, .unset, .unset, .unset, .unset, .unset] [(.long ((dl - wd) + (1 : Int64))), (.long (q3 &&& (4611686018427387903 : Int64)))])) t
    refine XS.lrem X0.here hx rfl (hb hby at_38) rfl (own_nz _ (by omega)) ?_
    show Steps p.tables e below (s₁.setTop (mkF m 39 #[.val (.long q1), .second, .val (.long q2), .second, .val (.long q3), .second, .val (.long q4), .second, .val (.int p5), .val (.long dl), .second, .val (.long wd), .second, .unset, .unset, .unset, .unset, .unset, .unset, .unset] [(.long ((q3 &&& (4611686018427387903 : Int64)) - ((q3 &&& (4611686018427387903 : Int64)) / ((dl - wd) + (1 : Int64))) * ((dl - wd) + (1 : Int64))))])) t
    refine XS.lstore X0.here hx rfl (hb hby at_39) rfl (l' := #[.val (.long q1), .second, .val (.long q2), .second, .val (.long q3), .second, .val (.long q4), .second, .val (.int p5), .val (.long dl), .second, .val (.long wd), .second, .val (.long ((q3 &&& (4611686018427387903 : Int64)) - ((q3 &&& (4611686018427387903 : Int64)) / ((dl - wd) + (1 : Int64))) * ((dl - wd) + (1 : Int64)))), .second, .unset, .unset, .unset, .unset, .unset]) rfl ?_
    exact kt
  obtain ⟨hR1, hR2⟩ := own_r q3 ((dl - wd) + (1 : Int64)) (by omega)
  generalize ((q3 &&& (4611686018427387903 : Int64)) - ((q3 &&& (4611686018427387903 : Int64)) / ((dl - wd) + (1 : Int64))) * ((dl - wd) + (1 : Int64))) = rel at hR1 hR2 ⊢
  rw [hM] at hR2
  have hrng := own_rng rel dl wd hW1 hW2 hD2 hR1 hR2
  refine own_go (T' := s₁) (g' := (mkF m 47 #[.val (.long q1), .second, .val (.long q2), .second, .val (.long q3), .second, .val (.long q4), .second, .val (.int p5), .val (.long dl), .second, .val (.long wd), .second, .val (.long rel), .second, .val (.int (p5 &&& (3 : Int32))), .unset, .unset, .unset, .unset] [])) (fun t kt => ?_) ?_
  · show Steps p.tables e below (s₁.setTop (mkF m 41 #[.val (.long q1), .second, .val (.long q2), .second, .val (.long q3), .second, .val (.long q4), .second, .val (.int p5), .val (.long dl), .second, .val (.long wd), .second, .val (.long rel), .second, .unset, .unset, .unset, .unset, .unset] [])) t
    refine XS.iload X0.here hx rfl (hb hby at_41) rfl ?_
    show Steps p.tables e below (s₁.setTop (mkF m 43 #[.val (.long q1), .second, .val (.long q2), .second, .val (.long q3), .second, .val (.long q4), .second, .val (.int p5), .val (.long dl), .second, .val (.long wd), .second, .val (.long rel), .second, .unset, .unset, .unset, .unset, .unset] [(.int p5)])) t
    refine XS.iconst X0.here hx rfl (hb hby at_43) ?_
    show Steps p.tables e below (s₁.setTop (mkF m 44 #[.val (.long q1), .second, .val (.long q2), .second, .val (.long q3), .second, .val (.long q4), .second, .val (.int p5), .val (.long dl), .second, .val (.long wd), .second, .val (.long rel), .second, .unset, .unset, .unset, .unset, .unset] [(.int (3 : Int32)), (.int p5)])) t
    refine XS.iand X0.here hx rfl (hb hby at_44) rfl ?_
    show Steps p.tables e below (s₁.setTop (mkF m 45 #[.val (.long q1), .second, .val (.long q2), .second, .val (.long q3), .second, .val (.long q4), .second, .val (.int p5), .val (.long dl), .second, .val (.long wd), .second, .val (.long rel), .second, .unset, .unset, .unset, .unset, .unset] [(.int (p5 &&& (3 : Int32)))])) t
    refine XS.istore X0.here hx rfl (hb hby at_45) rfl (l' := #[.val (.long q1), .second, .val (.long q2), .second, .val (.long q3), .second, .val (.long q4), .second, .val (.int p5), .val (.long dl), .second, .val (.long wd), .second, .val (.long rel), .second, .val (.int (p5 &&& (3 : Int32))), .unset, .unset, .unset, .unset]) rfl ?_
    exact kt
  obtain ⟨sta, hst⟩ : ∃ z : Int64, z = if (p5 &&& (3 : Int32)) = (1 : Int32) then (rel + ((q4 &&& (7 : Int64)) - (4 : Int64))) else if (p5 &&& (3 : Int32)) = (2 : Int32) then ((dl - wd) + ((q4 &&& (7 : Int64)) - (4 : Int64))) else q4 := ⟨_, rfl⟩
  refine own_go (T' := s₁) (g' := (mkF m 102 #[.val (.long q1), .second, .val (.long q2), .second, .val (.long q3), .second, .val (.long q4), .second, .val (.int p5), .val (.long dl), .second, .val (.long wd), .second, .val (.long rel), .second, .val (.int (p5 &&& (3 : Int32))), .val (.long sta), .second, .unset, .unset] [])) (fun t kt => ?_) ?_
  · show Steps p.tables e below (s₁.setTop (mkF m 47 #[.val (.long q1), .second, .val (.long q2), .second, .val (.long q3), .second, .val (.long q4), .second, .val (.int p5), .val (.long dl), .second, .val (.long wd), .second, .val (.long rel), .second, .val (.int (p5 &&& (3 : Int32))), .unset, .unset, .unset, .unset] [])) t
    refine XS.iload X0.here hx rfl (hb hby at_47) rfl ?_
    show Steps p.tables e below (s₁.setTop (mkF m 49 #[.val (.long q1), .second, .val (.long q2), .second, .val (.long q3), .second, .val (.long q4), .second, .val (.int p5), .val (.long dl), .second, .val (.long wd), .second, .val (.long rel), .second, .val (.int (p5 &&& (3 : Int32))), .unset, .unset, .unset, .unset] [(.int (p5 &&& (3 : Int32)))])) t
    refine XS.iconst X0.here hx rfl (hb hby at_49) ?_
    by_cases hc50 : (p5 &&& (3 : Int32)) = (1 : Int32)
    · show Steps p.tables e below (s₁.setTop (mkF m 50 #[.val (.long q1), .second, .val (.long q2), .second, .val (.long q3), .second, .val (.long q4), .second, .val (.int p5), .val (.long dl), .second, .val (.long wd), .second, .val (.long rel), .second, .val (.int (p5 &&& (3 : Int32))), .unset, .unset, .unset, .unset] [(.int (1 : Int32)), (.int (p5 &&& (3 : Int32)))])) t
      refine XS.icmpNo X0.here hx rfl (hb hby at_50) rfl (teq hc50).2 ?_
      show Steps p.tables e below (s₁.setTop (mkF m 53 #[.val (.long q1), .second, .val (.long q2), .second, .val (.long q3), .second, .val (.long q4), .second, .val (.int p5), .val (.long dl), .second, .val (.long wd), .second, .val (.long rel), .second, .val (.int (p5 &&& (3 : Int32))), .unset, .unset, .unset, .unset] [])) t
      refine XS.lload X0.here hx rfl (hb hby at_53) rfl ?_
      show Steps p.tables e below (s₁.setTop (mkF m 55 #[.val (.long q1), .second, .val (.long q2), .second, .val (.long q3), .second, .val (.long q4), .second, .val (.int p5), .val (.long dl), .second, .val (.long wd), .second, .val (.long rel), .second, .val (.int (p5 &&& (3 : Int32))), .unset, .unset, .unset, .unset] [(.long rel)])) t
      refine XS.lload X0.here hx rfl (hb hby at_55) rfl ?_
      show Steps p.tables e below (s₁.setTop (mkF m 57 #[.val (.long q1), .second, .val (.long q2), .second, .val (.long q3), .second, .val (.long q4), .second, .val (.int p5), .val (.long dl), .second, .val (.long wd), .second, .val (.long rel), .second, .val (.int (p5 &&& (3 : Int32))), .unset, .unset, .unset, .unset] [(.long q4), (.long rel)])) t
      refine X0.ldc2Long hx hown0 (mvT hZ0 (hw _ (List.mem_of_getElem? (i := 99) rfl))) (g := (mkF m 57 #[.val (.long q1), .second, .val (.long q2), .second, .val (.long q3), .second, .val (.long q4), .second, .val (.int p5), .val (.long dl), .second, .val (.long wd), .second, .val (.long rel), .second, .val (.int (p5 &&& (3 : Int32))), .unset, .unset, .unset, .unset] [(.long q4), (.long rel)])) rfl (hb hby at_57) _ ?_
      show Steps p.tables e below (s₁.setTop (mkF m 60 #[.val (.long q1), .second, .val (.long q2), .second, .val (.long q3), .second, .val (.long q4), .second, .val (.int p5), .val (.long dl), .second, .val (.long wd), .second, .val (.long rel), .second, .val (.int (p5 &&& (3 : Int32))), .unset, .unset, .unset, .unset] [(.long (7 : Int64)), (.long q4), (.long rel)])) t
      refine XS.land X0.here hx rfl (hb hby at_60) rfl ?_
      show Steps p.tables e below (s₁.setTop (mkF m 61 #[.val (.long q1), .second, .val (.long q2), .second, .val (.long q3), .second, .val (.long q4), .second, .val (.int p5), .val (.long dl), .second, .val (.long wd), .second, .val (.long rel), .second, .val (.int (p5 &&& (3 : Int32))), .unset, .unset, .unset, .unset] [(.long (q4 &&& (7 : Int64))), (.long rel)])) t
      refine X0.ldc2Long hx hown0 (mvT hZ0 (hw _ (List.mem_of_getElem? (i := 100) rfl))) (g := (mkF m 61 #[.val (.long q1), .second, .val (.long q2), .second, .val (.long q3), .second, .val (.long q4), .second, .val (.int p5), .val (.long dl), .second, .val (.long wd), .second, .val (.long rel), .second, .val (.int (p5 &&& (3 : Int32))), .unset, .unset, .unset, .unset] [(.long (q4 &&& (7 : Int64))), (.long rel)])) rfl (hb hby at_61) _ ?_
      show Steps p.tables e below (s₁.setTop (mkF m 64 #[.val (.long q1), .second, .val (.long q2), .second, .val (.long q3), .second, .val (.long q4), .second, .val (.int p5), .val (.long dl), .second, .val (.long wd), .second, .val (.long rel), .second, .val (.int (p5 &&& (3 : Int32))), .unset, .unset, .unset, .unset] [(.long (4 : Int64)), (.long (q4 &&& (7 : Int64))), (.long rel)])) t
      refine XS.lsub X0.here hx rfl (hb hby at_64) rfl ?_
      show Steps p.tables e below (s₁.setTop (mkF m 65 #[.val (.long q1), .second, .val (.long q2), .second, .val (.long q3), .second, .val (.long q4), .second, .val (.int p5), .val (.long dl), .second, .val (.long wd), .second, .val (.long rel), .second, .val (.int (p5 &&& (3 : Int32))), .unset, .unset, .unset, .unset] [(.long ((q4 &&& (7 : Int64)) - (4 : Int64))), (.long rel)])) t
      refine XS.ladd X0.here hx rfl (hb hby at_65) rfl ?_
      show Steps p.tables e below (s₁.setTop (mkF m 66 #[.val (.long q1), .second, .val (.long q2), .second, .val (.long q3), .second, .val (.long q4), .second, .val (.int p5), .val (.long dl), .second, .val (.long wd), .second, .val (.long rel), .second, .val (.int (p5 &&& (3 : Int32))), .unset, .unset, .unset, .unset] [(.long (rel + ((q4 &&& (7 : Int64)) - (4 : Int64))))])) t
      refine XS.lstore X0.here hx rfl (hb hby at_66) rfl (l' := #[.val (.long q1), .second, .val (.long q2), .second, .val (.long q3), .second, .val (.long q4), .second, .val (.int p5), .val (.long dl), .second, .val (.long wd), .second, .val (.long rel), .second, .val (.int (p5 &&& (3 : Int32))), .val (.long (rel + ((q4 &&& (7 : Int64)) - (4 : Int64)))), .second, .unset, .unset]) rfl ?_
      show Steps p.tables e below (s₁.setTop (mkF m 68 #[.val (.long q1), .second, .val (.long q2), .second, .val (.long q3), .second, .val (.long q4), .second, .val (.int p5), .val (.long dl), .second, .val (.long wd), .second, .val (.long rel), .second, .val (.int (p5 &&& (3 : Int32))), .val (.long (rel + ((q4 &&& (7 : Int64)) - (4 : Int64)))), .second, .unset, .unset] [])) t
      refine XS.goto X0.here hx rfl (pc0 := 68) (pc' := 102) rfl (hb hby at_68) (by decide) (by decide) ?_
      have hz : sta = (rel + ((q4 &&& (7 : Int64)) - (4 : Int64))) := hst.trans (if_pos hc50)
      rw [hz] at kt
      exact kt
    · show Steps p.tables e below (s₁.setTop (mkF m 50 #[.val (.long q1), .second, .val (.long q2), .second, .val (.long q3), .second, .val (.long q4), .second, .val (.int p5), .val (.long dl), .second, .val (.long wd), .second, .val (.long rel), .second, .val (.int (p5 &&& (3 : Int32))), .unset, .unset, .unset, .unset] [(.int (1 : Int32)), (.int (p5 &&& (3 : Int32)))])) t
      refine XS.icmpYes X0.here hx rfl (pc0 := 50) (pc' := 71) rfl (hb hby at_50) rfl (feq hc50).2 (by decide) (by decide) ?_
      show Steps p.tables e below (s₁.setTop (mkF m 71 #[.val (.long q1), .second, .val (.long q2), .second, .val (.long q3), .second, .val (.long q4), .second, .val (.int p5), .val (.long dl), .second, .val (.long wd), .second, .val (.long rel), .second, .val (.int (p5 &&& (3 : Int32))), .unset, .unset, .unset, .unset] [])) t
      refine XS.iload X0.here hx rfl (hb hby at_71) rfl ?_
      show Steps p.tables e below (s₁.setTop (mkF m 73 #[.val (.long q1), .second, .val (.long q2), .second, .val (.long q3), .second, .val (.long q4), .second, .val (.int p5), .val (.long dl), .second, .val (.long wd), .second, .val (.long rel), .second, .val (.int (p5 &&& (3 : Int32))), .unset, .unset, .unset, .unset] [(.int (p5 &&& (3 : Int32)))])) t
      refine XS.iconst X0.here hx rfl (hb hby at_73) ?_
      by_cases hc74 : (p5 &&& (3 : Int32)) = (2 : Int32)
      · show Steps p.tables e below (s₁.setTop (mkF m 74 #[.val (.long q1), .second, .val (.long q2), .second, .val (.long q3), .second, .val (.long q4), .second, .val (.int p5), .val (.long dl), .second, .val (.long wd), .second, .val (.long rel), .second, .val (.int (p5 &&& (3 : Int32))), .unset, .unset, .unset, .unset] [(.int (2 : Int32)), (.int (p5 &&& (3 : Int32)))])) t
        refine XS.icmpNo X0.here hx rfl (hb hby at_74) rfl (teq hc74).2 ?_
        show Steps p.tables e below (s₁.setTop (mkF m 77 #[.val (.long q1), .second, .val (.long q2), .second, .val (.long q3), .second, .val (.long q4), .second, .val (.int p5), .val (.long dl), .second, .val (.long wd), .second, .val (.long rel), .second, .val (.int (p5 &&& (3 : Int32))), .unset, .unset, .unset, .unset] [])) t
        refine XS.lload X0.here hx rfl (hb hby at_77) rfl ?_
        show Steps p.tables e below (s₁.setTop (mkF m 79 #[.val (.long q1), .second, .val (.long q2), .second, .val (.long q3), .second, .val (.long q4), .second, .val (.int p5), .val (.long dl), .second, .val (.long wd), .second, .val (.long rel), .second, .val (.int (p5 &&& (3 : Int32))), .unset, .unset, .unset, .unset] [(.long dl)])) t
        refine XS.lload X0.here hx rfl (hb hby at_79) rfl ?_
        show Steps p.tables e below (s₁.setTop (mkF m 81 #[.val (.long q1), .second, .val (.long q2), .second, .val (.long q3), .second, .val (.long q4), .second, .val (.int p5), .val (.long dl), .second, .val (.long wd), .second, .val (.long rel), .second, .val (.int (p5 &&& (3 : Int32))), .unset, .unset, .unset, .unset] [(.long wd), (.long dl)])) t
        refine XS.lsub X0.here hx rfl (hb hby at_81) rfl ?_
        show Steps p.tables e below (s₁.setTop (mkF m 82 #[.val (.long q1), .second, .val (.long q2), .second, .val (.long q3), .second, .val (.long q4), .second, .val (.int p5), .val (.long dl), .second, .val (.long wd), .second, .val (.long rel), .second, .val (.int (p5 &&& (3 : Int32))), .unset, .unset, .unset, .unset] [(.long (dl - wd))])) t
        refine XS.lload X0.here hx rfl (hb hby at_82) rfl ?_
        show Steps p.tables e below (s₁.setTop (mkF m 84 #[.val (.long q1), .second, .val (.long q2), .second, .val (.long q3), .second, .val (.long q4), .second, .val (.int p5), .val (.long dl), .second, .val (.long wd), .second, .val (.long rel), .second, .val (.int (p5 &&& (3 : Int32))), .unset, .unset, .unset, .unset] [(.long q4), (.long (dl - wd))])) t
        refine X0.ldc2Long hx hown0 (mvT hZ0 (hw _ (List.mem_of_getElem? (i := 99) rfl))) (g := (mkF m 84 #[.val (.long q1), .second, .val (.long q2), .second, .val (.long q3), .second, .val (.long q4), .second, .val (.int p5), .val (.long dl), .second, .val (.long wd), .second, .val (.long rel), .second, .val (.int (p5 &&& (3 : Int32))), .unset, .unset, .unset, .unset] [(.long q4), (.long (dl - wd))])) rfl (hb hby at_84) _ ?_
        show Steps p.tables e below (s₁.setTop (mkF m 87 #[.val (.long q1), .second, .val (.long q2), .second, .val (.long q3), .second, .val (.long q4), .second, .val (.int p5), .val (.long dl), .second, .val (.long wd), .second, .val (.long rel), .second, .val (.int (p5 &&& (3 : Int32))), .unset, .unset, .unset, .unset] [(.long (7 : Int64)), (.long q4), (.long (dl - wd))])) t
        refine XS.land X0.here hx rfl (hb hby at_87) rfl ?_
        show Steps p.tables e below (s₁.setTop (mkF m 88 #[.val (.long q1), .second, .val (.long q2), .second, .val (.long q3), .second, .val (.long q4), .second, .val (.int p5), .val (.long dl), .second, .val (.long wd), .second, .val (.long rel), .second, .val (.int (p5 &&& (3 : Int32))), .unset, .unset, .unset, .unset] [(.long (q4 &&& (7 : Int64))), (.long (dl - wd))])) t
        refine X0.ldc2Long hx hown0 (mvT hZ0 (hw _ (List.mem_of_getElem? (i := 100) rfl))) (g := (mkF m 88 #[.val (.long q1), .second, .val (.long q2), .second, .val (.long q3), .second, .val (.long q4), .second, .val (.int p5), .val (.long dl), .second, .val (.long wd), .second, .val (.long rel), .second, .val (.int (p5 &&& (3 : Int32))), .unset, .unset, .unset, .unset] [(.long (q4 &&& (7 : Int64))), (.long (dl - wd))])) rfl (hb hby at_88) _ ?_
        show Steps p.tables e below (s₁.setTop (mkF m 91 #[.val (.long q1), .second, .val (.long q2), .second, .val (.long q3), .second, .val (.long q4), .second, .val (.int p5), .val (.long dl), .second, .val (.long wd), .second, .val (.long rel), .second, .val (.int (p5 &&& (3 : Int32))), .unset, .unset, .unset, .unset] [(.long (4 : Int64)), (.long (q4 &&& (7 : Int64))), (.long (dl - wd))])) t
        refine XS.lsub X0.here hx rfl (hb hby at_91) rfl ?_
        show Steps p.tables e below (s₁.setTop (mkF m 92 #[.val (.long q1), .second, .val (.long q2), .second, .val (.long q3), .second, .val (.long q4), .second, .val (.int p5), .val (.long dl), .second, .val (.long wd), .second, .val (.long rel), .second, .val (.int (p5 &&& (3 : Int32))), .unset, .unset, .unset, .unset] [(.long ((q4 &&& (7 : Int64)) - (4 : Int64))), (.long (dl - wd))])) t
        refine XS.ladd X0.here hx rfl (hb hby at_92) rfl ?_
        show Steps p.tables e below (s₁.setTop (mkF m 93 #[.val (.long q1), .second, .val (.long q2), .second, .val (.long q3), .second, .val (.long q4), .second, .val (.int p5), .val (.long dl), .second, .val (.long wd), .second, .val (.long rel), .second, .val (.int (p5 &&& (3 : Int32))), .unset, .unset, .unset, .unset] [(.long ((dl - wd) + ((q4 &&& (7 : Int64)) - (4 : Int64))))])) t
        refine XS.lstore X0.here hx rfl (hb hby at_93) rfl (l' := #[.val (.long q1), .second, .val (.long q2), .second, .val (.long q3), .second, .val (.long q4), .second, .val (.int p5), .val (.long dl), .second, .val (.long wd), .second, .val (.long rel), .second, .val (.int (p5 &&& (3 : Int32))), .val (.long ((dl - wd) + ((q4 &&& (7 : Int64)) - (4 : Int64)))), .second, .unset, .unset]) rfl ?_
        show Steps p.tables e below (s₁.setTop (mkF m 95 #[.val (.long q1), .second, .val (.long q2), .second, .val (.long q3), .second, .val (.long q4), .second, .val (.int p5), .val (.long dl), .second, .val (.long wd), .second, .val (.long rel), .second, .val (.int (p5 &&& (3 : Int32))), .val (.long ((dl - wd) + ((q4 &&& (7 : Int64)) - (4 : Int64)))), .second, .unset, .unset] [])) t
        refine XS.goto X0.here hx rfl (pc0 := 95) (pc' := 102) rfl (hb hby at_95) (by decide) (by decide) ?_
        have hz : sta = ((dl - wd) + ((q4 &&& (7 : Int64)) - (4 : Int64))) := hst.trans ((if_neg hc50).trans (if_pos hc74))
        rw [hz] at kt
        exact kt
      · show Steps p.tables e below (s₁.setTop (mkF m 74 #[.val (.long q1), .second, .val (.long q2), .second, .val (.long q3), .second, .val (.long q4), .second, .val (.int p5), .val (.long dl), .second, .val (.long wd), .second, .val (.long rel), .second, .val (.int (p5 &&& (3 : Int32))), .unset, .unset, .unset, .unset] [(.int (2 : Int32)), (.int (p5 &&& (3 : Int32)))])) t
        refine XS.icmpYes X0.here hx rfl (pc0 := 74) (pc' := 98) rfl (hb hby at_74) rfl (feq hc74).2 (by decide) (by decide) ?_
        show Steps p.tables e below (s₁.setTop (mkF m 98 #[.val (.long q1), .second, .val (.long q2), .second, .val (.long q3), .second, .val (.long q4), .second, .val (.int p5), .val (.long dl), .second, .val (.long wd), .second, .val (.long rel), .second, .val (.int (p5 &&& (3 : Int32))), .unset, .unset, .unset, .unset] [])) t
        refine XS.lload X0.here hx rfl (hb hby at_98) rfl ?_
        show Steps p.tables e below (s₁.setTop (mkF m 100 #[.val (.long q1), .second, .val (.long q2), .second, .val (.long q3), .second, .val (.long q4), .second, .val (.int p5), .val (.long dl), .second, .val (.long wd), .second, .val (.long rel), .second, .val (.int (p5 &&& (3 : Int32))), .unset, .unset, .unset, .unset] [(.long q4)])) t
        refine XS.lstore X0.here hx rfl (hb hby at_100) rfl (l' := #[.val (.long q1), .second, .val (.long q2), .second, .val (.long q3), .second, .val (.long q4), .second, .val (.int p5), .val (.long dl), .second, .val (.long wd), .second, .val (.long rel), .second, .val (.int (p5 &&& (3 : Int32))), .val (.long q4), .second, .unset, .unset]) rfl ?_
        have hz : sta = q4 := hst.trans ((if_neg hc50).trans (if_neg hc74))
        rw [hz] at kt
        exact kt
  obtain ⟨T_1, h_1, X_1, e_1, E_1, A_1, D_1, -, st_1⟩ := newO X0 hx hZ0 hown0 (hw _ (List.mem_of_getElem? (i := 1) rfl)) (hw _ (List.mem_of_getElem? (i := 2) rfl)) (hw _ (List.mem_of_getElem? (i := 3) rfl)) e0 (g := (mkF m 102 #[.val (.long q1), .second, .val (.long q2), .second, .val (.long q3), .second, .val (.long q4), .second, .val (.int p5), .val (.long dl), .second, .val (.long wd), .second, .val (.long rel), .second, .val (.int (p5 &&& (3 : Int32))), .val (.long sta), .second, .unset, .unset] [])) rfl (hb hby at_102) (by decide) (by decide)
  obtain ⟨b_1, g_1⟩ : ∃ z, z = h0.size := ⟨_, rfl⟩
  rw [← g_1] at A_1 D_1 st_1
  have g_b_1 : n0 ≤ b_1 := Nat.le_trans Z0 (Nat.le_of_eq g_1.symm)
  have Z_1 : n0 ≤ h_1.size := Nat.le_trans Z0 E_1.1
  have hk_1' : 0 ≤ h_1.size := Nat.le_trans hk0 E_1.1
  have F_id_b_1 : Fld Z h_1 b_1 "com/example/peakwise/peakwise/Job" "id" "Ljava/lang/String;" .null := D_1 (Or.inr (hw _ (List.mem_of_getElem? (i := 80) rfl))) (ty := (.object "java/lang/String")) (by decide)
  have F_release_b_1 : Fld Z h_1 b_1 "com/example/peakwise/peakwise/Job" "release" "J" (.long (0 : Int64)) := D_1 (Or.inr (hw _ (List.mem_of_getElem? (i := 82) rfl))) (ty := .long) (by decide)
  have F_deadline_b_1 : Fld Z h_1 b_1 "com/example/peakwise/peakwise/Job" "deadline" "J" (.long (0 : Int64)) := D_1 (Or.inr (hw _ (List.mem_of_getElem? (i := 84) rfl))) (ty := .long) (by decide)
  have F_width_b_1 : Fld Z h_1 b_1 "com/example/peakwise/peakwise/Job" "width" "J" (.long (0 : Int64)) := D_1 (Or.inr (hw _ (List.mem_of_getElem? (i := 86) rfl))) (ty := .long) (by decide)
  have F_height_b_1 : Fld Z h_1 b_1 "com/example/peakwise/peakwise/Job" "height" "J" (.long (0 : Int64)) := D_1 (Or.inr (hw _ (List.mem_of_getElem? (i := 88) rfl))) (ty := .long) (by decide)
  refine own_go (g' := (mkF m 105 #[.val (.long q1), .second, .val (.long q2), .second, .val (.long q3), .second, .val (.long q4), .second, .val (.int p5), .val (.long dl), .second, .val (.long wd), .second, .val (.long rel), .second, .val (.int (p5 &&& (3 : Int32))), .val (.long sta), .second, .unset, .unset] [(.ref b_1)])) st_1 ?_
  refine own_go (T' := T_1) (g' := (mkF m 106 #[.val (.long q1), .second, .val (.long q2), .second, .val (.long q3), .second, .val (.long q4), .second, .val (.int p5), .val (.long dl), .second, .val (.long wd), .second, .val (.long rel), .second, .val (.int (p5 &&& (3 : Int32))), .val (.long sta), .second, .unset, .unset] [(.ref b_1), (.ref b_1)])) (fun t kt => ?_) ?_
  · show Steps p.tables e below (T_1.setTop (mkF m 105 #[.val (.long q1), .second, .val (.long q2), .second, .val (.long q3), .second, .val (.long q4), .second, .val (.int p5), .val (.long dl), .second, .val (.long wd), .second, .val (.long rel), .second, .val (.int (p5 &&& (3 : Int32))), .val (.long sta), .second, .unset, .unset] [(.ref b_1)])) t
    refine XS.dup X_1.here hx rfl (hb hby at_105) rfl rfl ?_
    exact kt
  obtain ⟨b_2, T_2, h_2, kq_2, sv_2, ks_2, X_2, e_2, E_2, hS_2, hk_2, hZ_2, hown_2, es_2, fc_2, fv_2, va_2, -, -, hIB_2, st_2⟩ := ldcSV X_1 hx hZ0 hown0 (hw _ (List.mem_of_getElem? (i := 4) rfl)) (own_wS hw) e_1 hS0 hk_1' (Fr.nil _) (fun b cl q => by rw [hh]; exact O0.2.2 b cl q) hIB0 (by simp) hch hcw (vs := [(.int (106 : Int32))]) (z := (1 : Int32)) ⟨by decide, rfl⟩ (by decide) (by decide) (g := (mkF m 106 #[.val (.long q1), .second, .val (.long q2), .second, .val (.long q3), .second, .val (.long q4), .second, .val (.int p5), .val (.long dl), .second, .val (.long wd), .second, .val (.long rel), .second, .val (.int (p5 &&& (3 : Int32))), .val (.long sta), .second, .unset, .unset] [(.ref b_1), (.ref b_1)])) rfl (hb hby at_106) (n := 4) (by decide) (by decide) (by decide) (by decide)
  have Z_2 : n0 ≤ h_2.size := Nat.le_trans Z_1 E_2.1
  have hk_2' : 0 ≤ h_2.size := Nat.le_trans hk_1' E_2.1
  refine own_go (g' := (mkF m 108 #[.val (.long q1), .second, .val (.long q2), .second, .val (.long q3), .second, .val (.long q4), .second, .val (.int p5), .val (.long dl), .second, .val (.long wd), .second, .val (.long rel), .second, .val (.int (p5 &&& (3 : Int32))), .val (.long sta), .second, .unset, .unset] [(.ref b_2), (.ref b_1), (.ref b_1)])) st_2 ?_
  refine own_go (T' := T_2) (g' := (mkF m 115 #[.val (.long q1), .second, .val (.long q2), .second, .val (.long q3), .second, .val (.long q4), .second, .val (.int p5), .val (.long dl), .second, .val (.long wd), .second, .val (.long rel), .second, .val (.int (p5 &&& (3 : Int32))), .val (.long sta), .second, .unset, .unset] [(.long (1 : Int64)), (.long wd), (.long dl), (.long rel), (.ref b_2), (.ref b_1), (.ref b_1)])) (fun t kt => ?_) ?_
  · show Steps p.tables e below (T_2.setTop (mkF m 108 #[.val (.long q1), .second, .val (.long q2), .second, .val (.long q3), .second, .val (.long q4), .second, .val (.int p5), .val (.long dl), .second, .val (.long wd), .second, .val (.long rel), .second, .val (.int (p5 &&& (3 : Int32))), .val (.long sta), .second, .unset, .unset] [(.ref b_2), (.ref b_1), (.ref b_1)])) t
    refine XS.lload X_2.here hx rfl (hb hby at_108) rfl ?_
    show Steps p.tables e below (T_2.setTop (mkF m 110 #[.val (.long q1), .second, .val (.long q2), .second, .val (.long q3), .second, .val (.long q4), .second, .val (.int p5), .val (.long dl), .second, .val (.long wd), .second, .val (.long rel), .second, .val (.int (p5 &&& (3 : Int32))), .val (.long sta), .second, .unset, .unset] [(.long rel), (.ref b_2), (.ref b_1), (.ref b_1)])) t
    refine XS.lload X_2.here hx rfl (hb hby at_110) rfl ?_
    show Steps p.tables e below (T_2.setTop (mkF m 112 #[.val (.long q1), .second, .val (.long q2), .second, .val (.long q3), .second, .val (.long q4), .second, .val (.int p5), .val (.long dl), .second, .val (.long wd), .second, .val (.long rel), .second, .val (.int (p5 &&& (3 : Int32))), .val (.long sta), .second, .unset, .unset] [(.long dl), (.long rel), (.ref b_2), (.ref b_1), (.ref b_1)])) t
    refine XS.lload X_2.here hx rfl (hb hby at_112) rfl ?_
    show Steps p.tables e below (T_2.setTop (mkF m 114 #[.val (.long q1), .second, .val (.long q2), .second, .val (.long q3), .second, .val (.long q4), .second, .val (.int p5), .val (.long dl), .second, .val (.long wd), .second, .val (.long rel), .second, .val (.int (p5 &&& (3 : Int32))), .val (.long sta), .second, .unset, .unset] [(.long wd), (.long dl), (.long rel), (.ref b_2), (.ref b_1), (.ref b_1)])) t
    refine XS.lconst X_2.here hx rfl (hb hby at_114) ?_
    exact kt
  have f_3 := (A_1.ext E_2)
  have f_4 := (F_id_b_1.ext E_2)
  have f_5 := (F_release_b_1.ext E_2)
  have f_6 := (F_deadline_b_1.ext E_2)
  have f_7 := (F_width_b_1.ext E_2)
  have f_8 := (F_height_b_1.ext E_2)
  have f_9 := ((O0.ext E_1).ext E_2)
  obtain ⟨_, _, ⟨T_10, L_10, k_10, n_10⟩, -, X_10w, hSw_10, hgr_10, ⟨Lc_10, hQ_10, l_10, y_10, z_10⟩, st_10⟩ := X_2.specialBackS hx (y := (⟨"com/example/peakwise/peakwise/Job", "<init>", "(Ljava/lang/String;JJJJ)V"⟩ : MethodName)) rfl hown_2 (mvT hZ_2 (hw _ (List.mem_of_getElem? (i := 12) rfl))) (mvT hZ_2 (hw _ (List.mem_of_getElem? (i := 13) rfl))) (mvT hZ_2 (hw _ (List.mem_of_getElem? (i := 14) rfl))) (by decide) (backOfS (W := 1) (rjob l Z a0 hw [] b_1 b_2 rel dl wd sv_2 ks_2 cs fv h_2 n0 Z_2 f_3 f_4 f_5 f_6 f_7 f_8 g_b_1 es_2 fc_2 fv_2 va_2 f_9 S1 hcs S2 rf hrng) hZ_2 (hw _ (List.mem_of_getElem? (i := 14) rfl)) (hw _ (List.mem_of_getElem? (i := 3) rfl)) (by decide) (by decide)) (g := (mkF m 115 #[.val (.long q1), .second, .val (.long q2), .second, .val (.long q3), .second, .val (.long q4), .second, .val (.int p5), .val (.long dl), .second, .val (.long wd), .second, .val (.long rel), .second, .val (.int (p5 &&& (3 : Int32))), .val (.long sta), .second, .unset, .unset] [(.long (1 : Int64)), (.long wd), (.long dl), (.long rel), (.ref b_2), (.ref b_1), (.ref b_1)])) rfl (by rw [hml]; rfl) (Steps.refl _) (a := b_1) (argsL := [(.ref b_2), (.long rel), (.long dl), (.long wd), (.long (1 : Int64))]) (rest := [(.ref b_1)]) (lenOf pd_0 rfl) rfl (by show 2 * 0 + _ ≤ _; exact Nat.le_of_eq rfl) (hb hby at_115) (fun _ _ => ⟨rfl, e_2, (by decide : 3 + 10 ≤ _), (by decide : 13 + 132 ≤ _)⟩)
  dsimp only [Pt.U, Pt.locs, Pt.cells, Pt.slots] at X_10w hSw_10 hgr_10 l_10 y_10 z_10 st_10 hQ_10
  subst l_10 y_10 z_10
  obtain ⟨X_10, hS_10, hZ_10, hown_10⟩ := rebS hS_2 (by rw [e_2]; exact hk_2) X_10w hSw_10 hgr_10 hZ_2 hown_2
  obtain ⟨rfl, N_10q, K_10, P1, P2, P3⟩ := hQ_10
  have N_10 := Fr.app N0 N_10q
  have Z_10 : n0 ≤ T_10.heap.size := Nat.le_trans Z_2 K_10.1
  have hk_10' : kq_2 ≤ T_10.heap.size := Nat.le_trans hk_2 K_10.1
  refine own_go (g' := (mkF m 118 #[.val (.long q1), .second, .val (.long q2), .second, .val (.long q3), .second, .val (.long q4), .second, .val (.int p5), .val (.long dl), .second, .val (.long wd), .second, .val (.long rel), .second, .val (.int (p5 &&& (3 : Int32))), .val (.long sta), .second, .unset, .unset] [(.ref b_1)])) (fun t kt => st_10.trans kt) ?_
  refine own_go (T' := T_10) (g' := (mkF m 124 #[.val (.long q1), .second, .val (.long q2), .second, .val (.long q3), .second, .val (.long q4), .second, .val (.int p5), .val (.long dl), .second, .val (.long wd), .second, .val (.long rel), .second, .val (.int (p5 &&& (3 : Int32))), .val (.long sta), .second, .val (.ref b_1), .unset] [(.long sta), (.ref b_1)])) (fun t kt => ?_) ?_
  · show Steps p.tables e below (T_10.setTop (mkF m 118 #[.val (.long q1), .second, .val (.long q2), .second, .val (.long q3), .second, .val (.long q4), .second, .val (.int p5), .val (.long dl), .second, .val (.long wd), .second, .val (.long rel), .second, .val (.int (p5 &&& (3 : Int32))), .val (.long sta), .second, .unset, .unset] [(.ref b_1)])) t
    refine XS.astore X_10.here hx rfl (hb hby at_118) rfl rfl (l' := #[.val (.long q1), .second, .val (.long q2), .second, .val (.long q3), .second, .val (.long q4), .second, .val (.int p5), .val (.long dl), .second, .val (.long wd), .second, .val (.long rel), .second, .val (.int (p5 &&& (3 : Int32))), .val (.long sta), .second, .val (.ref b_1), .unset]) rfl ?_
    show Steps p.tables e below (T_10.setTop (mkF m 120 #[.val (.long q1), .second, .val (.long q2), .second, .val (.long q3), .second, .val (.long q4), .second, .val (.int p5), .val (.long dl), .second, .val (.long wd), .second, .val (.long rel), .second, .val (.int (p5 &&& (3 : Int32))), .val (.long sta), .second, .val (.ref b_1), .unset] [])) t
    refine XS.aload X_10.here hx rfl (hb hby at_120) rfl rfl ?_
    show Steps p.tables e below (T_10.setTop (mkF m 122 #[.val (.long q1), .second, .val (.long q2), .second, .val (.long q3), .second, .val (.long q4), .second, .val (.int p5), .val (.long dl), .second, .val (.long wd), .second, .val (.long rel), .second, .val (.int (p5 &&& (3 : Int32))), .val (.long sta), .second, .val (.ref b_1), .unset] [(.ref b_1)])) t
    refine XS.lload X_10.here hx rfl (hb hby at_122) rfl ?_
    exact kt
  have f_12 := (f_3.keep K_10)
  obtain ⟨cq_11, kq_11, q_11a, q_11b, q_11c⟩ := isOf hZ_10 rfl f_12
  obtain ⟨_, _, ⟨T_11, L_11, k_11, n_11⟩, -, X_11, ⟨Lc_11, hQ_11, l_11, y_11, z_11⟩, st_11⟩ := X_10.virtualBack hx (y := (⟨"com/example/peakwise/peakwise/Job", "fits", "(J)Z"⟩ : MethodName)) (z := (⟨"com/example/peakwise/peakwise/Job", "fits", "(J)Z"⟩ : MethodName)) hown_10 (mvT hZ_10 (hw _ (List.mem_of_getElem? (i := 89) rfl))) (mvT hZ_10 (hw _ (List.mem_of_getElem? (i := 90) rfl))) (notFace_of_selects (args := #[]) (mvT hZ_10 (hw _ (List.mem_of_getElem? (i := 92) rfl)))) (mvT hZ_10 (hw _ (List.mem_of_getElem? (i := 92) rfl))) (mvT hZ_10 (hw _ (List.mem_of_getElem? (i := 91) rfl))) (by decide) (backOf (W := 0) (rfit l Z a0 hw [] b_1 sta rel dl wd  T_10.heap n0 Z_10 P1 P2 P3) hZ_10 (hw _ (List.mem_of_getElem? (i := 93) rfl)) (hw _ (List.mem_of_getElem? (i := 3) rfl)) (by decide) (by decide)) q_11a q_11c (g := (mkF m 124 #[.val (.long q1), .second, .val (.long q2), .second, .val (.long q3), .second, .val (.long q4), .second, .val (.int p5), .val (.long dl), .second, .val (.long wd), .second, .val (.long rel), .second, .val (.int (p5 &&& (3 : Int32))), .val (.long sta), .second, .val (.ref b_1), .unset] [(.long sta), (.ref b_1)])) rfl (by rw [hml]; rfl) (Steps.refl _) (argsL := [(.long sta)]) (rest := []) (lenOf pd_12 rfl) rfl (by show 2 * 0 + _ ≤ _; exact Nat.le_of_eq rfl) (hb hby at_124) (fun _ _ => ⟨rfl, rfl, (by decide : 13 + 0 ≤ _), (by decide : 145 + 0 ≤ _)⟩)
  dsimp only [Pt.U, Pt.locs, Pt.cells, Pt.slots] at X_11 l_11 y_11 z_11 st_11 hQ_11
  subst l_11 y_11 z_11
  obtain ⟨rfl, N_11q, e_11⟩ := hQ_11
  have N_11 := Fr.app N_10 N_11q
  refine own_go (g' := (mkF m 127 #[.val (.long q1), .second, .val (.long q2), .second, .val (.long q3), .second, .val (.long q4), .second, .val (.int p5), .val (.long dl), .second, .val (.long wd), .second, .val (.long rel), .second, .val (.int (p5 &&& (3 : Int32))), .val (.long sta), .second, .val (.ref b_1), .unset] [(.int (own_fits rel dl wd sta))])) (fun t kt => st_11.trans kt) ?_
  refine own_go (T' := T_11) (g' := (mkF m 139 #[.val (.long q1), .second, .val (.long q2), .second, .val (.long q3), .second, .val (.long q4), .second, .val (.int p5), .val (.long dl), .second, .val (.long wd), .second, .val (.long rel), .second, .val (.int (p5 &&& (3 : Int32))), .val (.long sta), .second, .val (.ref b_1), .val (.int (own_fits rel dl wd sta))] [(.long sta), (.long wd), (.long dl), (.long rel), (.int (own_fits rel dl wd sta))])) (fun t kt => ?_) ?_
  · show Steps p.tables e below (T_11.setTop (mkF m 127 #[.val (.long q1), .second, .val (.long q2), .second, .val (.long q3), .second, .val (.long q4), .second, .val (.int p5), .val (.long dl), .second, .val (.long wd), .second, .val (.long rel), .second, .val (.int (p5 &&& (3 : Int32))), .val (.long sta), .second, .val (.ref b_1), .unset] [(.int (own_fits rel dl wd sta))])) t
    refine XS.istore X_11.here hx rfl (hb hby at_127) rfl (l' := #[.val (.long q1), .second, .val (.long q2), .second, .val (.long q3), .second, .val (.long q4), .second, .val (.int p5), .val (.long dl), .second, .val (.long wd), .second, .val (.long rel), .second, .val (.int (p5 &&& (3 : Int32))), .val (.long sta), .second, .val (.ref b_1), .val (.int (own_fits rel dl wd sta))]) rfl ?_
    show Steps p.tables e below (T_11.setTop (mkF m 129 #[.val (.long q1), .second, .val (.long q2), .second, .val (.long q3), .second, .val (.long q4), .second, .val (.int p5), .val (.long dl), .second, .val (.long wd), .second, .val (.long rel), .second, .val (.int (p5 &&& (3 : Int32))), .val (.long sta), .second, .val (.ref b_1), .val (.int (own_fits rel dl wd sta))] [])) t
    refine XS.iload X_11.here hx rfl (hb hby at_129) rfl ?_
    show Steps p.tables e below (T_11.setTop (mkF m 131 #[.val (.long q1), .second, .val (.long q2), .second, .val (.long q3), .second, .val (.long q4), .second, .val (.int p5), .val (.long dl), .second, .val (.long wd), .second, .val (.long rel), .second, .val (.int (p5 &&& (3 : Int32))), .val (.long sta), .second, .val (.ref b_1), .val (.int (own_fits rel dl wd sta))] [(.int (own_fits rel dl wd sta))])) t
    refine XS.lload X_11.here hx rfl (hb hby at_131) rfl ?_
    show Steps p.tables e below (T_11.setTop (mkF m 133 #[.val (.long q1), .second, .val (.long q2), .second, .val (.long q3), .second, .val (.long q4), .second, .val (.int p5), .val (.long dl), .second, .val (.long wd), .second, .val (.long rel), .second, .val (.int (p5 &&& (3 : Int32))), .val (.long sta), .second, .val (.ref b_1), .val (.int (own_fits rel dl wd sta))] [(.long rel), (.int (own_fits rel dl wd sta))])) t
    refine XS.lload X_11.here hx rfl (hb hby at_133) rfl ?_
    show Steps p.tables e below (T_11.setTop (mkF m 135 #[.val (.long q1), .second, .val (.long q2), .second, .val (.long q3), .second, .val (.long q4), .second, .val (.int p5), .val (.long dl), .second, .val (.long wd), .second, .val (.long rel), .second, .val (.int (p5 &&& (3 : Int32))), .val (.long sta), .second, .val (.ref b_1), .val (.int (own_fits rel dl wd sta))] [(.long dl), (.long rel), (.int (own_fits rel dl wd sta))])) t
    refine XS.lload X_11.here hx rfl (hb hby at_135) rfl ?_
    show Steps p.tables e below (T_11.setTop (mkF m 137 #[.val (.long q1), .second, .val (.long q2), .second, .val (.long q3), .second, .val (.long q4), .second, .val (.int p5), .val (.long dl), .second, .val (.long wd), .second, .val (.long rel), .second, .val (.int (p5 &&& (3 : Int32))), .val (.long sta), .second, .val (.ref b_1), .val (.int (own_fits rel dl wd sta))] [(.long wd), (.long dl), (.long rel), (.int (own_fits rel dl wd sta))])) t
    refine XS.lload X_11.here hx rfl (hb hby at_137) rfl ?_
    exact kt
  obtain ⟨_, _, ⟨T_13, L_13, k_13, n_13⟩, -, X_13, ⟨Lc_13, hQ_13, l_13, y_13, z_13⟩, st_13⟩ := Jvm.LawKit.callS X_11 hx (y := (⟨"com/example/peakwise/peakwise/JobFitsPinLaw", "reference", "(JJJJ)Z"⟩ : MethodName)) hown_10 (mvT hZ_10 (hw _ (List.mem_of_getElem? (i := 94) rfl))) (mvT hZ_10 (hw _ (List.mem_of_getElem? (i := 95) rfl))) (mvT hZ_10 (hw _ (List.mem_of_getElem? (i := 96) rfl))) (mvT hZ_10 (hw _ (List.mem_of_getElem? (i := 97) rfl))) (by decide) (backOf (W := 1) (rref l Z a0 hw [] (rel) (dl) (wd) (sta)  T_10.heap n0 Z_10 ) hZ_10 (hw _ (List.mem_of_getElem? (i := 97) rfl)) (hw _ (List.mem_of_getElem? (i := 96) rfl)) (by decide) (by decide)) (g := (mkF m 139 #[.val (.long q1), .second, .val (.long q2), .second, .val (.long q3), .second, .val (.long q4), .second, .val (.int p5), .val (.long dl), .second, .val (.long wd), .second, .val (.long rel), .second, .val (.int (p5 &&& (3 : Int32))), .val (.long sta), .second, .val (.ref b_1), .val (.int (own_fits rel dl wd sta))] [(.long sta), (.long wd), (.long dl), (.long rel), (.int (own_fits rel dl wd sta))])) rfl (by rw [hml]; rfl) (argsL := [(.long rel), (.long dl), (.long wd), (.long sta)]) (rest := [(.int (own_fits rel dl wd sta))]) (lenOf pd_13 rfl) rfl (by show 2 * 0 + _ ≤ _; exact Nat.le_of_eq rfl) (hb hby at_139) (fun _ _ => ⟨rfl, e_11, (by decide : 13 + 0 ≤ _), (by decide : 145 + 0 ≤ _)⟩)
  dsimp only [Pt.U, Pt.locs, Pt.cells, Pt.slots] at X_13 l_13 y_13 z_13 st_13 hQ_13
  subst l_13 y_13 z_13
  obtain ⟨rfl, N_13q, e_13⟩ := hQ_13
  have N_13 := Fr.app N_11 N_13q
  refine own_go (g' := (mkF m 142 #[.val (.long q1), .second, .val (.long q2), .second, .val (.long q3), .second, .val (.long q4), .second, .val (.int p5), .val (.long dl), .second, .val (.long wd), .second, .val (.long rel), .second, .val (.int (p5 &&& (3 : Int32))), .val (.long sta), .second, .val (.ref b_1), .val (.int (own_fits rel dl wd sta))] [(.int (own_ref rel dl wd sta)), (.int (own_fits rel dl wd sta))])) st_13 ?_
  refine own_go (T' := T_13) (g' := (mkF m 150 #[.val (.long q1), .second, .val (.long q2), .second, .val (.long q3), .second, .val (.long q4), .second, .val (.int p5), .val (.long dl), .second, .val (.long wd), .second, .val (.long rel), .second, .val (.int (p5 &&& (3 : Int32))), .val (.long sta), .second, .val (.ref b_1), .val (.int (own_fits rel dl wd sta))] [(.int (1 : Int32))])) (fun t kt => ?_) ?_
  · show Steps p.tables e below (T_13.setTop (mkF m 142 #[.val (.long q1), .second, .val (.long q2), .second, .val (.long q3), .second, .val (.long q4), .second, .val (.int p5), .val (.long dl), .second, .val (.long wd), .second, .val (.long rel), .second, .val (.int (p5 &&& (3 : Int32))), .val (.long sta), .second, .val (.ref b_1), .val (.int (own_fits rel dl wd sta))] [(.int (own_ref rel dl wd sta)), (.int (own_fits rel dl wd sta))])) t
    refine XS.icmpNo X_13.here hx rfl (hb hby at_142) rfl (teq (own_law rel dl wd sta hW1 hW2 hD2 hR1 : (own_fits rel dl wd sta) = (own_ref rel dl wd sta))).2 ?_
    show Steps p.tables e below (T_13.setTop (mkF m 145 #[.val (.long q1), .second, .val (.long q2), .second, .val (.long q3), .second, .val (.long q4), .second, .val (.int p5), .val (.long dl), .second, .val (.long wd), .second, .val (.long rel), .second, .val (.int (p5 &&& (3 : Int32))), .val (.long sta), .second, .val (.ref b_1), .val (.int (own_fits rel dl wd sta))] [])) t
    refine XS.iconst X_13.here hx rfl (hb hby at_145) ?_
    show Steps p.tables e below (T_13.setTop (mkF m 146 #[.val (.long q1), .second, .val (.long q2), .second, .val (.long q3), .second, .val (.long q4), .second, .val (.int p5), .val (.long dl), .second, .val (.long wd), .second, .val (.long rel), .second, .val (.int (p5 &&& (3 : Int32))), .val (.long sta), .second, .val (.ref b_1), .val (.int (own_fits rel dl wd sta))] [(.int (1 : Int32))])) t
    refine XS.goto X_13.here hx rfl (pc0 := 146) (pc' := 150) rfl (hb hby at_146) (by decide) (by decide) ?_
    exact kt
  obtain ⟨fs, hr, hrun, hended, hE1, hE2, hE3, hE4⟩ := X_13.leaveW hS_10 (by rw [e_13]; exact (Nat.le_refl _)) (v := some (.int (1 : Int32))) (fun h => by rw [Bd.returns] at h; cases h)
  refine ⟨_, _, ?_, hrun, hended, _, _, rfl, ?_, hE1, hE2, hE3, hE4.mono (by decide) (by decide)⟩
  · exact retN X_13 hx (t := .boolean) Bd.returns (by simp) (hb hby at_150) hr
  · show Q_rm0 Z _ _ _ _ _ _ _ h0 n0 _ T_13.heap _
    rw [e_13]
    exact ⟨rfl, N_13⟩
set_option maxRecDepth 65536 in
set_option maxHeartbeats 40000000 in
theorem comes_1 {Post : Tables → Env → Array Value → State → Outcome → State → Prop} (hpost : ∀ tb e args s v u, (limb_1_1.after args s (.returned v) u = true ∧ limb_1_2.after args s (.returned v) u = true ∧ True) → ReturnedEndW s (.returned v) u (Jvm.fieldLocs frame_1_writes args s ++ Jvm.arrayLocs frame_1_arrays args s ++ Jvm.staticLocs frame_1_statics s) 24 6272 → Post tb e args s (.returned v) u) :
    ArmFor flags0 classFile x code maxLocals ret World_1 tables_1 room_1 Calls_1 rest_1 Pre_1 Post := by
  intro l hfl _ _ p e ha hc hk s m args below hf hA hF happ hP
  obtain ⟨hcalls, hrest, hpre⟩ := hP
  obtain ⟨-, -, -, hnamed, -, -, -, hat⟩ := (Spec.applies_iff hf).mp happ
  obtain ⟨hg, hn⟩ := and_e (Cond.before_iff.mp (show (Jvm.Cond.and given_1 narrow_1).before args s = true from hpre))
  obtain ⟨u0, v0⟩ := and_e hg
  obtain ⟨u1, v1⟩ := and_e v0
  obtain ⟨u2, v2⟩ := and_e v1
  obtain ⟨u3, v3⟩ := and_e v2
  obtain ⟨u4, v4⟩ := and_e v3
  obtain ⟨w0, w1, w2, w3, w4, rfl⟩ : ∃ w0 w1 w2 w3 w4 : Value, args = #[w0, w1, w2, w3, w4] := by
    have hs : args.size = 5 := by simpa [Cond.value, given_1] using u0
    obtain ⟨L⟩ := args
    match L, hs with
    | [w0, w1, w2, w3, w4], _ => exact ⟨w0, w1, w2, w3, w4, rfl⟩
  have hw := fun d (hd : d ∈ tables_1) => atoms_spec (ws := Jvm.Cond.code x code maxLocals ret :: tables_1) hat d (List.mem_cons_of_mem _ hd)
  obtain ⟨i0, ei0⟩ := isL_v u1
  obtain rfl : w0 = (.long i0) := Option.some.inj ei0
  obtain ⟨i1, ei1⟩ := isL_v u2
  obtain rfl : w1 = (.long i1) := Option.some.inj ei1
  obtain ⟨i2, ei2⟩ := isL_v u3
  obtain rfl : w2 = (.long i2) := Option.some.inj ei2
  obtain ⟨i3, ei3⟩ := isL_v u4
  obtain rfl : w3 = (.long i3) := Option.some.inj ei3
  obtain ⟨i4, ei4⟩ := is_v v4
  obtain rfl : w4 = (.int i4) := Option.some.inj ei4
  obtain ⟨hsets, hown0⟩ := atoms_of _ (rest_1_c_eq ▸ (show rest_1_c.before _ s = true from hrest))
  have n5 := not_v (Cond.before_iff.mp (hsets _ (List.mem_of_getElem? (i := 2) rfl)))
  obtain ⟨cs, ecs⟩ := is_v (Cond.before_iff.mp (hsets _ (List.mem_of_getElem? (i := 1) rfl)))
  have hS1 : Sta s s.heap "java/lang/String" "COMPACT_STRINGS" "Z" (.int cs) := Sta.start ecs (Or.inl (hsets _ (List.mem_of_getElem? (i := 0) rfl)))
  obtain ⟨fv, efv, rfv⟩ := isR_v (Cond.before_iff.mp (hsets _ (List.mem_of_getElem? (i := 8) rfl)))
  have hS2 : Sta s s.heap "jdk/internal/util/Preconditions" "SIOOBE_FORMATTER" "Ljava/util/function/BiFunction;" fv := Sta.start efv (Or.inl (hsets _ (List.mem_of_getElem? (i := 7) rfl)))
  have hcs : ¬ (cs = (0 : Int32)) := gotF (Cond.eq_ints ecs (Term.int_eval (0))) n5
  have hch : Jvm.Lit.constHeld s "com/example/peakwise/peakwise/JobFitsPinLaw" 19 := hcalls.1 (_, _) (List.mem_of_getElem? (i := 5) rfl)
  have hcw : Jvm.Lit.compactW.before _ s = true := hsets _ (List.mem_of_getElem? (i := 2) rfl)
  obtain ⟨n, o, h1, h2, h3, _, L, rfl, ⟨rfl, N⟩, hq⟩ := rm0 l s _ hw tables_1 i0 i1 i2 i3 i4 cs fv s.heap s.heap.size (Nat.le_refl _) (Old.start s) hS1 hcs hS2 rfv hch hcw p e ha hc hk s m _ below hf ((Spec.applies_iff_loose hf).mp happ).1 ⟨rfl, State.Warmed39.refl s, rfl, IB.start⟩ trivial
  refine ⟨n, _, h1, h2, h3, hpost _ _ _ _ _ _ ⟨Cond.after_iff.mpr rfl, Cond.after_iff.mpr (eq_i res_at (Term.int_eval (1)) rfl), trivial⟩ ⟨hq.1, hq.2.1, hq.2.2.1, (hq.2.2.2.sift fun y hy => Or.inr (N y hy)).mono (by decide) (by decide)⟩⟩
theorem main_1_1 : Claimed_1_1 := comes_1 fun _ _ _ _ _ _ h hF => ⟨h.1, hF⟩
theorem main_1_2 : Claimed_1_2 := comes_1 fun _ _ _ _ _ _ h hF => ⟨h.2.1, hF⟩
end Jvm.Pilot.@@N@@
namespace Jvm.Pilot.@@N@@
open Jvm Jvm.ClassFile Sem Op Lib Jvm.Free Jvm.Stand Jvm.Pilot.@@N@@.Jvm.D
/-! MADE BY PROGRAM (witnessworld.py) out of the Statement's table words and the real class files: 19 classes; the members and pool entries that the words name. The judged class is class 1, her method 2. -/
namespace start1
open Jvm.ClassFile
def u (s : String) : CpInfo := .utf8 (stringToUtf16 s)
/-- a pool by its gaps: so many unusable entries, then the entry; so many at the end -/
def gap : Nat → List CpInfo → List CpInfo
  | 0, r => r
  | n + 1, r => .unusable :: gap n r
def poolList (es : List (Nat × CpInfo)) (last : Nat) : List CpInfo := es.foldr (fun e r => gap e.1 (e.2 :: r)) (gap last [])
def pool (es : List (Nat × CpInfo)) (last : Nat) : Array CpInfo := ⟨poolList es last⟩
def fileOf (pool : Array CpInfo) (this : Nat) (attrs : Array Attribute := #[]) (ms : Array MethodInfo := #[]) (fl : Nat := 33) (sup : Nat := 0) (ifs : Array Nat := #[]) (fds : Array FieldInfo := #[]) : ClassFile where
  minorVersion := 0
  majorVersion := 65
  constantPool := pool
  accessFlags := fl
  thisClass := this
  superClass := sup
  interfaces := ifs
  fields := fds
  methods := ms
  attributes := attrs
def plain (name : String) (sup : Option ClassId) : Class where
  name := name
  kind := .ordinary
  loader := none
  accessFlags := 33
  super := sup
  interfaces := #[]
  cf := none
  fields := #[]
  methods := #[]
  instanceTypes := #[]
  staticTypes := #[]
  resolved := #[]
  callSites := []
  init := .initialized
  statics := none
  mirror := none

def pool0 : Array CpInfo := pool [(5, u "<init>"), (0, u "()V"), (1, .class_ 10), (1, u "java/lang/Object")] 113

def k0c0 : Code := { maxStack := 0, maxLocals := 1, code := object_method_1_code, exceptionTable := #[], attributes := #[] }
def k0m0 : Method := { name := "<init>", desc := "()V", sig := { parameters := [], returnType := none }, accessFlags := 1, code := some k0c0 }
/-- java/lang/Object -/
def k0 : Class := { plain "java/lang/Object" none with
  accessFlags := 33
  interfaces := #[]
  cf := some (fileOf pool0 8 #[] #[{ accessFlags := 1, nameIndex := 5, descriptorIndex := 6, attributes := #[] }] 33 0 #[] #[])
  fields := #[]
  methods := #[k0m0]
  instanceTypes := #[]
  staticTypes := #[]
  resolved := Array.replicate 124 none
  statics := none }

def pool1 : Array CpInfo := pool [(2, .class_ 4), (1, u "java/lang/Object"), (0, u "<init>"), (0, u "()V"), (0, .class_ 8), (0, u "com/example/peakwise/peakwise/JobFitsPinLaw"), (0, .long 4611686018427387904), (1, .long 4611686018427387903), (1, .long 7), (1, .long 4), (1, .class_ 18), (0, u "com/example/peakwise/peakwise/Job"), (0, .string 20), (0, u "j"), (0, .methodref 17 22), (0, .nameAndType 5 23), (0, u "(Ljava/lang/String;JJJJ)V"), (0, .methodref 17 25), (0, .nameAndType 26 27), (0, u "fits"), (0, u "(J)Z"), (0, .methodref 7 29), (0, .nameAndType 30 31), (0, u "reference"), (0, u "(JJJJ)Z"), (0, u "LIM"), (0, u "J"), (4, u "law"), (0, u "(JJJJI)Z")] 2

def k1m0 : Method := { name := "<init>", desc := "()V", sig := { parameters := [], returnType := none }, accessFlags := 1, code := none }
def k1c1 : Code := { maxStack := 4, maxLocals := 8, code := method_2_code, exceptionTable := #[], attributes := #[] }
def k1m1 : Method := { name := "reference", desc := "(JJJJ)Z", sig := { parameters := [.long, .long, .long, .long], returnType := some .boolean }, accessFlags := 10, code := some k1c1 }
def k1c2 : Code := { maxStack := 11, maxLocals := 20, code := code, exceptionTable := #[], attributes := #[] }
def k1m2 : Method := { name := "law", desc := "(JJJJI)Z", sig := { parameters := [.long, .long, .long, .long, .int], returnType := some .boolean }, accessFlags := 9, code := some k1c2 }
/-- com/example/peakwise/peakwise/JobFitsPinLaw -/
def k1 : Class := { plain "com/example/peakwise/peakwise/JobFitsPinLaw" (some 0) with
  accessFlags := 49
  interfaces := #[]
  cf := some (fileOf pool1 7 #[] #[{ accessFlags := 1, nameIndex := 5, descriptorIndex := 6, attributes := #[] }, { accessFlags := 10, nameIndex := 30, descriptorIndex := 31, attributes := #[] }, { accessFlags := 9, nameIndex := 38, descriptorIndex := 39, attributes := #[] }] 49 2 #[] #[{ accessFlags := 26, nameIndex := 32, descriptorIndex := 33, attributes := #[] }])
  fields := #[{ name := "LIM", type := .long, accessFlags := 26, slot := 0, constantValue := 0 }]
  methods := #[k1m0, k1m1, k1m2]
  instanceTypes := #[]
  staticTypes := #[.long]
  resolved := Array.replicate 42 none
  statics := none }

def pool2 : Array CpInfo := pool [(1, .methodref 2 3), (0, .class_ 4), (0, .nameAndType 5 6), (0, u "java/lang/Object"), (0, u "<init>"), (0, u "()V"), (0, .class_ 8), (0, u "java/lang/Record")] 13

def k2c0 : Code := { maxStack := 1, maxLocals := 1, code := jdk_30_method_1_code, exceptionTable := #[], attributes := #[] }
def k2m0 : Method := { name := "<init>", desc := "()V", sig := { parameters := [], returnType := none }, accessFlags := 4, code := some k2c0 }
/-- java/lang/Record -/
def k2 : Class := { plain "java/lang/Record" (some 0) with
  accessFlags := 1057
  interfaces := #[]
  cf := some (fileOf pool2 7 #[] #[{ accessFlags := 4, nameIndex := 5, descriptorIndex := 6, attributes := #[] }] 1057 2 #[] #[])
  fields := #[]
  methods := #[k2m0]
  instanceTypes := #[]
  staticTypes := #[]
  resolved := Array.replicate 22 none
  statics := none }

def pool3 : Array CpInfo := pool [(1, .methodref 2 3), (0, .class_ 4), (0, .nameAndType 5 6), (0, u "java/lang/Record"), (0, u "<init>"), (0, u "()V"), (0, .methodref 8 9), (0, .class_ 10), (0, .nameAndType 11 12), (0, u "com/example/peakwise/peakwise/Job"), (0, u "requireValidId"), (0, u "(Ljava/lang/String;)V"), (0, .string 14), (0, u "release"), (0, .methodref 8 16), (0, .nameAndType 17 18), (0, u "requireInRange"), (0, u "(Ljava/lang/String;JJ)V"), (0, .string 20), (0, u "width"), (0, .string 22), (0, u "height"), (0, .string 24), (0, u "deadline"), (8, .fieldref 8 34), (0, .nameAndType 35 36), (0, u "id"), (0, u "Ljava/lang/String;"), (0, .fieldref 8 38), (0, .nameAndType 14 39), (0, u "J"), (0, .fieldref 8 41), (0, .nameAndType 24 39), (0, .fieldref 8 43), (0, .nameAndType 20 39), (0, .fieldref 8 45), (0, .nameAndType 22 39), (0, .string 35), (0, .methodref 48 49), (0, .class_ 50), (0, .nameAndType 51 52), (0, u "java/util/Objects"), (0, u "requireNonNull"), (0, u "(Ljava/lang/Object;Ljava/lang/String;)Ljava/lang/Object;"), (0, .methodref 54 55), (0, .class_ 56), (0, .nameAndType 57 58), (0, u "java/lang/String"), (0, u "isEmpty"), (0, u "()Z"), (2, .methodref 54 62), (0, .nameAndType 63 64), (0, u "length"), (0, u "()I"), (0, .methodref 54 66), (0, .nameAndType 67 68), (0, u "charAt"), (0, u "(I)C"), (3, .long 4611686018427387904), (16, u "LIMIT"), (1, u "(Ljava/lang/String;JJJJ)V"), (6, u "fits"), (0, u "(J)Z")] 39

def k3c0 : Code := { maxStack := 6, maxLocals := 10, code := prog_19_method_1_code, exceptionTable := #[], attributes := #[] }
def k3m0 : Method := { name := "<init>", desc := "(Ljava/lang/String;JJJJ)V", sig := { parameters := [(.object "java/lang/String"), .long, .long, .long, .long], returnType := none }, accessFlags := 1, code := some k3c0 }
def k3c1 : Code := { maxStack := 6, maxLocals := 3, code := prog_19_method_3_code, exceptionTable := #[], attributes := #[] }
def k3m1 : Method := { name := "fits", desc := "(J)Z", sig := { parameters := [.long], returnType := some .boolean }, accessFlags := 0, code := some k3c1 }
def k3c2 : Code := { maxStack := 3, maxLocals := 3, code := prog_19_method_4_code, exceptionTable := #[], attributes := #[] }
def k3m2 : Method := { name := "requireValidId", desc := "(Ljava/lang/String;)V", sig := { parameters := [(.object "java/lang/String")], returnType := none }, accessFlags := 8, code := some k3c2 }
def k3c3 : Code := { maxStack := 7, maxLocals := 5, code := prog_19_method_5_code, exceptionTable := #[], attributes := #[] }
def k3m3 : Method := { name := "requireInRange", desc := "(Ljava/lang/String;JJ)V", sig := { parameters := [(.object "java/lang/String"), .long, .long], returnType := none }, accessFlags := 8, code := some k3c3 }
/-- com/example/peakwise/peakwise/Job -/
def k3 : Class := { plain "com/example/peakwise/peakwise/Job" (some 2) with
  accessFlags := 49
  interfaces := #[]
  cf := some (fileOf pool3 8 #[] #[{ accessFlags := 1, nameIndex := 5, descriptorIndex := 91, attributes := #[] }, { accessFlags := 0, nameIndex := 98, descriptorIndex := 99, attributes := #[] }, { accessFlags := 8, nameIndex := 11, descriptorIndex := 12, attributes := #[] }, { accessFlags := 8, nameIndex := 17, descriptorIndex := 18, attributes := #[] }] 49 2 #[] #[{ accessFlags := 18, nameIndex := 35, descriptorIndex := 36, attributes := #[] }, { accessFlags := 18, nameIndex := 14, descriptorIndex := 39, attributes := #[] }, { accessFlags := 18, nameIndex := 24, descriptorIndex := 39, attributes := #[] }, { accessFlags := 18, nameIndex := 20, descriptorIndex := 39, attributes := #[] }, { accessFlags := 18, nameIndex := 22, descriptorIndex := 39, attributes := #[] }, { accessFlags := 25, nameIndex := 89, descriptorIndex := 39, attributes := #[] }])
  fields := #[{ name := "id", type := (.object "java/lang/String"), accessFlags := 18, slot := 0, constantValue := 0 }, { name := "release", type := .long, accessFlags := 18, slot := 1, constantValue := 0 }, { name := "deadline", type := .long, accessFlags := 18, slot := 2, constantValue := 0 }, { name := "width", type := .long, accessFlags := 18, slot := 3, constantValue := 0 }, { name := "height", type := .long, accessFlags := 18, slot := 4, constantValue := 0 }, { name := "LIMIT", type := .long, accessFlags := 25, slot := 0, constantValue := 0 }]
  methods := #[k3m0, k3m1, k3m2, k3m3]
  instanceTypes := #[(.object "java/lang/String"), .long, .long, .long, .long]
  staticTypes := #[.long]
  resolved := Array.replicate 139 none
  statics := none }

def pool4 : Array CpInfo := pool [(1, .class_ 2), (0, u "java/io/Serializable"), (0, .class_ 4), (0, u "java/lang/Object")] 2

/-- java/io/Serializable -/
def k4 : Class := { plain "java/io/Serializable" (some 0) with
  accessFlags := 1537
  interfaces := #[]
  cf := some (fileOf pool4 1 #[] #[] 1537 3 #[] #[])
  fields := #[]
  methods := #[]
  instanceTypes := #[]
  staticTypes := #[]
  resolved := Array.replicate 7 none
  statics := none }

def pool5 : Array CpInfo := pool [(1, .class_ 2), (0, u "java/lang/Comparable"), (0, .class_ 4), (0, u "java/lang/Object")] 7

/-- java/lang/Comparable -/
def k5 : Class := { plain "java/lang/Comparable" (some 0) with
  accessFlags := 1537
  interfaces := #[]
  cf := some (fileOf pool5 1 #[] #[] 1537 3 #[] #[])
  fields := #[]
  methods := #[]
  instanceTypes := #[]
  staticTypes := #[]
  resolved := Array.replicate 12 none
  statics := none }

def pool6 : Array CpInfo := pool [(2, .class_ 4), (1, u "java/lang/CharSequence"), (42, .class_ 48), (0, u "java/lang/CharSequence$1CodePointIterator"), (10, .class_ 60), (0, u "java/lang/CharSequence$1CharIterator"), (5, .class_ 67), (0, u "java/lang/Object")] 63

/-- java/lang/CharSequence -/
def k6 : Class := { plain "java/lang/CharSequence" (some 0) with
  accessFlags := 1537
  interfaces := #[]
  cf := some (fileOf pool6 2 #[.nestMembers #[47, 59]] #[] 1537 66 #[] #[])
  fields := #[]
  methods := #[]
  instanceTypes := #[]
  staticTypes := #[]
  resolved := Array.replicate 131 none
  statics := none }

def pool7 : Array CpInfo := pool [(1, .class_ 2), (0, u "java/lang/constant/Constable"), (0, .class_ 4), (0, u "java/lang/Object")] 6

/-- java/lang/constant/Constable -/
def k7 : Class := { plain "java/lang/constant/Constable" (some 0) with
  accessFlags := 1537
  interfaces := #[]
  cf := some (fileOf pool7 1 #[] #[] 1537 3 #[] #[])
  fields := #[]
  methods := #[]
  instanceTypes := #[]
  staticTypes := #[]
  resolved := Array.replicate 11 none
  statics := none }

def pool8 : Array CpInfo := pool [(1, .class_ 2), (0, u "java/lang/constant/ConstantDesc"), (0, .class_ 4), (0, u "java/lang/Object")] 32

/-- java/lang/constant/ConstantDesc -/
def k8 : Class := { plain "java/lang/constant/ConstantDesc" (some 0) with
  accessFlags := 1537
  interfaces := #[]
  cf := some (fileOf pool8 1 #[] #[] 1537 3 #[] #[])
  fields := #[]
  methods := #[]
  instanceTypes := #[]
  staticTypes := #[]
  resolved := Array.replicate 37 none
  statics := none }

def pool9 : Array CpInfo := pool [(2, .class_ 4), (1, u "java/lang/Object"), (0, u "<init>"), (0, u "()V"), (2, .fieldref 10 11), (0, .class_ 12), (0, .nameAndType 13 14), (0, u "java/lang/String"), (0, u "value"), (0, u "[B"), (0, .fieldref 10 16), (0, .nameAndType 17 18), (0, u "coder"), (0, u "B"), (2, u "hash"), (0, u "I"), (2, u "hashIsZero"), (0, u "Z"), (11, .fieldref 10 39), (0, .nameAndType 40 26), (0, u "COMPACT_STRINGS"), (66, .class_ 109), (1, u "java/lang/StringLatin1"), (32, u "()Z"), (191, u "()I"), (0, .methodref 10 336), (0, .nameAndType 17 337), (0, u "()B"), (25, u "([BI)C"), (27, u "(II)V"), (35, u "(I)C"), (64, .methodref 10 493), (0, .nameAndType 494 142), (0, u "isLatin1"), (0, .methodref 107 496), (0, .nameAndType 497 363), (0, u "charAt"), (3, u "checkIndex"), (5, u "length"), (67, .class_ 576), (0, u "java/lang/CharSequence"), (22, u "CASE_INSENSITIVE_ORDER"), (0, u "Ljava/util/Comparator;"), (91, u "isEmpty"), (360, .fieldref 1054 1055), (0, .class_ 1056), (0, .nameAndType 1057 1058), (0, u "jdk/internal/util/Preconditions"), (0, u "SIOOBE_FORMATTER"), (0, u "Ljava/util/function/BiFunction;"), (0, .methodref 1054 1060), (0, .nameAndType 501 1061), (0, u "(IILjava/util/function/BiFunction;)I"), (39, u "serialPersistentFields"), (0, u "[Ljava/io/ObjectStreamField;"), (0, .class_ 1104), (0, u "java/lang/String$CaseInsensitiveComparator"), (1, .class_ 1107), (0, u "java/io/Serializable"), (0, .class_ 1109), (0, u "java/lang/Comparable"), (0, .class_ 1111), (0, u "java/lang/constant/Constable"), (0, .class_ 1113), (0, u "java/lang/constant/ConstantDesc"), (2, u "serialVersionUID"), (0, u "J"), (3, u "REPL"), (0, u "C"), (2, u "LATIN1"), (1, u "UTF16")] 323

def k9m0 : Method := { name := "<init>", desc := "()V", sig := { parameters := [], returnType := none }, accessFlags := 1, code := none }
def k9c1 : Code := { maxStack := 2, maxLocals := 1, code := jdk_42_method_54_code, exceptionTable := #[], attributes := #[] }
def k9m1 : Method := { name := "length", desc := "()I", sig := { parameters := [], returnType := some .int }, accessFlags := 1, code := some k9c1 }
def k9c2 : Code := { maxStack := 1, maxLocals := 1, code := jdk_42_method_55_code, exceptionTable := #[], attributes := #[] }
def k9m2 : Method := { name := "isEmpty", desc := "()Z", sig := { parameters := [], returnType := some .boolean }, accessFlags := 1, code := some k9c2 }
def k9c3 : Code := { maxStack := 2, maxLocals := 2, code := jdk_42_method_56_code, exceptionTable := #[], attributes := #[] }
def k9m3 : Method := { name := "charAt", desc := "(I)C", sig := { parameters := [.int], returnType := some .char }, accessFlags := 1, code := some k9c3 }
def k9c4 : Code := { maxStack := 1, maxLocals := 1, code := jdk_42_method_152_code, exceptionTable := #[], attributes := #[] }
def k9m4 : Method := { name := "coder", desc := "()B", sig := { parameters := [], returnType := some .byte }, accessFlags := 0, code := some k9c4 }
def k9c5 : Code := { maxStack := 1, maxLocals := 1, code := jdk_42_method_154_code, exceptionTable := #[], attributes := #[] }
def k9m5 : Method := { name := "isLatin1", desc := "()Z", sig := { parameters := [], returnType := some .boolean }, accessFlags := 0, code := some k9c5 }
def k9c6 : Code := { maxStack := 3, maxLocals := 2, code := jdk_42_method_155_code, exceptionTable := #[], attributes := #[] }
def k9m6 : Method := { name := "checkIndex", desc := "(II)V", sig := { parameters := [.int, .int], returnType := none }, accessFlags := 8, code := some k9c6 }
/-- java/lang/String -/
def k9 : Class := { plain "java/lang/String" (some 0) with
  accessFlags := 49
  interfaces := #[4, 5, 6, 7, 8]
  cf := some (fileOf pool9 10 #[.nestMembers #[1103]] #[{ accessFlags := 1, nameIndex := 5, descriptorIndex := 6, attributes := #[] }, { accessFlags := 1, nameIndex := 507, descriptorIndex := 334, attributes := #[] }, { accessFlags := 1, nameIndex := 692, descriptorIndex := 142, attributes := #[] }, { accessFlags := 1, nameIndex := 497, descriptorIndex := 427, attributes := #[] }, { accessFlags := 0, nameIndex := 17, descriptorIndex := 337, attributes := #[] }, { accessFlags := 0, nameIndex := 494, descriptorIndex := 142, attributes := #[] }, { accessFlags := 8, nameIndex := 501, descriptorIndex := 391, attributes := #[] }] 49 2 #[1106, 1108, 575, 1110, 1112] #[{ accessFlags := 18, nameIndex := 13, descriptorIndex := 14, attributes := #[] }, { accessFlags := 18, nameIndex := 17, descriptorIndex := 18, attributes := #[] }, { accessFlags := 2, nameIndex := 21, descriptorIndex := 22, attributes := #[] }, { accessFlags := 2, nameIndex := 25, descriptorIndex := 26, attributes := #[] }, { accessFlags := 26, nameIndex := 1116, descriptorIndex := 1117, attributes := #[] }, { accessFlags := 24, nameIndex := 40, descriptorIndex := 26, attributes := #[] }, { accessFlags := 26, nameIndex := 1101, descriptorIndex := 1102, attributes := #[] }, { accessFlags := 26, nameIndex := 1121, descriptorIndex := 1122, attributes := #[] }, { accessFlags := 25, nameIndex := 599, descriptorIndex := 600, attributes := #[] }, { accessFlags := 24, nameIndex := 1125, descriptorIndex := 18, attributes := #[] }, { accessFlags := 24, nameIndex := 1127, descriptorIndex := 18, attributes := #[] }])
  fields := #[{ name := "value", type := (.array .byte), accessFlags := 18, slot := 0, constantValue := 0 }, { name := "coder", type := .byte, accessFlags := 18, slot := 1, constantValue := 0 }, { name := "hash", type := .int, accessFlags := 2, slot := 2, constantValue := 0 }, { name := "hashIsZero", type := .boolean, accessFlags := 2, slot := 3, constantValue := 0 }, { name := "serialVersionUID", type := .long, accessFlags := 26, slot := 0, constantValue := 0 }, { name := "COMPACT_STRINGS", type := .boolean, accessFlags := 24, slot := 1, constantValue := 0 }, { name := "serialPersistentFields", type := (.array (.object "java/io/ObjectStreamField")), accessFlags := 26, slot := 2, constantValue := 0 }, { name := "REPL", type := .char, accessFlags := 26, slot := 3, constantValue := 0 }, { name := "CASE_INSENSITIVE_ORDER", type := (.object "java/util/Comparator"), accessFlags := 25, slot := 4, constantValue := 0 }, { name := "LATIN1", type := .byte, accessFlags := 24, slot := 5, constantValue := 0 }, { name := "UTF16", type := .byte, accessFlags := 24, slot := 6, constantValue := 0 }]
  methods := #[k9m0, k9m1, k9m2, k9m3, k9m4, k9m5, k9m6]
  instanceTypes := #[(.array .byte), .byte, .int, .boolean]
  staticTypes := #[.long, .boolean, (.array (.object "java/io/ObjectStreamField")), .char, (.object "java/util/Comparator"), .byte, .byte]
  resolved := Array.replicate 1451 none
  statics := some 0 }

def pool10 : Array CpInfo := pool [(2, .class_ 4), (1, u "java/lang/Object"), (0, u "<init>"), (0, u "()V"), (35, .class_ 44), (1, u "java/util/Objects"), (0, u "requireNonNull"), (48, u "(Ljava/lang/Object;Ljava/lang/String;)Ljava/lang/Object;")] 89

def k10m0 : Method := { name := "<init>", desc := "()V", sig := { parameters := [], returnType := none }, accessFlags := 2, code := none }
def k10c1 : Code := { maxStack := 3, maxLocals := 2, code := jdk_31_method_11_code, exceptionTable := #[], attributes := #[] }
def k10m1 : Method := { name := "requireNonNull", desc := "(Ljava/lang/Object;Ljava/lang/String;)Ljava/lang/Object;", sig := { parameters := [(.object "java/lang/Object"), (.object "java/lang/String")], returnType := some (.object "java/lang/Object") }, accessFlags := 9, code := some k10c1 }
/-- java/util/Objects -/
def k10 : Class := { plain "java/util/Objects" (some 0) with
  accessFlags := 49
  interfaces := #[]
  cf := some (fileOf pool10 42 #[] #[{ accessFlags := 2, nameIndex := 5, descriptorIndex := 6, attributes := #[] }, { accessFlags := 9, nameIndex := 45, descriptorIndex := 94, attributes := #[] }] 49 2 #[] #[])
  fields := #[]
  methods := #[k10m0, k10m1]
  instanceTypes := #[]
  staticTypes := #[]
  resolved := Array.replicate 184 none
  statics := none }

def pool11 : Array CpInfo := pool [(1, .class_ 2), (0, u "java/lang/String"), (1, .class_ 6), (1, u "java/lang/Object"), (0, u "<init>"), (0, u "()V"), (0, .methodref 1 10), (0, .nameAndType 11 12), (0, u "checkIndex"), (0, u "(II)V"), (1, .class_ 16), (1, u "java/lang/StringLatin1"), (36, u "([BI)C"), (67, u "$assertionsDisabled"), (0, u "Z"), (98, .class_ 223), (1, u "java/lang/StringLatin1$LinesSpliterator"), (28, u "charAt"), (137, .class_ 391), (0, u "java/lang/StringLatin1$CharsSpliterator")] 3

def k11m0 : Method := { name := "<init>", desc := "()V", sig := { parameters := [], returnType := none }, accessFlags := 0, code := none }
def k11c1 : Code := { maxStack := 2, maxLocals := 2, code := jdk_43_method_2_code, exceptionTable := #[], attributes := #[] }
def k11m1 : Method := { name := "charAt", desc := "([BI)C", sig := { parameters := [(.array .byte), .int], returnType := some .char }, accessFlags := 9, code := some k11c1 }
/-- java/lang/StringLatin1 -/
def k11 : Class := { plain "java/lang/StringLatin1" (some 0) with
  accessFlags := 48
  interfaces := #[]
  cf := some (fileOf pool11 14 #[.nestMembers #[390, 221]] #[{ accessFlags := 0, nameIndex := 7, descriptorIndex := 8, attributes := #[] }, { accessFlags := 9, nameIndex := 252, descriptorIndex := 53, attributes := #[] }] 48 4 #[] #[{ accessFlags := 4120, nameIndex := 121, descriptorIndex := 122, attributes := #[] }])
  fields := #[{ name := "$assertionsDisabled", type := .boolean, accessFlags := 4120, slot := 0, constantValue := 0 }]
  methods := #[k11m0, k11m1]
  instanceTypes := #[]
  staticTypes := #[.boolean]
  resolved := Array.replicate 395 none
  statics := none }

def pool12 : Array CpInfo := pool [(2, .class_ 4), (1, u "java/lang/Object"), (0, u "<init>"), (0, u "()V"), (17, .class_ 26), (1, u "jdk/internal/util/Preconditions"), (6, u "checkIndex"), (21, .class_ 56), (0, u "jdk/internal/util/Preconditions$4"), (57, .class_ 115), (0, u "jdk/internal/util/Preconditions$1"), (7, u "SIOOBE_FORMATTER"), (0, u "Ljava/util/function/BiFunction;"), (0, .class_ 126), (0, u "jdk/internal/util/Preconditions$2"), (3, u "AIOOBE_FORMATTER"), (0, .class_ 132), (0, u "jdk/internal/util/Preconditions$3"), (3, u "IOOBE_FORMATTER"), (41, u "(IILjava/util/function/BiFunction;)I")] 15

def k12m0 : Method := { name := "<init>", desc := "()V", sig := { parameters := [], returnType := none }, accessFlags := 1, code := none }
def k12c1 : Code := { maxStack := 3, maxLocals := 3, code := jdk_41_method_11_code, exceptionTable := #[], attributes := #[] }
def k12m1 : Method := { name := "checkIndex", desc := "(IILjava/util/function/BiFunction;)I", sig := { parameters := [.int, .int, (.object "java/util/function/BiFunction")], returnType := some .int }, accessFlags := 9, code := some k12c1 }
/-- jdk/internal/util/Preconditions -/
def k12 : Class := { plain "jdk/internal/util/Preconditions" (some 0) with
  accessFlags := 33
  interfaces := #[]
  cf := some (fileOf pool12 24 #[.nestMembers #[55, 131, 125, 114]] #[{ accessFlags := 1, nameIndex := 5, descriptorIndex := 6, attributes := #[] }, { accessFlags := 9, nameIndex := 33, descriptorIndex := 178, attributes := #[] }] 33 2 #[] #[{ accessFlags := 25, nameIndex := 123, descriptorIndex := 124, attributes := #[] }, { accessFlags := 25, nameIndex := 130, descriptorIndex := 124, attributes := #[] }, { accessFlags := 25, nameIndex := 136, descriptorIndex := 124, attributes := #[] }])
  fields := #[{ name := "SIOOBE_FORMATTER", type := (.object "java/util/function/BiFunction"), accessFlags := 25, slot := 0, constantValue := 0 }, { name := "AIOOBE_FORMATTER", type := (.object "java/util/function/BiFunction"), accessFlags := 25, slot := 1, constantValue := 0 }, { name := "IOOBE_FORMATTER", type := (.object "java/util/function/BiFunction"), accessFlags := 25, slot := 2, constantValue := 0 }]
  methods := #[k12m0, k12m1]
  instanceTypes := #[]
  staticTypes := #[(.object "java/util/function/BiFunction"), (.object "java/util/function/BiFunction"), (.object "java/util/function/BiFunction")]
  resolved := Array.replicate 194 none
  statics := some 1 }

def pool13 : Array CpInfo := pool [(9, u "<init>"), (6, .class_ 18), (1, u "java/lang/Object"), (0, u "()V"), (1, .class_ 23), (1, u "jdk/internal/util/ArraysSupport"), (0, u "LOG2_ARRAY_LONG_INDEX_SCALE"), (0, u "I"), (2, u "U"), (0, u "Ljdk/internal/misc/Unsafe;"), (8, u "BIG_ENDIAN"), (0, u "Z"), (8, u "LOG2_BYTE_BIT_SIZE"), (4, u "LOG2_ARRAY_INT_INDEX_SCALE"), (54, u "JLA"), (0, u "Ljdk/internal/access/JavaLangAccess;"), (11, u "LOG2_ARRAY_BOOLEAN_INDEX_SCALE"), (9, u "LOG2_ARRAY_BYTE_INDEX_SCALE"), (5, u "LOG2_ARRAY_CHAR_INDEX_SCALE"), (5, u "LOG2_ARRAY_SHORT_INDEX_SCALE"), (18, u "LOG2_ARRAY_FLOAT_INDEX_SCALE"), (24, u "LOG2_ARRAY_DOUBLE_INDEX_SCALE"), (89, u "T_BOOLEAN"), (2, u "T_CHAR"), (1, u "T_FLOAT"), (1, u "T_DOUBLE"), (1, u "T_BYTE"), (1, u "T_SHORT"), (1, u "T_INT"), (1, u "T_LONG"), (1, u "SOFT_MAX_ARRAY_LENGTH")] 83

def k13m0 : Method := { name := "<init>", desc := "()V", sig := { parameters := [], returnType := none }, accessFlags := 2, code := none }
/-- jdk/internal/util/ArraysSupport -/
def k13 : Class := { plain "jdk/internal/util/ArraysSupport" (some 0) with
  accessFlags := 33
  interfaces := #[]
  cf := some (fileOf pool13 21 #[] #[{ accessFlags := 2, nameIndex := 9, descriptorIndex := 19, attributes := #[] }] 33 16 #[] #[{ accessFlags := 24, nameIndex := 28, descriptorIndex := 29, attributes := #[] }, { accessFlags := 26, nameIndex := 38, descriptorIndex := 39, attributes := #[] }, { accessFlags := 25, nameIndex := 121, descriptorIndex := 25, attributes := #[] }, { accessFlags := 25, nameIndex := 131, descriptorIndex := 25, attributes := #[] }, { accessFlags := 25, nameIndex := 137, descriptorIndex := 25, attributes := #[] }, { accessFlags := 25, nameIndex := 143, descriptorIndex := 25, attributes := #[] }, { accessFlags := 25, nameIndex := 53, descriptorIndex := 25, attributes := #[] }, { accessFlags := 25, nameIndex := 24, descriptorIndex := 25, attributes := #[] }, { accessFlags := 25, nameIndex := 162, descriptorIndex := 25, attributes := #[] }, { accessFlags := 25, nameIndex := 187, descriptorIndex := 25, attributes := #[] }, { accessFlags := 26, nameIndex := 48, descriptorIndex := 25, attributes := #[] }, { accessFlags := 25, nameIndex := 277, descriptorIndex := 25, attributes := #[] }, { accessFlags := 25, nameIndex := 280, descriptorIndex := 25, attributes := #[] }, { accessFlags := 25, nameIndex := 282, descriptorIndex := 25, attributes := #[] }, { accessFlags := 25, nameIndex := 284, descriptorIndex := 25, attributes := #[] }, { accessFlags := 25, nameIndex := 286, descriptorIndex := 25, attributes := #[] }, { accessFlags := 25, nameIndex := 288, descriptorIndex := 25, attributes := #[] }, { accessFlags := 25, nameIndex := 290, descriptorIndex := 25, attributes := #[] }, { accessFlags := 25, nameIndex := 292, descriptorIndex := 25, attributes := #[] }, { accessFlags := 26, nameIndex := 108, descriptorIndex := 109, attributes := #[] }, { accessFlags := 25, nameIndex := 294, descriptorIndex := 25, attributes := #[] }])
  fields := #[{ name := "U", type := (.object "jdk/internal/misc/Unsafe"), accessFlags := 24, slot := 0, constantValue := 0 }, { name := "BIG_ENDIAN", type := .boolean, accessFlags := 26, slot := 1, constantValue := 0 }, { name := "LOG2_ARRAY_BOOLEAN_INDEX_SCALE", type := .int, accessFlags := 25, slot := 2, constantValue := 0 }, { name := "LOG2_ARRAY_BYTE_INDEX_SCALE", type := .int, accessFlags := 25, slot := 3, constantValue := 0 }, { name := "LOG2_ARRAY_CHAR_INDEX_SCALE", type := .int, accessFlags := 25, slot := 4, constantValue := 0 }, { name := "LOG2_ARRAY_SHORT_INDEX_SCALE", type := .int, accessFlags := 25, slot := 5, constantValue := 0 }, { name := "LOG2_ARRAY_INT_INDEX_SCALE", type := .int, accessFlags := 25, slot := 6, constantValue := 0 }, { name := "LOG2_ARRAY_LONG_INDEX_SCALE", type := .int, accessFlags := 25, slot := 7, constantValue := 0 }, { name := "LOG2_ARRAY_FLOAT_INDEX_SCALE", type := .int, accessFlags := 25, slot := 8, constantValue := 0 }, { name := "LOG2_ARRAY_DOUBLE_INDEX_SCALE", type := .int, accessFlags := 25, slot := 9, constantValue := 0 }, { name := "LOG2_BYTE_BIT_SIZE", type := .int, accessFlags := 26, slot := 10, constantValue := 0 }, { name := "T_BOOLEAN", type := .int, accessFlags := 25, slot := 11, constantValue := 0 }, { name := "T_CHAR", type := .int, accessFlags := 25, slot := 12, constantValue := 0 }, { name := "T_FLOAT", type := .int, accessFlags := 25, slot := 13, constantValue := 0 }, { name := "T_DOUBLE", type := .int, accessFlags := 25, slot := 14, constantValue := 0 }, { name := "T_BYTE", type := .int, accessFlags := 25, slot := 15, constantValue := 0 }, { name := "T_SHORT", type := .int, accessFlags := 25, slot := 16, constantValue := 0 }, { name := "T_INT", type := .int, accessFlags := 25, slot := 17, constantValue := 0 }, { name := "T_LONG", type := .int, accessFlags := 25, slot := 18, constantValue := 0 }, { name := "JLA", type := (.object "jdk/internal/access/JavaLangAccess"), accessFlags := 26, slot := 19, constantValue := 0 }, { name := "SOFT_MAX_ARRAY_LENGTH", type := .int, accessFlags := 25, slot := 20, constantValue := 0 }]
  methods := #[k13m0]
  instanceTypes := #[]
  staticTypes := #[(.object "jdk/internal/misc/Unsafe"), .boolean, .int, .int, .int, .int, .int, .int, .int, .int, .int, .int, .int, .int, .int, .int, .int, .int, .int, (.object "jdk/internal/access/JavaLangAccess"), .int]
  resolved := Array.replicate 378 none
  statics := none }

def pool14 : Array CpInfo := pool [(1, u "java/lang/Cloneable"), (0, .class_ 1), (0, u "java/lang/Object"), (0, .class_ 3)] 3

/-- java/lang/Cloneable -/
def k14 : Class := { plain "java/lang/Cloneable" (some 0) with
  accessFlags := 1537
  interfaces := #[]
  cf := some (fileOf pool14 2 #[] #[] 1537 4 #[] #[])
  fields := #[]
  methods := #[]
  instanceTypes := #[]
  staticTypes := #[]
  resolved := Array.replicate 8 none
  statics := none }

/-- the primitive byte -/
def k15 : Class := { plain "byte" none with kind := .primitive 'B', accessFlags := 0x411 }
/-- [B -/
def k16 : Class := { plain "[B" (some 0) with kind := .array 15 .byte, interfaces := #[14, 4], accessFlags := 1041 }

/-- the primitive int -/
def k17 : Class := { plain "int" none with kind := .primitive 'I', accessFlags := 0x411 }
/-- [I -/
def k18 : Class := { plain "[I" (some 0) with kind := .array 17 .int, interfaces := #[14, 4], accessFlags := 1041 }

def heap : Heap := #[{ cls := 9, slots := #[.long 0, .int 1, .null, .int 0, .null, .int 0, .int 0], vm := .statics 9 },
  { cls := 12, slots := #[.null, .null, .null], vm := .statics 12 }]
def classes : Array Class := #[k0, k1, k2, k3, k4, k5, k6, k7, k8, k9, k10, k11, k12, k13, k14, k15, k16, k17, k18]
def interned : List (Array UInt16 × Addr) := []
def slotsUsed : Nat := 10
def theMethod : MethodId := ⟨1, 2⟩
def args0 : Array Value := #[.long 5, .long 6, .long 7, .long 8, .int 1]
def aboutOver (below : List Frame) : State where
  vm := { classes := classes, interned := interned.toArray }
  heap := heap
  slotsUsed := slotsUsed
  threads := #[{ frames := .invoking theMethod args0 :: below }]
def below0 : List Frame := [.native { method := ⟨0, 0⟩, args := #[] }]
def about1 : State := aboutOver below0
def p0 : Program := .bare "" "" ""
def e0 : Env := launch0.env 0 0 0
theorem w_frames : about1.frames = Frame.invoking theMethod args0 :: below0 := rfl
set_option maxRecDepth 65536 in
theorem w_args : argsFit about1.vm theMethod args0 = true := by decide +kernel
set_option maxRecDepth 65536 in
theorem w_heap : heapFits about1 = true := by decide +kernel
set_option maxRecDepth 65536 in
theorem w_runnable : about1.curStatus? = some .runnable := by decide +kernel
set_option maxRecDepth 65536 in
theorem w_alone : about1.alone = true := by decide +kernel
set_option maxRecDepth 65536 in
theorem w_named : about1.methodNamed? x = some theMethod := by decide +kernel
set_option maxRecDepth 65536 in
theorem w_hears : about1.hears theMethod below0 = true := by decide +kernel
set_option maxRecDepth 65536 in
theorem w_ripe : about1.ripe theMethod args0 below0 = true := by decide +kernel
theorem w_running : about1.status = .running := rfl
set_option maxRecDepth 65536 in
theorem w_room : about1.hasRoom e0.platform room_1 = true :=
  launch0.hasRoom_least _ room_1 (by decide +kernel) (by decide +kernel) (by decide +kernel) (by decide +kernel) (by decide +kernel) (by decide +kernel)
theorem allAtoms_all (ts : List Jvm.Cond) (a : Array Jvm.Value) (st : Jvm.State) : (allAtoms ts).before a st = ts.all (fun c => c.before a st) := by
  induction ts with
  | nil => rfl
  | cons c t ih =>
    show (Jvm.Cond.and c (allAtoms t)).before a st = _
    rw [Jvm.Cond.before_and, ih, List.all_cons]
def words1 : List Jvm.Cond := Jvm.Cond.code x code maxLocals ret :: tables_1
/-- a 'code' word, met by the world's own term for the bytes: nothing is compared byte by byte -/
theorem code_word {y : MethodName} {bytes : ByteArray} {mx : Nat} {rt : Option FieldType} {a : Array Value} {s : State} {m : MethodId} {meth : Method} {c : Code} (h1 : s.methodNamed? y = some m) (h2 : s.vm.method? m = some meth) (h3 : meth.code = some c) (h4 : c.code = bytes)
    (h5 : (c.maxLocals == mx && c.exceptionTable.isEmpty && decide (c.maxStack ≤ mostOperands) && decide (meth.sig.returnType = rt) && !meth.locks && decide (parseMethodDescriptor y.desc = some meth.sig)) = true) : (Jvm.Cond.code y bytes mx rt).before a s = true := by
  simp only [Bool.and_eq_true, beq_iff_eq, Bool.not_eq_true', decide_eq_true_eq] at h5
  obtain ⟨⟨⟨⟨⟨g1, g2⟩, g3⟩, g4⟩, g5⟩, g6⟩ := h5
  simp [Cond.before, Cond.holds, Cond.value, h1, h2, h3, h4, g1, g2, g3, g4, g5, g6]
def isCode : Jvm.Cond → Bool
  | .code _ _ _ _ => true
  | _ => false
theorem all_split {L : List Jvm.Cond} {P : Jvm.Cond → Bool} (h1 : L.all (fun c => isCode c || P c) = true) (h2 : ∀ c ∈ L.filter isCode, P c = true) : L.all P = true := by
  refine List.all_eq_true.mpr fun c hc => ?_
  have h := List.all_eq_true.mp h1 c hc
  rcases Bool.eq_false_or_eq_true (isCode c) with hi | hi
  · exact h2 c (List.mem_filter.mpr ⟨hc, hi⟩)
  · simpa [hi] using h
set_option maxRecDepth 65536 in
theorem w_c0 : (Jvm.Cond.code x code maxLocals ret).before args0 about1 = true := code_word (m := ⟨1, 2⟩) (meth := k1m2) (c := k1c2) (by decide +kernel) rfl rfl rfl (by decide +kernel)
set_option maxRecDepth 65536 in
theorem w_c1 : (Jvm.Cond.code ({ cls := "com/example/peakwise/peakwise/Job", name := "<init>", desc := "(Ljava/lang/String;JJJJ)V" } : Jvm.MethodName) prog_19_method_1_code (10 : Nat) (Option.none : Option Jvm.ClassFile.FieldType)).before args0 about1 = true := code_word (m := ⟨3, 0⟩) (meth := k3m0) (c := k3c0) (by decide +kernel) rfl rfl rfl (by decide +kernel)
set_option maxRecDepth 65536 in
theorem w_c2 : (Jvm.Cond.code ({ cls := "java/lang/Record", name := "<init>", desc := "()V" } : Jvm.MethodName) jdk_30_method_1_code (1 : Nat) (Option.none : Option Jvm.ClassFile.FieldType)).before args0 about1 = true := code_word (m := ⟨2, 0⟩) (meth := k2m0) (c := k2c0) (by decide +kernel) rfl rfl rfl (by decide +kernel)
set_option maxRecDepth 65536 in
theorem w_c3 : (Jvm.Cond.code ({ cls := "java/lang/Object", name := "<init>", desc := "()V" } : Jvm.MethodName) object_method_1_code (1 : Nat) (Option.none : Option Jvm.ClassFile.FieldType)).before args0 about1 = true := code_word (m := ⟨0, 0⟩) (meth := k0m0) (c := k0c0) (by decide +kernel) rfl rfl rfl (by decide +kernel)
set_option maxRecDepth 65536 in
theorem w_c4 : (Jvm.Cond.code ({ cls := "com/example/peakwise/peakwise/Job", name := "requireValidId", desc := "(Ljava/lang/String;)V" } : Jvm.MethodName) prog_19_method_4_code (3 : Nat) (Option.none : Option Jvm.ClassFile.FieldType)).before args0 about1 = true := code_word (m := ⟨3, 2⟩) (meth := k3m2) (c := k3c2) (by decide +kernel) rfl rfl rfl (by decide +kernel)
set_option maxRecDepth 65536 in
theorem w_c5 : (Jvm.Cond.code ({ cls := "java/util/Objects", name := "requireNonNull", desc := "(Ljava/lang/Object;Ljava/lang/String;)Ljava/lang/Object;" } : Jvm.MethodName) jdk_31_method_11_code (2 : Nat) (Option.some (Jvm.ClassFile.FieldType.object "java/lang/Object"))).before args0 about1 = true := code_word (m := ⟨10, 1⟩) (meth := k10m1) (c := k10c1) (by decide +kernel) rfl rfl rfl (by decide +kernel)
set_option maxRecDepth 65536 in
theorem w_c6 : (Jvm.Cond.code ({ cls := "java/lang/String", name := "isEmpty", desc := "()Z" } : Jvm.MethodName) jdk_42_method_55_code (1 : Nat) (Option.some Jvm.ClassFile.FieldType.boolean)).before args0 about1 = true := code_word (m := ⟨9, 2⟩) (meth := k9m2) (c := k9c2) (by decide +kernel) rfl rfl rfl (by decide +kernel)
set_option maxRecDepth 65536 in
theorem w_c7 : (Jvm.Cond.code ({ cls := "java/lang/String", name := "length", desc := "()I" } : Jvm.MethodName) jdk_42_method_54_code (1 : Nat) (Option.some Jvm.ClassFile.FieldType.int)).before args0 about1 = true := code_word (m := ⟨9, 1⟩) (meth := k9m1) (c := k9c1) (by decide +kernel) rfl rfl rfl (by decide +kernel)
set_option maxRecDepth 65536 in
theorem w_c8 : (Jvm.Cond.code ({ cls := "java/lang/String", name := "coder", desc := "()B" } : Jvm.MethodName) jdk_42_method_152_code (1 : Nat) (Option.some Jvm.ClassFile.FieldType.byte)).before args0 about1 = true := code_word (m := ⟨9, 4⟩) (meth := k9m4) (c := k9c4) (by decide +kernel) rfl rfl rfl (by decide +kernel)
set_option maxRecDepth 65536 in
theorem w_c9 : (Jvm.Cond.code ({ cls := "java/lang/String", name := "charAt", desc := "(I)C" } : Jvm.MethodName) jdk_42_method_56_code (2 : Nat) (Option.some Jvm.ClassFile.FieldType.char)).before args0 about1 = true := code_word (m := ⟨9, 3⟩) (meth := k9m3) (c := k9c3) (by decide +kernel) rfl rfl rfl (by decide +kernel)
set_option maxRecDepth 65536 in
theorem w_c10 : (Jvm.Cond.code ({ cls := "java/lang/String", name := "isLatin1", desc := "()Z" } : Jvm.MethodName) jdk_42_method_154_code (1 : Nat) (Option.some Jvm.ClassFile.FieldType.boolean)).before args0 about1 = true := code_word (m := ⟨9, 5⟩) (meth := k9m5) (c := k9c5) (by decide +kernel) rfl rfl rfl (by decide +kernel)
set_option maxRecDepth 65536 in
theorem w_c11 : (Jvm.Cond.code ({ cls := "java/lang/StringLatin1", name := "charAt", desc := "([BI)C" } : Jvm.MethodName) jdk_43_method_2_code (2 : Nat) (Option.some Jvm.ClassFile.FieldType.char)).before args0 about1 = true := code_word (m := ⟨11, 1⟩) (meth := k11m1) (c := k11c1) (by decide +kernel) rfl rfl rfl (by decide +kernel)
set_option maxRecDepth 65536 in
theorem w_c12 : (Jvm.Cond.code ({ cls := "java/lang/String", name := "checkIndex", desc := "(II)V" } : Jvm.MethodName) jdk_42_method_155_code (2 : Nat) (Option.none : Option Jvm.ClassFile.FieldType)).before args0 about1 = true := code_word (m := ⟨9, 6⟩) (meth := k9m6) (c := k9c6) (by decide +kernel) rfl rfl rfl (by decide +kernel)
set_option maxRecDepth 65536 in
theorem w_c13 : (Jvm.Cond.code ({ cls := "jdk/internal/util/Preconditions", name := "checkIndex", desc := "(IILjava/util/function/BiFunction;)I" } : Jvm.MethodName) jdk_41_method_11_code (3 : Nat) (Option.some Jvm.ClassFile.FieldType.int)).before args0 about1 = true := code_word (m := ⟨12, 1⟩) (meth := k12m1) (c := k12c1) (by decide +kernel) rfl rfl rfl (by decide +kernel)
set_option maxRecDepth 65536 in
theorem w_c14 : (Jvm.Cond.code ({ cls := "com/example/peakwise/peakwise/Job", name := "requireInRange", desc := "(Ljava/lang/String;JJ)V" } : Jvm.MethodName) prog_19_method_5_code (5 : Nat) (Option.none : Option Jvm.ClassFile.FieldType)).before args0 about1 = true := code_word (m := ⟨3, 3⟩) (meth := k3m3) (c := k3c3) (by decide +kernel) rfl rfl rfl (by decide +kernel)
set_option maxRecDepth 65536 in
theorem w_c15 : (Jvm.Cond.code ({ cls := "com/example/peakwise/peakwise/Job", name := "fits", desc := "(J)Z" } : Jvm.MethodName) prog_19_method_3_code (3 : Nat) (Option.some Jvm.ClassFile.FieldType.boolean)).before args0 about1 = true := code_word (m := ⟨3, 1⟩) (meth := k3m1) (c := k3c1) (by decide +kernel) rfl rfl rfl (by decide +kernel)
set_option maxRecDepth 65536 in
theorem w_c16 : (Jvm.Cond.code ({ cls := "com/example/peakwise/peakwise/JobFitsPinLaw", name := "reference", desc := "(JJJJ)Z" } : Jvm.MethodName) method_2_code (8 : Nat) (Option.some Jvm.ClassFile.FieldType.boolean)).before args0 about1 = true := code_word (m := ⟨1, 1⟩) (meth := k1m1) (c := k1c1) (by decide +kernel) rfl rfl rfl (by decide +kernel)
def codes1 : List Jvm.Cond := [Jvm.Cond.code x code maxLocals ret, Jvm.Cond.code ({ cls := "com/example/peakwise/peakwise/Job", name := "<init>", desc := "(Ljava/lang/String;JJJJ)V" } : Jvm.MethodName) prog_19_method_1_code (10 : Nat) (Option.none : Option Jvm.ClassFile.FieldType), Jvm.Cond.code ({ cls := "java/lang/Record", name := "<init>", desc := "()V" } : Jvm.MethodName) jdk_30_method_1_code (1 : Nat) (Option.none : Option Jvm.ClassFile.FieldType), Jvm.Cond.code ({ cls := "java/lang/Object", name := "<init>", desc := "()V" } : Jvm.MethodName) object_method_1_code (1 : Nat) (Option.none : Option Jvm.ClassFile.FieldType), Jvm.Cond.code ({ cls := "com/example/peakwise/peakwise/Job", name := "requireValidId", desc := "(Ljava/lang/String;)V" } : Jvm.MethodName) prog_19_method_4_code (3 : Nat) (Option.none : Option Jvm.ClassFile.FieldType), Jvm.Cond.code ({ cls := "java/util/Objects", name := "requireNonNull", desc := "(Ljava/lang/Object;Ljava/lang/String;)Ljava/lang/Object;" } : Jvm.MethodName) jdk_31_method_11_code (2 : Nat) (Option.some (Jvm.ClassFile.FieldType.object "java/lang/Object")), Jvm.Cond.code ({ cls := "java/lang/String", name := "isEmpty", desc := "()Z" } : Jvm.MethodName) jdk_42_method_55_code (1 : Nat) (Option.some Jvm.ClassFile.FieldType.boolean), Jvm.Cond.code ({ cls := "java/lang/String", name := "length", desc := "()I" } : Jvm.MethodName) jdk_42_method_54_code (1 : Nat) (Option.some Jvm.ClassFile.FieldType.int), Jvm.Cond.code ({ cls := "java/lang/String", name := "coder", desc := "()B" } : Jvm.MethodName) jdk_42_method_152_code (1 : Nat) (Option.some Jvm.ClassFile.FieldType.byte), Jvm.Cond.code ({ cls := "java/lang/String", name := "charAt", desc := "(I)C" } : Jvm.MethodName) jdk_42_method_56_code (2 : Nat) (Option.some Jvm.ClassFile.FieldType.char), Jvm.Cond.code ({ cls := "java/lang/String", name := "isLatin1", desc := "()Z" } : Jvm.MethodName) jdk_42_method_154_code (1 : Nat) (Option.some Jvm.ClassFile.FieldType.boolean), Jvm.Cond.code ({ cls := "java/lang/StringLatin1", name := "charAt", desc := "([BI)C" } : Jvm.MethodName) jdk_43_method_2_code (2 : Nat) (Option.some Jvm.ClassFile.FieldType.char), Jvm.Cond.code ({ cls := "java/lang/String", name := "checkIndex", desc := "(II)V" } : Jvm.MethodName) jdk_42_method_155_code (2 : Nat) (Option.none : Option Jvm.ClassFile.FieldType), Jvm.Cond.code ({ cls := "jdk/internal/util/Preconditions", name := "checkIndex", desc := "(IILjava/util/function/BiFunction;)I" } : Jvm.MethodName) jdk_41_method_11_code (3 : Nat) (Option.some Jvm.ClassFile.FieldType.int), Jvm.Cond.code ({ cls := "com/example/peakwise/peakwise/Job", name := "requireInRange", desc := "(Ljava/lang/String;JJ)V" } : Jvm.MethodName) prog_19_method_5_code (5 : Nat) (Option.none : Option Jvm.ClassFile.FieldType), Jvm.Cond.code ({ cls := "com/example/peakwise/peakwise/Job", name := "fits", desc := "(J)Z" } : Jvm.MethodName) prog_19_method_3_code (3 : Nat) (Option.some Jvm.ClassFile.FieldType.boolean), Jvm.Cond.code ({ cls := "com/example/peakwise/peakwise/JobFitsPinLaw", name := "reference", desc := "(JJJJ)Z" } : Jvm.MethodName) method_2_code (8 : Nat) (Option.some Jvm.ClassFile.FieldType.boolean)]
set_option maxRecDepth 65536 in
theorem codes_eq : words1.filter isCode = codes1 := rfl
theorem w_codes : ∀ c ∈ words1.filter isCode, c.before args0 about1 = true := by
  rw [codes_eq]
  intro c hc
  simp only [codes1, List.mem_cons, List.not_mem_nil, or_false] at hc
  rcases hc with rfl | rfl | rfl | rfl | rfl | rfl | rfl | rfl | rfl | rfl | rfl | rfl | rfl | rfl | rfl | rfl | rfl
  · exact w_c0
  · exact w_c1
  · exact w_c2
  · exact w_c3
  · exact w_c4
  · exact w_c5
  · exact w_c6
  · exact w_c7
  · exact w_c8
  · exact w_c9
  · exact w_c10
  · exact w_c11
  · exact w_c12
  · exact w_c13
  · exact w_c14
  · exact w_c15
  · exact w_c16
set_option maxRecDepth 65536 in
theorem w_t1 : (words1.take 24).all (fun c => isCode c || c.before args0 about1) = true := by decide +kernel
set_option maxRecDepth 65536 in
theorem w_t2 : ((words1.drop 24).take 24).all (fun c => isCode c || c.before args0 about1) = true := by decide +kernel
set_option maxRecDepth 65536 in
theorem w_t3 : (((words1.drop 24).drop 24).take 24).all (fun c => isCode c || c.before args0 about1) = true := by decide +kernel
set_option maxRecDepth 65536 in
theorem w_t4 : ((((words1.drop 24).drop 24).drop 24).take 24).all (fun c => isCode c || c.before args0 about1) = true := by decide +kernel
set_option maxRecDepth 65536 in
theorem w_t5 : ((((words1.drop 24).drop 24).drop 24).drop 24).all (fun c => isCode c || c.before args0 about1) = true := by decide +kernel
theorem w_tables : (allAtoms (Jvm.Cond.code x code maxLocals ret :: tables_1)).before args0 about1 = true := by
  rw [allAtoms_all]
  show words1.all (fun c => c.before args0 about1) = true
  refine all_split ?_ w_codes
  rw [← List.take_append_drop 24 words1, List.all_append, w_t1, ← List.take_append_drop 24 (words1.drop 24), List.all_append, w_t2, ← List.take_append_drop 24 ((words1.drop 24).drop 24), List.all_append, w_t3, ← List.take_append_drop 24 (((words1.drop 24).drop 24).drop 24), List.all_append, w_t4, w_t5]
  rfl
set_option maxRecDepth 65536 in
theorem w_rest : rest_1_c.before args0 about1 = true := by decide +kernel
set_option maxRecDepth 65536 in
theorem w_case : (Jvm.Cond.and given_1 narrow_1).before args0 about1 = true := by decide +kernel
set_option maxRecDepth 65536 in
theorem w_consts : constsHeld consts_1 about1 := Jvm.Lit.constsHeldB_iff.mp (by decide +kernel)
theorem w_applies : (headSpec (Jvm.Cond.code x code maxLocals ret :: tables_1) room_1).applies x e0.platform about1 = true :=
  (Spec.applies_iff w_frames).mpr ⟨w_running, w_runnable, w_alone, w_named, w_hears, w_ripe, w_room, w_tables⟩
theorem atStart : AtStart classFile x code maxLocals ret World_1 tables_1 room_1 Calls_1 rest_1 Pre_1 launch0 p0 e0 about1 theMethod args0 below0 :=
  ⟨lists_1, trivial, launch0.admits_env _ _ _, launch0.least_env, fairChoices_fair.cas, fairChoices_fair.clock, w_frames, w_args, w_heap, w_applies, ⟨w_consts, trivial⟩, w_rest, w_case⟩
end start1
theorem witness_1 : WitnessClaimed_1 := ⟨start1.p0, start1.e0, start1.about1, start1.theMethod, start1.args0, start1.below0, start1.atStart⟩
end Jvm.Pilot.@@N@@
