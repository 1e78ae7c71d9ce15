import JvmDerived
import JvmDerived.Pilot.@@N@@Statement
import JvmDerived.Pilot.@@N@@Code
set_option linter.unusedVariables false
set_option linter.unusedSimpArgs false
namespace Jvm.RoadKit
open Sem ClassFile Op Lib Jvm.Stand Jvm.Free Jvm.LawKit
section New
variable {p : Program} {l : Launch} {e : Env} {R : Room} {s : State} {m : MethodId} {args : Array Value} {below : List Frame} {meth : Method} {c : Code} {T : State} {locs : List Loc} {cells slots : Nat}
theorem retI (X : Stand p l e R s m args below meth c T locs cells slots) (hx : p.tables.exec = Jvm.exec) {pc : Nat} {Ls : Array Slot} {z : Int32} {rest : List Value} (hret : meth.sig.returnType = some .int) (hd : decode c.code pc = .ok (.ireturn, 1)) {fs : List Frame}
    (hl : ∀ (f : JFrame) (acts : List Action), f.method = m → f.locked = none → f.entered = [] → (doReturn e (T.setTop f) acts (some (.int z))).1 = T.setFrames fs) : Steps p.tables e below (T.setTop (mkF m pc Ls (.int z :: rest))) (T.setFrames fs) := by
  have hm' : T.vm.method? m = some meth := X.method'
  have hn : narrow .int (.int z) = .int z := rfl
  show Steps p.tables e below (T.setTop { method := m, pc := pc, locals := Ls, stack := _ :: rest, locked := none }) _
  jvm_step X.here [X.here.top, hx, hd, hm', hret, hn]
  first | (intro acts; rw [hl _ acts rfl rfl rfl]) | rw [hl _ _ rfl rfl rfl]
  exact Steps.refl _
end New
end Jvm.RoadKit
namespace Jvm.Pilot.@@N@@
open Jvm Jvm.ClassFile Sem Op Lib Jvm.Free Jvm.Stand Jvm.LawKit Jvm.RoadKit Bundle Jvm.Pilot.@@N@@.Jvm.D
theorem own_go {tb : Tables} {e : Env} {below : List Frame} {T T' : State} {g g' : JFrame} {P : State → Outcome → Prop} (st : ∀ t, Steps tb e below (T'.setTop g') t → Steps tb e below (T.setTop g) t) (k : ∃ s₂ o, Steps tb e below (T'.setTop g') s₂ ∧ P s₂ o) : ∃ s₂ o, Steps tb e below (T.setTop g) s₂ ∧ P s₂ o := by
  obtain ⟨s₂, o, h, r⟩ := k
  exact ⟨s₂, o, st _ h, r⟩
def own_fr (k dl : Int32) : Int32 := ((k.toInt64 * dl.toInt64) + (1 : Int64)).toInt32
theorem own_w (k dl : Int32) (h0 : 0 ≤ k.toInt) (h1 : 0 ≤ dl.toInt) (hb : k.toInt * dl.toInt ≤ 16777215) : ¬ ((16777216 : Int64) < (k.toInt64 * dl.toInt64) + (1 : Int64)) ∧ (own_fr k dl).toInt = k.toInt * dl.toInt + 1 := by
  have e1 := c_i2l k
  have e2 := c_i2l dl
  have e3 := c_lmul k.toInt64 dl.toInt64
  have e3a := Int64.le_toInt (k.toInt64 * dl.toInt64)
  have e3b := Int64.toInt_lt (k.toInt64 * dl.toInt64)
  rw [e1, e2] at e3
  have hp : 0 ≤ k.toInt * dl.toInt := Int.mul_nonneg h0 h1
  unfold own_fr
  generalize k.toInt64 * dl.toInt64 = x at *
  generalize k.toInt * dl.toInt = y at *
  have e4 := c_ladd x 1
  have e4a := Int64.le_toInt (x + 1)
  have e4b := Int64.toInt_lt (x + 1)
  have k1 : (1 : Int64).toInt = 1 := rfl
  have k2 : (16777216 : Int64).toInt = 16777216 := rfl
  generalize x + 1 = z at *
  have e5 := c_l2i z
  have e5a := Int32.le_toInt z.toInt32
  have e5b := Int32.toInt_lt z.toInt32
  rw [Int64.lt_iff_toInt_lt]
  exact ⟨by omega, by omega⟩
theorem own_one (dl : Int32) (h1 : 0 ≤ dl.toInt) : own_fr (0 : Int32) dl = (1 : Int32) := by
  have k0 : (0 : Int32).toInt = 0 := rfl
  have k1 : (1 : Int32).toInt = 1 := rfl
  have := (own_w 0 dl (by omega) h1 (by rw [k0, Int.zero_mul]; omega)).2
  rw [k0, Int.zero_mul] at this
  rw [← Int32.toInt_inj]; omega
theorem own_step (k k' dl : Int32) (h0 : 0 ≤ k.toInt) (hk : k'.toInt = k.toInt + 1) (h1 : 0 ≤ dl.toInt) (hb : k'.toInt * dl.toInt ≤ 16777215) : own_fr k' dl - own_fr k dl = dl := by
  have hx : k'.toInt * dl.toInt = k.toInt * dl.toInt + dl.toInt := by rw [hk, Int.add_mul, Int.one_mul]
  have a1 := (own_w k' dl (by omega) h1 hb).2
  have a2 := (own_w k dl h0 h1 (by omega)).2
  have e := c_isub (own_fr k' dl) (own_fr k dl)
  have ea := Int32.le_toInt (own_fr k' dl - own_fr k dl)
  have eb := Int32.toInt_lt (own_fr k' dl - own_fr k dl)
  have dlb := Int32.toInt_lt dl
  generalize k'.toInt * dl.toInt = y at *
  generalize k.toInt * dl.toInt = z at *
  rw [← Int32.toInt_inj]; omega
theorem own_five (x : Int32) (dk : Int32) (h : dk = ((x &&& (2147483647 : Int32)) - ((x &&& (2147483647 : Int32)) / (5 : Int32)) * (5 : Int32))) : dk = (0 : Int32) ∨ dk = (1 : Int32) ∨ dk = (2 : Int32) ∨ dk = (3 : Int32) ∨ dk = (4 : Int32) := by
  have hm : (x &&& (2147483647 : Int32)).toInt = x.toInt % (2 ^ 31 : Nat) := c_mask x _ 31 (by decide) (by decide)
  generalize x &&& (2147483647 : Int32) = y at h hm
  rw [irem_eq_mod] at h
  have e := (c_irem y 5 5 rfl).1 (by omega)
  rw [← h] at e
  have k0 : (0 : Int32).toInt = 0 := rfl
  have k1 : (1 : Int32).toInt = 1 := rfl
  have k2 : (2 : Int32).toInt = 2 := rfl
  have k3 : (3 : Int32).toInt = 3 := rfl
  have k4 : (4 : Int32).toInt = 4 := rfl
  simp only [← Int32.toInt_inj]; omega
theorem own_raw (x : Int32) : 0 ≤ (x &&& (2147483647 : Int32)).toInt := by
  have hm : (x &&& (2147483647 : Int32)).toInt = x.toInt % (2 ^ 31 : Nat) := c_mask x _ 31 (by decide) (by decide)
  omega
theorem own_dl (x b : Int32) (B : Int) (hb : b.toInt = B) (hB : 0 < B) : 0 ≤ ((x &&& (2147483647 : Int32)) - ((x &&& (2147483647 : Int32)) / b) * b).toInt ∧ ((x &&& (2147483647 : Int32)) - ((x &&& (2147483647 : Int32)) / b) * b).toInt < B := by
  have h := own_raw x
  generalize x &&& (2147483647 : Int32) = y at *
  rw [irem_eq_mod]
  have e := (c_irem y b B hb).1 h
  have := Int.emod_nonneg y.toInt (show B ≠ 0 by omega)
  have := Int.emod_lt_of_pos y.toInt hB
  omega
theorem pn_1 : plainName "com/example/orrery/orrery/Program" = true := by first | (simp [plainName, overriddenIn]; done) | decide +kernel
theorem ef_1 (m : MethodId) (x0 : Int32) (x1 : Int32) : entryFrame m #[(.int x0), (.int x1)] 6 = mkF m 0 #[.val (.int x0), .val (.int x1), .unset, .unset, .unset, .unset] [] := by first | (simp [entryFrame, mkF, argsToLocals, Value.category]; done) | rfl
def Q_rd0 (Z : State) (p2 : Int32) (h0 : Heap) (n0 : Nat) (v : Option Value) (h : Heap) (L : List Loc) : Prop := ∃ b kA, v = some (.ref b) ∧ Fr n0 L ∧ Keep h0 h [] ∧ h0.size ≤ b ∧ Arv Z h b kA .int (0 : Int32) [] (.int (0 : Int32))
theorem d1_0 : decode prog_25_method_3_code 0 = .ok (.iload_n 1, 1) := by decide +kernel
theorem d1_1 : decode prog_25_method_3_code 1 = .ok (.ifCond .ge 17, 3) := by decide +kernel
theorem d1_18 : decode prog_25_method_3_code 18 = .ok (.iload_n 0, 1) := by decide +kernel
theorem d1_19 : decode prog_25_method_3_code 19 = .ok (.newarray .int, 2) := by decide +kernel
theorem d1_21 : decode prog_25_method_3_code 21 = .ok (.astore_n 2, 1) := by decide +kernel
theorem d1_22 : decode prog_25_method_3_code 22 = .ok (.iconst 1, 1) := by decide +kernel
theorem d1_23 : decode prog_25_method_3_code 23 = .ok (.istore_n 3, 1) := by decide +kernel
theorem d1_24 : decode prog_25_method_3_code 24 = .ok (.iload_n 3, 1) := by decide +kernel
theorem d1_25 : decode prog_25_method_3_code 25 = .ok (.iload_n 0, 1) := by decide +kernel
theorem d1_26 : decode prog_25_method_3_code 26 = .ok (.if_icmp .gt 41, 3) := by decide +kernel
theorem d1_67 : decode prog_25_method_3_code 67 = .ok (.aload_n 2, 1) := by decide +kernel
theorem d1_68 : decode prog_25_method_3_code 68 = .ok (.areturn, 1) := by decide +kernel
set_option maxRecDepth 65536 in
set_option maxHeartbeats 40000000 in
theorem rd0 (l : Launch) (Z : State) (a0 : Array Value) (hw : ∀ d ∈ tables_1, d.before a0 Z = true) (ws : List Jvm.Cond) (p2 : Int32) (h0 : Heap) (n0 : Nat) (Z0 : n0 ≤ h0.size) (hd : ¬ (p2 < (0 : Int32))) :
    MetFree l (⟨"com/example/orrery/orrery/Program", "deltaFreqs", "(II)[I"⟩ : MethodName) (head1 (Jvm.Cond.code (⟨"com/example/orrery/orrery/Program", "deltaFreqs", "(II)[I"⟩ : MethodName) prog_25_method_3_code 6 (some (.array .int)) :: ws) ({ frames := 0, cells := 1, slots := 0, locals := 0 } : Room)) (fun a U => a = #[(.int (0 : Int32)), (.int p2)] ∧ Z.Warmed39 U.vm ∧ U.heap = h0) (fun _ _ _ _ _ => True) (fun _ U o U' => ∃ v L, o = .returned v ∧ Q_rd0 Z p2 h0 n0 v U'.heap L ∧ FrameEnd U o U' L ({ frames := 0, cells := 1, slots := 0, locals := 0 } : Room).cells ({ frames := 0, cells := 1, slots := 0, locals := 0 } : Room).slots) := by
  refine MetFree.of_bodySF (plainFor_of_name pn_1) hisR ?_
  intro p e s m args below meth c s₁ Bd hml0 hP hK
  obtain ⟨rfl, hZ, hh⟩ := hP
  have hx := Bd.exec
  have hby := Bd.bytes
  have hml : c.maxLocals = 6 := hml0
  have hown : s.vm.findClass "com/example/orrery/orrery/Program" = some m.cls := findClass_of_methodNamed Bd.named
  have hnm := (name_of_methodNamed Bd.named Bd.method).1
  have X0 : Stand p l e ({ frames := 0, cells := 1, slots := 0, locals := 0 } : Room) s m #[(.int (0 : Int32)), (.int p2)] below meth c s₁ [] 0 0 := Stand.of_body Bd
  have e0 : s₁.heap = h0 := by rw [← hh, Bd.state]; rfl
  have N0 := Fr.nil n0
  refine own_go (g' := (mkF m 0 #[.val (.int (0 : Int32)), .val (.int p2), .unset, .unset, .unset, .unset] [])) (fun t k => castTop (ef_1 m ((0 : Int32)) (p2)) k) ?_
  refine own_go (T' := s₁) (g' := (mkF m 19 #[.val (.int (0 : Int32)), .val (.int p2), .unset, .unset, .unset, .unset] [(.int (0 : Int32))])) (fun t kt => ?_) ?_
  · show Steps p.tables e below (s₁.setTop (mkF m 0 #[.val (.int (0 : Int32)), .val (.int p2), .unset, .unset, .unset, .unset] [])) t
    refine XS.iloadN X0.here hx rfl (hb hby d1_0) rfl ?_
    show Steps p.tables e below (s₁.setTop (mkF m 1 #[.val (.int (0 : Int32)), .val (.int p2), .unset, .unset, .unset, .unset] [(.int p2)])) t
    refine XS.ifYes X0.here hx rfl (pc0 := 1) (pc' := 18) rfl (hb hby d1_1) rfl ((if0 _ _).trans (flt (hd : ¬ (p2 < (0 : Int32)))).2.1) (by decide) (by decide) ?_
    show Steps p.tables e below (s₁.setTop (mkF m 18 #[.val (.int (0 : Int32)), .val (.int p2), .unset, .unset, .unset, .unset] [])) t
    refine XS.iloadN X0.here hx rfl (hb hby d1_18) rfl ?_
    exact kt
  obtain ⟨T_1, h_1, k_1, X_1, e_1, E_1, A_1, B_1, st_1⟩ := newPE X0 hx hZ (hw _ (List.mem_of_getElem? (i := 5) rfl)) e0 (g := (mkF m 19 #[.val (.int (0 : Int32)), .val (.int p2), .unset, .unset, .unset, .unset] [(.int (0 : Int32))])) rfl (hb hby d1_19) rfl (by decide) (cap := 0) (by decide) (by decide) (by decide) (by decide) (ad := "[I") (by decide)
  obtain ⟨b_1, g_1⟩ : ∃ z, z = h0.size := ⟨_, rfl⟩
  rw [← g_1] at A_1 B_1 st_1
  have g_b_1 : n0 ≤ b_1 := Nat.le_trans Z0 (Nat.le_of_eq g_1.symm)
  have sz_b_1 : h0.size ≤ b_1 := Nat.le_trans (Keep.refl h0 []).1 (Nat.le_of_eq g_1.symm)
  have Z_1 : n0 ≤ h_1.size := Nat.le_trans Z0 E_1.1
  have kk_1 : Keep h0 h_1 [] := (Keep.refl h0 []).ext E_1
  have V_1 : Arv Z h_1 b_1 k_1 .int (0 : Int32) [] (.int (0 : Int32)) := (Arv.new A_1 (by decide)).pad (pad_rep [] (.int (0 : Int32)) 0)
  refine own_go (g' := (mkF m 21 #[.val (.int (0 : Int32)), .val (.int p2), .unset, .unset, .unset, .unset] [(.ref b_1)])) st_1 ?_
  refine own_go (T' := T_1) (g' := (mkF m 68 #[.val (.int (0 : Int32)), .val (.int p2), .val (.ref b_1), .val (.int (1 : Int32)), .unset, .unset] [(.ref b_1)])) (fun t kt => ?_) ?_
  · show Steps p.tables e below (T_1.setTop (mkF m 21 #[.val (.int (0 : Int32)), .val (.int p2), .unset, .unset, .unset, .unset] [(.ref b_1)])) t
    refine XS.astoreN X_1.here hx rfl (hb hby d1_21) rfl rfl (l' := #[.val (.int (0 : Int32)), .val (.int p2), .val (.ref b_1), .unset, .unset, .unset]) rfl ?_
    show Steps p.tables e below (T_1.setTop (mkF m 22 #[.val (.int (0 : Int32)), .val (.int p2), .val (.ref b_1), .unset, .unset, .unset] [])) t
    refine XS.iconst X_1.here hx rfl (hb hby d1_22) ?_
    show Steps p.tables e below (T_1.setTop (mkF m 23 #[.val (.int (0 : Int32)), .val (.int p2), .val (.ref b_1), .unset, .unset, .unset] [(.int (1 : Int32))])) t
    refine XS.istoreN X_1.here hx rfl (hb hby d1_23) rfl (l' := #[.val (.int (0 : Int32)), .val (.int p2), .val (.ref b_1), .val (.int (1 : Int32)), .unset, .unset]) rfl ?_
    show Steps p.tables e below (T_1.setTop (mkF m 24 #[.val (.int (0 : Int32)), .val (.int p2), .val (.ref b_1), .val (.int (1 : Int32)), .unset, .unset] [])) t
    refine XS.iloadN X_1.here hx rfl (hb hby d1_24) rfl ?_
    show Steps p.tables e below (T_1.setTop (mkF m 25 #[.val (.int (0 : Int32)), .val (.int p2), .val (.ref b_1), .val (.int (1 : Int32)), .unset, .unset] [(.int (1 : Int32))])) t
    refine XS.iloadN X_1.here hx rfl (hb hby d1_25) rfl ?_
    show Steps p.tables e below (T_1.setTop (mkF m 26 #[.val (.int (0 : Int32)), .val (.int p2), .val (.ref b_1), .val (.int (1 : Int32)), .unset, .unset] [(.int (0 : Int32)), (.int (1 : Int32))])) t
    refine XS.icmpYes X_1.here hx rfl (pc0 := 26) (pc' := 67) rfl (hb hby d1_26) rfl (tlt (by decide : (0 : Int32) < (1 : Int32))).2.2.1 (by decide) (by decide) ?_
    show Steps p.tables e below (T_1.setTop (mkF m 67 #[.val (.int (0 : Int32)), .val (.int p2), .val (.ref b_1), .val (.int (1 : Int32)), .unset, .unset] [])) t
    refine XS.aloadN X_1.here hx rfl (hb hby d1_67) rfl rfl ?_
    exact kt
  obtain ⟨fs, hr, hrun, hended, hW, hsame⟩ := X_1.leave (v := some (.ref b_1)) (fun h => by rw [Bd.returns] at h; cases h)
  refine ⟨_, _, ?_, hrun, hended, _, _, rfl, ?_, ⟨_, rfl⟩, hW, hsame.mono (by decide) (by decide)⟩
  · show Steps p.tables e below (T_1.setTop (mkF m 68 #[.val (.int (0 : Int32)), .val (.int p2), .val (.ref b_1), .val (.int (1 : Int32)), .unset, .unset] [(.ref b_1)])) _
    jvm_step X_1.here [X_1.here.top, hx, (hb hby d1_68), X_1.method', Bd.returns, Value.isRef, FieldType.isReference]
    first | (intro acts; rw [hr _ acts rfl rfl rfl]) | rw [hr _ _ rfl rfl rfl]
    exact Steps.refl _
  · show Q_rd0 Z _ h0 n0 _ T_1.heap _
    rw [e_1]
    exact ⟨_, _, rfl, N0, kk_1, sz_b_1, V_1⟩
def Q_rd1 (Z : State) (p2 : Int32) (h0 : Heap) (n0 : Nat) (v : Option Value) (h : Heap) (L : List Loc) : Prop := ∃ b kA, v = some (.ref b) ∧ Fr n0 L ∧ Keep h0 h [] ∧ h0.size ≤ b ∧ Arv Z h b kA .int (1 : Int32) [(.int (own_fr (0 : Int32) p2))] (.int (0 : Int32))
theorem d1_29 : decode prog_25_method_3_code 29 = .ok (.iload_n 0, 1) := by decide +kernel
theorem d1_30 : decode prog_25_method_3_code 30 = .ok (.iload_n 3, 1) := by decide +kernel
theorem d1_31 : decode prog_25_method_3_code 31 = .ok (.isub, 1) := by decide +kernel
theorem d1_32 : decode prog_25_method_3_code 32 = .ok (.i2l, 1) := by decide +kernel
theorem d1_33 : decode prog_25_method_3_code 33 = .ok (.iload_n 1, 1) := by decide +kernel
theorem d1_34 : decode prog_25_method_3_code 34 = .ok (.i2l, 1) := by decide +kernel
theorem d1_35 : decode prog_25_method_3_code 35 = .ok (.lmul, 1) := by decide +kernel
theorem d1_36 : decode prog_25_method_3_code 36 = .ok (.lconst 1, 1) := by decide +kernel
theorem d1_37 : decode prog_25_method_3_code 37 = .ok (.ladd, 1) := by decide +kernel
theorem d1_38 : decode prog_25_method_3_code 38 = .ok (.lstore 4, 2) := by decide +kernel
theorem d1_40 : decode prog_25_method_3_code 40 = .ok (.lload 4, 2) := by decide +kernel
theorem d1_42 : decode prog_25_method_3_code 42 = .ok (.ldc2_w 59, 3) := by decide +kernel
theorem d1_45 : decode prog_25_method_3_code 45 = .ok (.lcmp, 1) := by decide +kernel
theorem d1_46 : decode prog_25_method_3_code 46 = .ok (.ifCond .le 7, 3) := by decide +kernel
theorem d1_53 : decode prog_25_method_3_code 53 = .ok (.aload_n 2, 1) := by decide +kernel
theorem d1_54 : decode prog_25_method_3_code 54 = .ok (.iload_n 3, 1) := by decide +kernel
theorem d1_55 : decode prog_25_method_3_code 55 = .ok (.iconst 1, 1) := by decide +kernel
theorem d1_56 : decode prog_25_method_3_code 56 = .ok (.isub, 1) := by decide +kernel
theorem d1_57 : decode prog_25_method_3_code 57 = .ok (.lload 4, 2) := by decide +kernel
theorem d1_59 : decode prog_25_method_3_code 59 = .ok (.l2i, 1) := by decide +kernel
theorem d1_60 : decode prog_25_method_3_code 60 = .ok (.iastore, 1) := by decide +kernel
theorem d1_61 : decode prog_25_method_3_code 61 = .ok (.iinc 3 1, 3) := by decide +kernel
theorem d1_64 : decode prog_25_method_3_code 64 = .ok (.goto (-40), 3) := by decide +kernel
set_option maxRecDepth 65536 in
set_option maxHeartbeats 40000000 in
theorem rd1 (l : Launch) (Z : State) (a0 : Array Value) (hw : ∀ d ∈ tables_1, d.before a0 Z = true) (ws : List Jvm.Cond) (p2 : Int32) (h0 : Heap) (n0 : Nat) (Z0 : n0 ≤ h0.size) (hd : ¬ (p2 < (0 : Int32))) (h1 : 0 ≤ p2.toInt) :
    MetFree l (⟨"com/example/orrery/orrery/Program", "deltaFreqs", "(II)[I"⟩ : MethodName) (head1 (Jvm.Cond.code (⟨"com/example/orrery/orrery/Program", "deltaFreqs", "(II)[I"⟩ : MethodName) prog_25_method_3_code 6 (some (.array .int)) :: ws) ({ frames := 0, cells := 1, slots := 1, locals := 0 } : Room)) (fun a U => a = #[(.int (1 : Int32)), (.int p2)] ∧ Z.Warmed39 U.vm ∧ U.heap = h0) (fun _ _ _ _ _ => True) (fun _ U o U' => ∃ v L, o = .returned v ∧ Q_rd1 Z p2 h0 n0 v U'.heap L ∧ FrameEnd U o U' L ({ frames := 0, cells := 1, slots := 1, locals := 0 } : Room).cells ({ frames := 0, cells := 1, slots := 1, locals := 0 } : Room).slots) := by
  refine MetFree.of_bodySF (plainFor_of_name pn_1) hisR ?_
  intro p e s m args below meth c s₁ Bd hml0 hP hK
  obtain ⟨rfl, hZ, hh⟩ := hP
  have hx := Bd.exec
  have hby := Bd.bytes
  have hml : c.maxLocals = 6 := hml0
  have hown : s.vm.findClass "com/example/orrery/orrery/Program" = some m.cls := findClass_of_methodNamed Bd.named
  have hnm := (name_of_methodNamed Bd.named Bd.method).1
  have X0 : Stand p l e ({ frames := 0, cells := 1, slots := 1, locals := 0 } : Room) s m #[(.int (1 : Int32)), (.int p2)] below meth c s₁ [] 0 0 := Stand.of_body Bd
  have e0 : s₁.heap = h0 := by rw [← hh, Bd.state]; rfl
  have N0 := Fr.nil n0
  refine own_go (g' := (mkF m 0 #[.val (.int (1 : Int32)), .val (.int p2), .unset, .unset, .unset, .unset] [])) (fun t k => castTop (ef_1 m ((1 : Int32)) (p2)) k) ?_
  refine own_go (T' := s₁) (g' := (mkF m 19 #[.val (.int (1 : Int32)), .val (.int p2), .unset, .unset, .unset, .unset] [(.int (1 : Int32))])) (fun t kt => ?_) ?_
  · show Steps p.tables e below (s₁.setTop (mkF m 0 #[.val (.int (1 : Int32)), .val (.int p2), .unset, .unset, .unset, .unset] [])) t
    refine XS.iloadN X0.here hx rfl (hb hby d1_0) rfl ?_
    show Steps p.tables e below (s₁.setTop (mkF m 1 #[.val (.int (1 : Int32)), .val (.int p2), .unset, .unset, .unset, .unset] [(.int p2)])) t
    refine XS.ifYes X0.here hx rfl (pc0 := 1) (pc' := 18) rfl (hb hby d1_1) rfl ((if0 _ _).trans (flt (hd : ¬ (p2 < (0 : Int32)))).2.1) (by decide) (by decide) ?_
    show Steps p.tables e below (s₁.setTop (mkF m 18 #[.val (.int (1 : Int32)), .val (.int p2), .unset, .unset, .unset, .unset] [])) t
    refine XS.iloadN X0.here hx rfl (hb hby d1_18) rfl ?_
    exact kt
  obtain ⟨T_1, h_1, k_1, X_1, e_1, E_1, A_1, B_1, st_1⟩ := newPE X0 hx hZ (hw _ (List.mem_of_getElem? (i := 5) rfl)) e0 (g := (mkF m 19 #[.val (.int (1 : Int32)), .val (.int p2), .unset, .unset, .unset, .unset] [(.int (1 : Int32))])) rfl (hb hby d1_19) rfl (by decide) (cap := 1) (by decide) (by decide) (by decide) (by decide) (ad := "[I") (by decide)
  obtain ⟨b_1, g_1⟩ : ∃ z, z = h0.size := ⟨_, rfl⟩
  rw [← g_1] at A_1 B_1 st_1
  have g_b_1 : n0 ≤ b_1 := Nat.le_trans Z0 (Nat.le_of_eq g_1.symm)
  have sz_b_1 : h0.size ≤ b_1 := Nat.le_trans (Keep.refl h0 []).1 (Nat.le_of_eq g_1.symm)
  have Z_1 : n0 ≤ h_1.size := Nat.le_trans Z0 E_1.1
  have kk_1 : Keep h0 h_1 [] := (Keep.refl h0 []).ext E_1
  have V_1 : Arv Z h_1 b_1 k_1 .int (1 : Int32) [(.int (0 : Int32))] (.int (0 : Int32)) := (Arv.new A_1 (by decide)).pad (pad_rep [] (.int (0 : Int32)) 1)
  refine own_go (g' := (mkF m 21 #[.val (.int (1 : Int32)), .val (.int p2), .unset, .unset, .unset, .unset] [(.ref b_1)])) st_1 ?_
  refine own_go (T' := T_1) (g' := (mkF m 60 #[.val (.int (1 : Int32)), .val (.int p2), .val (.ref b_1), .val (.int (1 : Int32)), .val (.long ((((0 : Int32).toInt64) * (p2.toInt64)) + (1 : Int64))), .second] [(.int (((((0 : Int32).toInt64) * (p2.toInt64)) + (1 : Int64)).toInt32)), (.int (0 : Int32)), (.ref b_1)])) (fun t kt => ?_) ?_
  · show Steps p.tables e below (T_1.setTop (mkF m 21 #[.val (.int (1 : Int32)), .val (.int p2), .unset, .unset, .unset, .unset] [(.ref b_1)])) t
    refine XS.astoreN X_1.here hx rfl (hb hby d1_21) rfl rfl (l' := #[.val (.int (1 : Int32)), .val (.int p2), .val (.ref b_1), .unset, .unset, .unset]) rfl ?_
    show Steps p.tables e below (T_1.setTop (mkF m 22 #[.val (.int (1 : Int32)), .val (.int p2), .val (.ref b_1), .unset, .unset, .unset] [])) t
    refine XS.iconst X_1.here hx rfl (hb hby d1_22) ?_
    show Steps p.tables e below (T_1.setTop (mkF m 23 #[.val (.int (1 : Int32)), .val (.int p2), .val (.ref b_1), .unset, .unset, .unset] [(.int (1 : Int32))])) t
    refine XS.istoreN X_1.here hx rfl (hb hby d1_23) rfl (l' := #[.val (.int (1 : Int32)), .val (.int p2), .val (.ref b_1), .val (.int (1 : Int32)), .unset, .unset]) rfl ?_
    show Steps p.tables e below (T_1.setTop (mkF m 24 #[.val (.int (1 : Int32)), .val (.int p2), .val (.ref b_1), .val (.int (1 : Int32)), .unset, .unset] [])) t
    refine XS.iloadN X_1.here hx rfl (hb hby d1_24) rfl ?_
    show Steps p.tables e below (T_1.setTop (mkF m 25 #[.val (.int (1 : Int32)), .val (.int p2), .val (.ref b_1), .val (.int (1 : Int32)), .unset, .unset] [(.int (1 : Int32))])) t
    refine XS.iloadN X_1.here hx rfl (hb hby d1_25) rfl ?_
    show Steps p.tables e below (T_1.setTop (mkF m 26 #[.val (.int (1 : Int32)), .val (.int p2), .val (.ref b_1), .val (.int (1 : Int32)), .unset, .unset] [(.int (1 : Int32)), (.int (1 : Int32))])) t
    refine XS.icmpNo X_1.here hx rfl (hb hby d1_26) rfl (flt (by decide : ¬ ((1 : Int32) < (1 : Int32)))).2.2.1 ?_
    show Steps p.tables e below (T_1.setTop (mkF m 29 #[.val (.int (1 : Int32)), .val (.int p2), .val (.ref b_1), .val (.int (1 : Int32)), .unset, .unset] [])) t
    refine XS.iloadN X_1.here hx rfl (hb hby d1_29) rfl ?_
    show Steps p.tables e below (T_1.setTop (mkF m 30 #[.val (.int (1 : Int32)), .val (.int p2), .val (.ref b_1), .val (.int (1 : Int32)), .unset, .unset] [(.int (1 : Int32))])) t
    refine XS.iloadN X_1.here hx rfl (hb hby d1_30) rfl ?_
    show Steps p.tables e below (T_1.setTop (mkF m 31 #[.val (.int (1 : Int32)), .val (.int p2), .val (.ref b_1), .val (.int (1 : Int32)), .unset, .unset] [(.int (1 : Int32)), (.int (1 : Int32))])) t
    refine XS.isub X_1.here hx rfl (hb hby d1_31) rfl ?_
    show Steps p.tables e below (T_1.setTop (mkF m 32 #[.val (.int (1 : Int32)), .val (.int p2), .val (.ref b_1), .val (.int (1 : Int32)), .unset, .unset] [(.int (0 : Int32))])) t
    refine XS.i2l X_1.here hx rfl (hb hby d1_32) rfl ?_
    show Steps p.tables e below (T_1.setTop (mkF m 33 #[.val (.int (1 : Int32)), .val (.int p2), .val (.ref b_1), .val (.int (1 : Int32)), .unset, .unset] [(.long ((0 : Int32).toInt64))])) t
    refine XS.iloadN X_1.here hx rfl (hb hby d1_33) rfl ?_
    show Steps p.tables e below (T_1.setTop (mkF m 34 #[.val (.int (1 : Int32)), .val (.int p2), .val (.ref b_1), .val (.int (1 : Int32)), .unset, .unset] [(.int p2), (.long ((0 : Int32).toInt64))])) t
    refine XS.i2l X_1.here hx rfl (hb hby d1_34) rfl ?_
    show Steps p.tables e below (T_1.setTop (mkF m 35 #[.val (.int (1 : Int32)), .val (.int p2), .val (.ref b_1), .val (.int (1 : Int32)), .unset, .unset] [(.long (p2.toInt64)), (.long ((0 : Int32).toInt64))])) t
    refine XS.lmul X_1.here hx rfl (hb hby d1_35) rfl ?_
    show Steps p.tables e below (T_1.setTop (mkF m 36 #[.val (.int (1 : Int32)), .val (.int p2), .val (.ref b_1), .val (.int (1 : Int32)), .unset, .unset] [(.long (((0 : Int32).toInt64) * (p2.toInt64)))])) t
    refine XS.lconst X_1.here hx rfl (hb hby d1_36) ?_
    show Steps p.tables e below (T_1.setTop (mkF m 37 #[.val (.int (1 : Int32)), .val (.int p2), .val (.ref b_1), .val (.int (1 : Int32)), .unset, .unset] [(.long (1 : Int64)), (.long (((0 : Int32).toInt64) * (p2.toInt64)))])) t
    refine XS.ladd X_1.here hx rfl (hb hby d1_37) rfl ?_
    show Steps p.tables e below (T_1.setTop (mkF m 38 #[.val (.int (1 : Int32)), .val (.int p2), .val (.ref b_1), .val (.int (1 : Int32)), .unset, .unset] [(.long ((((0 : Int32).toInt64) * (p2.toInt64)) + (1 : Int64)))])) t
    refine XS.lstore X_1.here hx rfl (hb hby d1_38) rfl (l' := #[.val (.int (1 : Int32)), .val (.int p2), .val (.ref b_1), .val (.int (1 : Int32)), .val (.long ((((0 : Int32).toInt64) * (p2.toInt64)) + (1 : Int64))), .second]) rfl ?_
    show Steps p.tables e below (T_1.setTop (mkF m 40 #[.val (.int (1 : Int32)), .val (.int p2), .val (.ref b_1), .val (.int (1 : Int32)), .val (.long ((((0 : Int32).toInt64) * (p2.toInt64)) + (1 : Int64))), .second] [])) t
    refine XS.lload X_1.here hx rfl (hb hby d1_40) rfl ?_
    show Steps p.tables e below (T_1.setTop (mkF m 42 #[.val (.int (1 : Int32)), .val (.int p2), .val (.ref b_1), .val (.int (1 : Int32)), .val (.long ((((0 : Int32).toInt64) * (p2.toInt64)) + (1 : Int64))), .second] [(.long ((((0 : Int32).toInt64) * (p2.toInt64)) + (1 : Int64)))])) t
    refine X_1.ldc2Long hx hown (mvT hZ (hw _ (List.mem_of_getElem? (i := 7) rfl))) (g := (mkF m 42 #[.val (.int (1 : Int32)), .val (.int p2), .val (.ref b_1), .val (.int (1 : Int32)), .val (.long ((((0 : Int32).toInt64) * (p2.toInt64)) + (1 : Int64))), .second] [(.long ((((0 : Int32).toInt64) * (p2.toInt64)) + (1 : Int64)))])) rfl (hb hby d1_42) _ ?_
    show Steps p.tables e below (T_1.setTop (mkF m 45 #[.val (.int (1 : Int32)), .val (.int p2), .val (.ref b_1), .val (.int (1 : Int32)), .val (.long ((((0 : Int32).toInt64) * (p2.toInt64)) + (1 : Int64))), .second] [(.long (16777216 : Int64)), (.long ((((0 : Int32).toInt64) * (p2.toInt64)) + (1 : Int64)))])) t
    refine XS.lcmp X_1.here hx rfl (hb hby d1_45) rfl ?_
    show Steps p.tables e below (T_1.setTop (mkF m 46 #[.val (.int (1 : Int32)), .val (.int p2), .val (.ref b_1), .val (.int (1 : Int32)), .val (.long ((((0 : Int32).toInt64) * (p2.toInt64)) + (1 : Int64))), .second] [(.int (lcmpW ((((0 : Int32).toInt64) * (p2.toInt64)) + (1 : Int64)) (16777216 : Int64)))])) t
    refine XS.ifYes X_1.here hx rfl (pc0 := 46) (pc' := 53) rfl (hb hby d1_46) rfl ((if0 _ _).trans (flt (fun q => ((own_w (0 : Int32) p2 (by decide) h1 (by show (0 : Int) * p2.toInt ≤ 16777215; omega)).1 : ¬ ((16777216 : Int64) < ((((0 : Int32).toInt64) * (p2.toInt64)) + (1 : Int64)))) ((lw_gt _ _).mp q))).2.2.2) (by decide) (by decide) ?_
    show Steps p.tables e below (T_1.setTop (mkF m 53 #[.val (.int (1 : Int32)), .val (.int p2), .val (.ref b_1), .val (.int (1 : Int32)), .val (.long ((((0 : Int32).toInt64) * (p2.toInt64)) + (1 : Int64))), .second] [])) t
    refine XS.aloadN X_1.here hx rfl (hb hby d1_53) rfl rfl ?_
    show Steps p.tables e below (T_1.setTop (mkF m 54 #[.val (.int (1 : Int32)), .val (.int p2), .val (.ref b_1), .val (.int (1 : Int32)), .val (.long ((((0 : Int32).toInt64) * (p2.toInt64)) + (1 : Int64))), .second] [(.ref b_1)])) t
    refine XS.iloadN X_1.here hx rfl (hb hby d1_54) rfl ?_
    show Steps p.tables e below (T_1.setTop (mkF m 55 #[.val (.int (1 : Int32)), .val (.int p2), .val (.ref b_1), .val (.int (1 : Int32)), .val (.long ((((0 : Int32).toInt64) * (p2.toInt64)) + (1 : Int64))), .second] [(.int (1 : Int32)), (.ref b_1)])) t
    refine XS.iconst X_1.here hx rfl (hb hby d1_55) ?_
    show Steps p.tables e below (T_1.setTop (mkF m 56 #[.val (.int (1 : Int32)), .val (.int p2), .val (.ref b_1), .val (.int (1 : Int32)), .val (.long ((((0 : Int32).toInt64) * (p2.toInt64)) + (1 : Int64))), .second] [(.int (1 : Int32)), (.int (1 : Int32)), (.ref b_1)])) t
    refine XS.isub X_1.here hx rfl (hb hby d1_56) rfl ?_
    show Steps p.tables e below (T_1.setTop (mkF m 57 #[.val (.int (1 : Int32)), .val (.int p2), .val (.ref b_1), .val (.int (1 : Int32)), .val (.long ((((0 : Int32).toInt64) * (p2.toInt64)) + (1 : Int64))), .second] [(.int (0 : Int32)), (.ref b_1)])) t
    refine XS.lload X_1.here hx rfl (hb hby d1_57) rfl ?_
    show Steps p.tables e below (T_1.setTop (mkF m 59 #[.val (.int (1 : Int32)), .val (.int p2), .val (.ref b_1), .val (.int (1 : Int32)), .val (.long ((((0 : Int32).toInt64) * (p2.toInt64)) + (1 : Int64))), .second] [(.long ((((0 : Int32).toInt64) * (p2.toInt64)) + (1 : Int64))), (.int (0 : Int32)), (.ref b_1)])) t
    refine XS.l2i X_1.here hx rfl (hb hby d1_59) rfl ?_
    exact kt
  have vq_2 := V_1
  obtain ⟨c_2, a_2, q_2, s_2, m_2, H_2, G_2⟩ := vq_2
  have hin_2 : ¬ ((0 : Int32) < 0 ∨ c_2.slots.size ≤ ((0 : Int32)).toNatClampNeg) := inb_of s_2 ⟨by decide, by decide⟩
  obtain ⟨T_2, h_2, X_2, e_2, W_2, st_2⟩ := stI X_1 hx hZ e_1 a_2 (j := (0 : Int32)) hin_2 (g := (mkF m 60 #[.val (.int (1 : Int32)), .val (.int p2), .val (.ref b_1), .val (.int (1 : Int32)), .val (.long ((((0 : Int32).toInt64) * (p2.toInt64)) + (1 : Int64))), .second] [(.int (((((0 : Int32).toInt64) * (p2.toInt64)) + (1 : Int64)).toInt32)), (.int (0 : Int32)), (.ref b_1)])) rfl rfl (hb hby d1_60)
  have V_2 : Arv Z h_2 b_1 k_1 .int (1 : Int32) [(.int (((((0 : Int32).toInt64) * (p2.toInt64)) + (1 : Int64)).toInt32))] (.int (0 : Int32)) := Arv.set a_2 q_2 s_2 m_2 H_2 G_2 rfl W_2 0 rfl (Nat.le_of_ble_eq_true rfl)
  have Z_2 : n0 ≤ h_2.size := Nat.le_trans Z_1 (Keep.of_wr W_2).1
  have kk_2 : Keep h0 h_2 [] := kk_1.wr W_2 (Or.inr sz_b_1)
  have N_2 := Fr.snoc X_2 N0 g_b_1
  refine own_go (g' := (mkF m 61 #[.val (.int (1 : Int32)), .val (.int p2), .val (.ref b_1), .val (.int (1 : Int32)), .val (.long ((((0 : Int32).toInt64) * (p2.toInt64)) + (1 : Int64))), .second] [])) st_2 ?_
  refine own_go (T' := T_2) (g' := (mkF m 68 #[.val (.int (1 : Int32)), .val (.int p2), .val (.ref b_1), .val (.int (2 : Int32)), .val (.long ((((0 : Int32).toInt64) * (p2.toInt64)) + (1 : Int64))), .second] [(.ref b_1)])) (fun t kt => ?_) ?_
  · show Steps p.tables e below (T_2.setTop (mkF m 61 #[.val (.int (1 : Int32)), .val (.int p2), .val (.ref b_1), .val (.int (1 : Int32)), .val (.long ((((0 : Int32).toInt64) * (p2.toInt64)) + (1 : Int64))), .second] [])) t
    refine XS.iinc X_2.here hx rfl (hb hby d1_61) rfl (l' := #[.val (.int (1 : Int32)), .val (.int p2), .val (.ref b_1), .val (.int (2 : Int32)), .val (.long ((((0 : Int32).toInt64) * (p2.toInt64)) + (1 : Int64))), .second]) rfl ?_
    show Steps p.tables e below (T_2.setTop (mkF m 64 #[.val (.int (1 : Int32)), .val (.int p2), .val (.ref b_1), .val (.int (2 : Int32)), .val (.long ((((0 : Int32).toInt64) * (p2.toInt64)) + (1 : Int64))), .second] [])) t
    refine XS.goto X_2.here hx rfl (pc0 := 64) (pc' := 24) rfl (hb hby d1_64) (by decide) (by decide) ?_
    show Steps p.tables e below (T_2.setTop (mkF m 24 #[.val (.int (1 : Int32)), .val (.int p2), .val (.ref b_1), .val (.int (2 : Int32)), .val (.long ((((0 : Int32).toInt64) * (p2.toInt64)) + (1 : Int64))), .second] [])) t
    refine XS.iloadN X_2.here hx rfl (hb hby d1_24) rfl ?_
    show Steps p.tables e below (T_2.setTop (mkF m 25 #[.val (.int (1 : Int32)), .val (.int p2), .val (.ref b_1), .val (.int (2 : Int32)), .val (.long ((((0 : Int32).toInt64) * (p2.toInt64)) + (1 : Int64))), .second] [(.int (2 : Int32))])) t
    refine XS.iloadN X_2.here hx rfl (hb hby d1_25) rfl ?_
    show Steps p.tables e below (T_2.setTop (mkF m 26 #[.val (.int (1 : Int32)), .val (.int p2), .val (.ref b_1), .val (.int (2 : Int32)), .val (.long ((((0 : Int32).toInt64) * (p2.toInt64)) + (1 : Int64))), .second] [(.int (1 : Int32)), (.int (2 : Int32))])) t
    refine XS.icmpYes X_2.here hx rfl (pc0 := 26) (pc' := 67) rfl (hb hby d1_26) rfl (tlt (by decide : (1 : Int32) < (2 : Int32))).2.2.1 (by decide) (by decide) ?_
    show Steps p.tables e below (T_2.setTop (mkF m 67 #[.val (.int (1 : Int32)), .val (.int p2), .val (.ref b_1), .val (.int (2 : Int32)), .val (.long ((((0 : Int32).toInt64) * (p2.toInt64)) + (1 : Int64))), .second] [])) t
    refine XS.aloadN X_2.here hx rfl (hb hby d1_67) rfl rfl ?_
    exact kt
  obtain ⟨fs, hr, hrun, hended, hW, hsame⟩ := X_2.leave (v := some (.ref b_1)) (fun h => by rw [Bd.returns] at h; cases h)
  refine ⟨_, _, ?_, hrun, hended, _, _, rfl, ?_, ⟨_, rfl⟩, hW, hsame.mono (by decide) (by decide)⟩
  · show Steps p.tables e below (T_2.setTop (mkF m 68 #[.val (.int (1 : Int32)), .val (.int p2), .val (.ref b_1), .val (.int (2 : Int32)), .val (.long ((((0 : Int32).toInt64) * (p2.toInt64)) + (1 : Int64))), .second] [(.ref b_1)])) _
    jvm_step X_2.here [X_2.here.top, hx, (hb hby d1_68), X_2.method', Bd.returns, Value.isRef, FieldType.isReference]
    first | (intro acts; rw [hr _ acts rfl rfl rfl]) | rw [hr _ _ rfl rfl rfl]
    exact Steps.refl _
  · show Q_rd1 Z _ h0 n0 _ T_2.heap _
    rw [e_2]
    exact ⟨_, _, rfl, N_2, kk_2, sz_b_1, V_2⟩
def Q_rd2 (Z : State) (p2 : Int32) (h0 : Heap) (n0 : Nat) (v : Option Value) (h : Heap) (L : List Loc) : Prop := ∃ b kA, v = some (.ref b) ∧ Fr n0 L ∧ Keep h0 h [] ∧ h0.size ≤ b ∧ Arv Z h b kA .int (2 : Int32) [(.int (own_fr (1 : Int32) p2)), (.int (own_fr (0 : Int32) p2))] (.int (0 : Int32))
set_option maxRecDepth 65536 in
set_option maxHeartbeats 40000000 in
theorem rd2 (l : Launch) (Z : State) (a0 : Array Value) (hw : ∀ d ∈ tables_1, d.before a0 Z = true) (ws : List Jvm.Cond) (p2 : Int32) (h0 : Heap) (n0 : Nat) (Z0 : n0 ≤ h0.size) (hd : ¬ (p2 < (0 : Int32))) (h1 : 0 ≤ p2.toInt) (hmax : (1 : Int) * p2.toInt ≤ 16777215) :
    MetFree l (⟨"com/example/orrery/orrery/Program", "deltaFreqs", "(II)[I"⟩ : MethodName) (head1 (Jvm.Cond.code (⟨"com/example/orrery/orrery/Program", "deltaFreqs", "(II)[I"⟩ : MethodName) prog_25_method_3_code 6 (some (.array .int)) :: ws) ({ frames := 0, cells := 1, slots := 2, locals := 0 } : Room)) (fun a U => a = #[(.int (2 : Int32)), (.int p2)] ∧ Z.Warmed39 U.vm ∧ U.heap = h0) (fun _ _ _ _ _ => True) (fun _ U o U' => ∃ v L, o = .returned v ∧ Q_rd2 Z p2 h0 n0 v U'.heap L ∧ FrameEnd U o U' L ({ frames := 0, cells := 1, slots := 2, locals := 0 } : Room).cells ({ frames := 0, cells := 1, slots := 2, locals := 0 } : Room).slots) := by
  refine MetFree.of_bodySF (plainFor_of_name pn_1) hisR ?_
  intro p e s m args below meth c s₁ Bd hml0 hP hK
  obtain ⟨rfl, hZ, hh⟩ := hP
  have hx := Bd.exec
  have hby := Bd.bytes
  have hml : c.maxLocals = 6 := hml0
  have hown : s.vm.findClass "com/example/orrery/orrery/Program" = some m.cls := findClass_of_methodNamed Bd.named
  have hnm := (name_of_methodNamed Bd.named Bd.method).1
  have X0 : Stand p l e ({ frames := 0, cells := 1, slots := 2, locals := 0 } : Room) s m #[(.int (2 : Int32)), (.int p2)] below meth c s₁ [] 0 0 := Stand.of_body Bd
  have e0 : s₁.heap = h0 := by rw [← hh, Bd.state]; rfl
  have N0 := Fr.nil n0
  refine own_go (g' := (mkF m 0 #[.val (.int (2 : Int32)), .val (.int p2), .unset, .unset, .unset, .unset] [])) (fun t k => castTop (ef_1 m ((2 : Int32)) (p2)) k) ?_
  refine own_go (T' := s₁) (g' := (mkF m 19 #[.val (.int (2 : Int32)), .val (.int p2), .unset, .unset, .unset, .unset] [(.int (2 : Int32))])) (fun t kt => ?_) ?_
  · show Steps p.tables e below (s₁.setTop (mkF m 0 #[.val (.int (2 : Int32)), .val (.int p2), .unset, .unset, .unset, .unset] [])) t
    refine XS.iloadN X0.here hx rfl (hb hby d1_0) rfl ?_
    show Steps p.tables e below (s₁.setTop (mkF m 1 #[.val (.int (2 : Int32)), .val (.int p2), .unset, .unset, .unset, .unset] [(.int p2)])) t
    refine XS.ifYes X0.here hx rfl (pc0 := 1) (pc' := 18) rfl (hb hby d1_1) rfl ((if0 _ _).trans (flt (hd : ¬ (p2 < (0 : Int32)))).2.1) (by decide) (by decide) ?_
    show Steps p.tables e below (s₁.setTop (mkF m 18 #[.val (.int (2 : Int32)), .val (.int p2), .unset, .unset, .unset, .unset] [])) t
    refine XS.iloadN X0.here hx rfl (hb hby d1_18) rfl ?_
    exact kt
  obtain ⟨T_1, h_1, k_1, X_1, e_1, E_1, A_1, B_1, st_1⟩ := newPE X0 hx hZ (hw _ (List.mem_of_getElem? (i := 5) rfl)) e0 (g := (mkF m 19 #[.val (.int (2 : Int32)), .val (.int p2), .unset, .unset, .unset, .unset] [(.int (2 : Int32))])) rfl (hb hby d1_19) rfl (by decide) (cap := 2) (by decide) (by decide) (by decide) (by decide) (ad := "[I") (by decide)
  obtain ⟨b_1, g_1⟩ : ∃ z, z = h0.size := ⟨_, rfl⟩
  rw [← g_1] at A_1 B_1 st_1
  have g_b_1 : n0 ≤ b_1 := Nat.le_trans Z0 (Nat.le_of_eq g_1.symm)
  have sz_b_1 : h0.size ≤ b_1 := Nat.le_trans (Keep.refl h0 []).1 (Nat.le_of_eq g_1.symm)
  have Z_1 : n0 ≤ h_1.size := Nat.le_trans Z0 E_1.1
  have kk_1 : Keep h0 h_1 [] := (Keep.refl h0 []).ext E_1
  have V_1 : Arv Z h_1 b_1 k_1 .int (2 : Int32) [(.int (0 : Int32)), (.int (0 : Int32))] (.int (0 : Int32)) := (Arv.new A_1 (by decide)).pad (pad_rep [] (.int (0 : Int32)) 2)
  refine own_go (g' := (mkF m 21 #[.val (.int (2 : Int32)), .val (.int p2), .unset, .unset, .unset, .unset] [(.ref b_1)])) st_1 ?_
  refine own_go (T' := T_1) (g' := (mkF m 60 #[.val (.int (2 : Int32)), .val (.int p2), .val (.ref b_1), .val (.int (1 : Int32)), .val (.long ((((1 : Int32).toInt64) * (p2.toInt64)) + (1 : Int64))), .second] [(.int (((((1 : Int32).toInt64) * (p2.toInt64)) + (1 : Int64)).toInt32)), (.int (0 : Int32)), (.ref b_1)])) (fun t kt => ?_) ?_
  · show Steps p.tables e below (T_1.setTop (mkF m 21 #[.val (.int (2 : Int32)), .val (.int p2), .unset, .unset, .unset, .unset] [(.ref b_1)])) t
    refine XS.astoreN X_1.here hx rfl (hb hby d1_21) rfl rfl (l' := #[.val (.int (2 : Int32)), .val (.int p2), .val (.ref b_1), .unset, .unset, .unset]) rfl ?_
    show Steps p.tables e below (T_1.setTop (mkF m 22 #[.val (.int (2 : Int32)), .val (.int p2), .val (.ref b_1), .unset, .unset, .unset] [])) t
    refine XS.iconst X_1.here hx rfl (hb hby d1_22) ?_
    show Steps p.tables e below (T_1.setTop (mkF m 23 #[.val (.int (2 : Int32)), .val (.int p2), .val (.ref b_1), .unset, .unset, .unset] [(.int (1 : Int32))])) t
    refine XS.istoreN X_1.here hx rfl (hb hby d1_23) rfl (l' := #[.val (.int (2 : Int32)), .val (.int p2), .val (.ref b_1), .val (.int (1 : Int32)), .unset, .unset]) rfl ?_
    show Steps p.tables e below (T_1.setTop (mkF m 24 #[.val (.int (2 : Int32)), .val (.int p2), .val (.ref b_1), .val (.int (1 : Int32)), .unset, .unset] [])) t
    refine XS.iloadN X_1.here hx rfl (hb hby d1_24) rfl ?_
    show Steps p.tables e below (T_1.setTop (mkF m 25 #[.val (.int (2 : Int32)), .val (.int p2), .val (.ref b_1), .val (.int (1 : Int32)), .unset, .unset] [(.int (1 : Int32))])) t
    refine XS.iloadN X_1.here hx rfl (hb hby d1_25) rfl ?_
    show Steps p.tables e below (T_1.setTop (mkF m 26 #[.val (.int (2 : Int32)), .val (.int p2), .val (.ref b_1), .val (.int (1 : Int32)), .unset, .unset] [(.int (2 : Int32)), (.int (1 : Int32))])) t
    refine XS.icmpNo X_1.here hx rfl (hb hby d1_26) rfl (flt (by decide : ¬ ((2 : Int32) < (1 : Int32)))).2.2.1 ?_
    show Steps p.tables e below (T_1.setTop (mkF m 29 #[.val (.int (2 : Int32)), .val (.int p2), .val (.ref b_1), .val (.int (1 : Int32)), .unset, .unset] [])) t
    refine XS.iloadN X_1.here hx rfl (hb hby d1_29) rfl ?_
    show Steps p.tables e below (T_1.setTop (mkF m 30 #[.val (.int (2 : Int32)), .val (.int p2), .val (.ref b_1), .val (.int (1 : Int32)), .unset, .unset] [(.int (2 : Int32))])) t
    refine XS.iloadN X_1.here hx rfl (hb hby d1_30) rfl ?_
    show Steps p.tables e below (T_1.setTop (mkF m 31 #[.val (.int (2 : Int32)), .val (.int p2), .val (.ref b_1), .val (.int (1 : Int32)), .unset, .unset] [(.int (1 : Int32)), (.int (2 : Int32))])) t
    refine XS.isub X_1.here hx rfl (hb hby d1_31) rfl ?_
    show Steps p.tables e below (T_1.setTop (mkF m 32 #[.val (.int (2 : Int32)), .val (.int p2), .val (.ref b_1), .val (.int (1 : Int32)), .unset, .unset] [(.int (1 : Int32))])) t
    refine XS.i2l X_1.here hx rfl (hb hby d1_32) rfl ?_
    show Steps p.tables e below (T_1.setTop (mkF m 33 #[.val (.int (2 : Int32)), .val (.int p2), .val (.ref b_1), .val (.int (1 : Int32)), .unset, .unset] [(.long ((1 : Int32).toInt64))])) t
    refine XS.iloadN X_1.here hx rfl (hb hby d1_33) rfl ?_
    show Steps p.tables e below (T_1.setTop (mkF m 34 #[.val (.int (2 : Int32)), .val (.int p2), .val (.ref b_1), .val (.int (1 : Int32)), .unset, .unset] [(.int p2), (.long ((1 : Int32).toInt64))])) t
    refine XS.i2l X_1.here hx rfl (hb hby d1_34) rfl ?_
    show Steps p.tables e below (T_1.setTop (mkF m 35 #[.val (.int (2 : Int32)), .val (.int p2), .val (.ref b_1), .val (.int (1 : Int32)), .unset, .unset] [(.long (p2.toInt64)), (.long ((1 : Int32).toInt64))])) t
    refine XS.lmul X_1.here hx rfl (hb hby d1_35) rfl ?_
    show Steps p.tables e below (T_1.setTop (mkF m 36 #[.val (.int (2 : Int32)), .val (.int p2), .val (.ref b_1), .val (.int (1 : Int32)), .unset, .unset] [(.long (((1 : Int32).toInt64) * (p2.toInt64)))])) t
    refine XS.lconst X_1.here hx rfl (hb hby d1_36) ?_
    show Steps p.tables e below (T_1.setTop (mkF m 37 #[.val (.int (2 : Int32)), .val (.int p2), .val (.ref b_1), .val (.int (1 : Int32)), .unset, .unset] [(.long (1 : Int64)), (.long (((1 : Int32).toInt64) * (p2.toInt64)))])) t
    refine XS.ladd X_1.here hx rfl (hb hby d1_37) rfl ?_
    show Steps p.tables e below (T_1.setTop (mkF m 38 #[.val (.int (2 : Int32)), .val (.int p2), .val (.ref b_1), .val (.int (1 : Int32)), .unset, .unset] [(.long ((((1 : Int32).toInt64) * (p2.toInt64)) + (1 : Int64)))])) t
    refine XS.lstore X_1.here hx rfl (hb hby d1_38) rfl (l' := #[.val (.int (2 : Int32)), .val (.int p2), .val (.ref b_1), .val (.int (1 : Int32)), .val (.long ((((1 : Int32).toInt64) * (p2.toInt64)) + (1 : Int64))), .second]) rfl ?_
    show Steps p.tables e below (T_1.setTop (mkF m 40 #[.val (.int (2 : Int32)), .val (.int p2), .val (.ref b_1), .val (.int (1 : Int32)), .val (.long ((((1 : Int32).toInt64) * (p2.toInt64)) + (1 : Int64))), .second] [])) t
    refine XS.lload X_1.here hx rfl (hb hby d1_40) rfl ?_
    show Steps p.tables e below (T_1.setTop (mkF m 42 #[.val (.int (2 : Int32)), .val (.int p2), .val (.ref b_1), .val (.int (1 : Int32)), .val (.long ((((1 : Int32).toInt64) * (p2.toInt64)) + (1 : Int64))), .second] [(.long ((((1 : Int32).toInt64) * (p2.toInt64)) + (1 : Int64)))])) t
    refine X_1.ldc2Long hx hown (mvT hZ (hw _ (List.mem_of_getElem? (i := 7) rfl))) (g := (mkF m 42 #[.val (.int (2 : Int32)), .val (.int p2), .val (.ref b_1), .val (.int (1 : Int32)), .val (.long ((((1 : Int32).toInt64) * (p2.toInt64)) + (1 : Int64))), .second] [(.long ((((1 : Int32).toInt64) * (p2.toInt64)) + (1 : Int64)))])) rfl (hb hby d1_42) _ ?_
    show Steps p.tables e below (T_1.setTop (mkF m 45 #[.val (.int (2 : Int32)), .val (.int p2), .val (.ref b_1), .val (.int (1 : Int32)), .val (.long ((((1 : Int32).toInt64) * (p2.toInt64)) + (1 : Int64))), .second] [(.long (16777216 : Int64)), (.long ((((1 : Int32).toInt64) * (p2.toInt64)) + (1 : Int64)))])) t
    refine XS.lcmp X_1.here hx rfl (hb hby d1_45) rfl ?_
    show Steps p.tables e below (T_1.setTop (mkF m 46 #[.val (.int (2 : Int32)), .val (.int p2), .val (.ref b_1), .val (.int (1 : Int32)), .val (.long ((((1 : Int32).toInt64) * (p2.toInt64)) + (1 : Int64))), .second] [(.int (lcmpW ((((1 : Int32).toInt64) * (p2.toInt64)) + (1 : Int64)) (16777216 : Int64)))])) t
    refine XS.ifYes X_1.here hx rfl (pc0 := 46) (pc' := 53) rfl (hb hby d1_46) rfl ((if0 _ _).trans (flt (fun q => ((own_w (1 : Int32) p2 (by decide) h1 (by show (1 : Int) * p2.toInt ≤ 16777215; omega)).1 : ¬ ((16777216 : Int64) < ((((1 : Int32).toInt64) * (p2.toInt64)) + (1 : Int64)))) ((lw_gt _ _).mp q))).2.2.2) (by decide) (by decide) ?_
    show Steps p.tables e below (T_1.setTop (mkF m 53 #[.val (.int (2 : Int32)), .val (.int p2), .val (.ref b_1), .val (.int (1 : Int32)), .val (.long ((((1 : Int32).toInt64) * (p2.toInt64)) + (1 : Int64))), .second] [])) t
    refine XS.aloadN X_1.here hx rfl (hb hby d1_53) rfl rfl ?_
    show Steps p.tables e below (T_1.setTop (mkF m 54 #[.val (.int (2 : Int32)), .val (.int p2), .val (.ref b_1), .val (.int (1 : Int32)), .val (.long ((((1 : Int32).toInt64) * (p2.toInt64)) + (1 : Int64))), .second] [(.ref b_1)])) t
    refine XS.iloadN X_1.here hx rfl (hb hby d1_54) rfl ?_
    show Steps p.tables e below (T_1.setTop (mkF m 55 #[.val (.int (2 : Int32)), .val (.int p2), .val (.ref b_1), .val (.int (1 : Int32)), .val (.long ((((1 : Int32).toInt64) * (p2.toInt64)) + (1 : Int64))), .second] [(.int (1 : Int32)), (.ref b_1)])) t
    refine XS.iconst X_1.here hx rfl (hb hby d1_55) ?_
    show Steps p.tables e below (T_1.setTop (mkF m 56 #[.val (.int (2 : Int32)), .val (.int p2), .val (.ref b_1), .val (.int (1 : Int32)), .val (.long ((((1 : Int32).toInt64) * (p2.toInt64)) + (1 : Int64))), .second] [(.int (1 : Int32)), (.int (1 : Int32)), (.ref b_1)])) t
    refine XS.isub X_1.here hx rfl (hb hby d1_56) rfl ?_
    show Steps p.tables e below (T_1.setTop (mkF m 57 #[.val (.int (2 : Int32)), .val (.int p2), .val (.ref b_1), .val (.int (1 : Int32)), .val (.long ((((1 : Int32).toInt64) * (p2.toInt64)) + (1 : Int64))), .second] [(.int (0 : Int32)), (.ref b_1)])) t
    refine XS.lload X_1.here hx rfl (hb hby d1_57) rfl ?_
    show Steps p.tables e below (T_1.setTop (mkF m 59 #[.val (.int (2 : Int32)), .val (.int p2), .val (.ref b_1), .val (.int (1 : Int32)), .val (.long ((((1 : Int32).toInt64) * (p2.toInt64)) + (1 : Int64))), .second] [(.long ((((1 : Int32).toInt64) * (p2.toInt64)) + (1 : Int64))), (.int (0 : Int32)), (.ref b_1)])) t
    refine XS.l2i X_1.here hx rfl (hb hby d1_59) rfl ?_
    exact kt
  have vq_2 := V_1
  obtain ⟨c_2, a_2, q_2, s_2, m_2, H_2, G_2⟩ := vq_2
  have hin_2 : ¬ ((0 : Int32) < 0 ∨ c_2.slots.size ≤ ((0 : Int32)).toNatClampNeg) := inb_of s_2 ⟨by decide, by decide⟩
  obtain ⟨T_2, h_2, X_2, e_2, W_2, st_2⟩ := stI X_1 hx hZ e_1 a_2 (j := (0 : Int32)) hin_2 (g := (mkF m 60 #[.val (.int (2 : Int32)), .val (.int p2), .val (.ref b_1), .val (.int (1 : Int32)), .val (.long ((((1 : Int32).toInt64) * (p2.toInt64)) + (1 : Int64))), .second] [(.int (((((1 : Int32).toInt64) * (p2.toInt64)) + (1 : Int64)).toInt32)), (.int (0 : Int32)), (.ref b_1)])) rfl rfl (hb hby d1_60)
  have V_2 : Arv Z h_2 b_1 k_1 .int (2 : Int32) [(.int (((((1 : Int32).toInt64) * (p2.toInt64)) + (1 : Int64)).toInt32)), (.int (0 : Int32))] (.int (0 : Int32)) := Arv.set a_2 q_2 s_2 m_2 H_2 G_2 rfl W_2 0 rfl (Nat.le_of_ble_eq_true rfl)
  have Z_2 : n0 ≤ h_2.size := Nat.le_trans Z_1 (Keep.of_wr W_2).1
  have kk_2 : Keep h0 h_2 [] := kk_1.wr W_2 (Or.inr sz_b_1)
  have N_2 := Fr.snoc X_2 N0 g_b_1
  refine own_go (g' := (mkF m 61 #[.val (.int (2 : Int32)), .val (.int p2), .val (.ref b_1), .val (.int (1 : Int32)), .val (.long ((((1 : Int32).toInt64) * (p2.toInt64)) + (1 : Int64))), .second] [])) st_2 ?_
  refine own_go (T' := T_2) (g' := (mkF m 60 #[.val (.int (2 : Int32)), .val (.int p2), .val (.ref b_1), .val (.int (2 : Int32)), .val (.long ((((0 : Int32).toInt64) * (p2.toInt64)) + (1 : Int64))), .second] [(.int (((((0 : Int32).toInt64) * (p2.toInt64)) + (1 : Int64)).toInt32)), (.int (1 : Int32)), (.ref b_1)])) (fun t kt => ?_) ?_
  · show Steps p.tables e below (T_2.setTop (mkF m 61 #[.val (.int (2 : Int32)), .val (.int p2), .val (.ref b_1), .val (.int (1 : Int32)), .val (.long ((((1 : Int32).toInt64) * (p2.toInt64)) + (1 : Int64))), .second] [])) t
    refine XS.iinc X_2.here hx rfl (hb hby d1_61) rfl (l' := #[.val (.int (2 : Int32)), .val (.int p2), .val (.ref b_1), .val (.int (2 : Int32)), .val (.long ((((1 : Int32).toInt64) * (p2.toInt64)) + (1 : Int64))), .second]) rfl ?_
    show Steps p.tables e below (T_2.setTop (mkF m 64 #[.val (.int (2 : Int32)), .val (.int p2), .val (.ref b_1), .val (.int (2 : Int32)), .val (.long ((((1 : Int32).toInt64) * (p2.toInt64)) + (1 : Int64))), .second] [])) t
    refine XS.goto X_2.here hx rfl (pc0 := 64) (pc' := 24) rfl (hb hby d1_64) (by decide) (by decide) ?_
    show Steps p.tables e below (T_2.setTop (mkF m 24 #[.val (.int (2 : Int32)), .val (.int p2), .val (.ref b_1), .val (.int (2 : Int32)), .val (.long ((((1 : Int32).toInt64) * (p2.toInt64)) + (1 : Int64))), .second] [])) t
    refine XS.iloadN X_2.here hx rfl (hb hby d1_24) rfl ?_
    show Steps p.tables e below (T_2.setTop (mkF m 25 #[.val (.int (2 : Int32)), .val (.int p2), .val (.ref b_1), .val (.int (2 : Int32)), .val (.long ((((1 : Int32).toInt64) * (p2.toInt64)) + (1 : Int64))), .second] [(.int (2 : Int32))])) t
    refine XS.iloadN X_2.here hx rfl (hb hby d1_25) rfl ?_
    show Steps p.tables e below (T_2.setTop (mkF m 26 #[.val (.int (2 : Int32)), .val (.int p2), .val (.ref b_1), .val (.int (2 : Int32)), .val (.long ((((1 : Int32).toInt64) * (p2.toInt64)) + (1 : Int64))), .second] [(.int (2 : Int32)), (.int (2 : Int32))])) t
    refine XS.icmpNo X_2.here hx rfl (hb hby d1_26) rfl (flt (by decide : ¬ ((2 : Int32) < (2 : Int32)))).2.2.1 ?_
    show Steps p.tables e below (T_2.setTop (mkF m 29 #[.val (.int (2 : Int32)), .val (.int p2), .val (.ref b_1), .val (.int (2 : Int32)), .val (.long ((((1 : Int32).toInt64) * (p2.toInt64)) + (1 : Int64))), .second] [])) t
    refine XS.iloadN X_2.here hx rfl (hb hby d1_29) rfl ?_
    show Steps p.tables e below (T_2.setTop (mkF m 30 #[.val (.int (2 : Int32)), .val (.int p2), .val (.ref b_1), .val (.int (2 : Int32)), .val (.long ((((1 : Int32).toInt64) * (p2.toInt64)) + (1 : Int64))), .second] [(.int (2 : Int32))])) t
    refine XS.iloadN X_2.here hx rfl (hb hby d1_30) rfl ?_
    show Steps p.tables e below (T_2.setTop (mkF m 31 #[.val (.int (2 : Int32)), .val (.int p2), .val (.ref b_1), .val (.int (2 : Int32)), .val (.long ((((1 : Int32).toInt64) * (p2.toInt64)) + (1 : Int64))), .second] [(.int (2 : Int32)), (.int (2 : Int32))])) t
    refine XS.isub X_2.here hx rfl (hb hby d1_31) rfl ?_
    show Steps p.tables e below (T_2.setTop (mkF m 32 #[.val (.int (2 : Int32)), .val (.int p2), .val (.ref b_1), .val (.int (2 : Int32)), .val (.long ((((1 : Int32).toInt64) * (p2.toInt64)) + (1 : Int64))), .second] [(.int (0 : Int32))])) t
    refine XS.i2l X_2.here hx rfl (hb hby d1_32) rfl ?_
    show Steps p.tables e below (T_2.setTop (mkF m 33 #[.val (.int (2 : Int32)), .val (.int p2), .val (.ref b_1), .val (.int (2 : Int32)), .val (.long ((((1 : Int32).toInt64) * (p2.toInt64)) + (1 : Int64))), .second] [(.long ((0 : Int32).toInt64))])) t
    refine XS.iloadN X_2.here hx rfl (hb hby d1_33) rfl ?_
    show Steps p.tables e below (T_2.setTop (mkF m 34 #[.val (.int (2 : Int32)), .val (.int p2), .val (.ref b_1), .val (.int (2 : Int32)), .val (.long ((((1 : Int32).toInt64) * (p2.toInt64)) + (1 : Int64))), .second] [(.int p2), (.long ((0 : Int32).toInt64))])) t
    refine XS.i2l X_2.here hx rfl (hb hby d1_34) rfl ?_
    show Steps p.tables e below (T_2.setTop (mkF m 35 #[.val (.int (2 : Int32)), .val (.int p2), .val (.ref b_1), .val (.int (2 : Int32)), .val (.long ((((1 : Int32).toInt64) * (p2.toInt64)) + (1 : Int64))), .second] [(.long (p2.toInt64)), (.long ((0 : Int32).toInt64))])) t
    refine XS.lmul X_2.here hx rfl (hb hby d1_35) rfl ?_
    show Steps p.tables e below (T_2.setTop (mkF m 36 #[.val (.int (2 : Int32)), .val (.int p2), .val (.ref b_1), .val (.int (2 : Int32)), .val (.long ((((1 : Int32).toInt64) * (p2.toInt64)) + (1 : Int64))), .second] [(.long (((0 : Int32).toInt64) * (p2.toInt64)))])) t
    refine XS.lconst X_2.here hx rfl (hb hby d1_36) ?_
    show Steps p.tables e below (T_2.setTop (mkF m 37 #[.val (.int (2 : Int32)), .val (.int p2), .val (.ref b_1), .val (.int (2 : Int32)), .val (.long ((((1 : Int32).toInt64) * (p2.toInt64)) + (1 : Int64))), .second] [(.long (1 : Int64)), (.long (((0 : Int32).toInt64) * (p2.toInt64)))])) t
    refine XS.ladd X_2.here hx rfl (hb hby d1_37) rfl ?_
    show Steps p.tables e below (T_2.setTop (mkF m 38 #[.val (.int (2 : Int32)), .val (.int p2), .val (.ref b_1), .val (.int (2 : Int32)), .val (.long ((((1 : Int32).toInt64) * (p2.toInt64)) + (1 : Int64))), .second] [(.long ((((0 : Int32).toInt64) * (p2.toInt64)) + (1 : Int64)))])) t
    refine XS.lstore X_2.here hx rfl (hb hby d1_38) rfl (l' := #[.val (.int (2 : Int32)), .val (.int p2), .val (.ref b_1), .val (.int (2 : Int32)), .val (.long ((((0 : Int32).toInt64) * (p2.toInt64)) + (1 : Int64))), .second]) rfl ?_
    show Steps p.tables e below (T_2.setTop (mkF m 40 #[.val (.int (2 : Int32)), .val (.int p2), .val (.ref b_1), .val (.int (2 : Int32)), .val (.long ((((0 : Int32).toInt64) * (p2.toInt64)) + (1 : Int64))), .second] [])) t
    refine XS.lload X_2.here hx rfl (hb hby d1_40) rfl ?_
    show Steps p.tables e below (T_2.setTop (mkF m 42 #[.val (.int (2 : Int32)), .val (.int p2), .val (.ref b_1), .val (.int (2 : Int32)), .val (.long ((((0 : Int32).toInt64) * (p2.toInt64)) + (1 : Int64))), .second] [(.long ((((0 : Int32).toInt64) * (p2.toInt64)) + (1 : Int64)))])) t
    refine X_2.ldc2Long hx hown (mvT hZ (hw _ (List.mem_of_getElem? (i := 7) rfl))) (g := (mkF m 42 #[.val (.int (2 : Int32)), .val (.int p2), .val (.ref b_1), .val (.int (2 : Int32)), .val (.long ((((0 : Int32).toInt64) * (p2.toInt64)) + (1 : Int64))), .second] [(.long ((((0 : Int32).toInt64) * (p2.toInt64)) + (1 : Int64)))])) rfl (hb hby d1_42) _ ?_
    show Steps p.tables e below (T_2.setTop (mkF m 45 #[.val (.int (2 : Int32)), .val (.int p2), .val (.ref b_1), .val (.int (2 : Int32)), .val (.long ((((0 : Int32).toInt64) * (p2.toInt64)) + (1 : Int64))), .second] [(.long (16777216 : Int64)), (.long ((((0 : Int32).toInt64) * (p2.toInt64)) + (1 : Int64)))])) t
    refine XS.lcmp X_2.here hx rfl (hb hby d1_45) rfl ?_
    show Steps p.tables e below (T_2.setTop (mkF m 46 #[.val (.int (2 : Int32)), .val (.int p2), .val (.ref b_1), .val (.int (2 : Int32)), .val (.long ((((0 : Int32).toInt64) * (p2.toInt64)) + (1 : Int64))), .second] [(.int (lcmpW ((((0 : Int32).toInt64) * (p2.toInt64)) + (1 : Int64)) (16777216 : Int64)))])) t
    refine XS.ifYes X_2.here hx rfl (pc0 := 46) (pc' := 53) rfl (hb hby d1_46) rfl ((if0 _ _).trans (flt (fun q => ((own_w (0 : Int32) p2 (by decide) h1 (by show (0 : Int) * p2.toInt ≤ 16777215; omega)).1 : ¬ ((16777216 : Int64) < ((((0 : Int32).toInt64) * (p2.toInt64)) + (1 : Int64)))) ((lw_gt _ _).mp q))).2.2.2) (by decide) (by decide) ?_
    show Steps p.tables e below (T_2.setTop (mkF m 53 #[.val (.int (2 : Int32)), .val (.int p2), .val (.ref b_1), .val (.int (2 : Int32)), .val (.long ((((0 : Int32).toInt64) * (p2.toInt64)) + (1 : Int64))), .second] [])) t
    refine XS.aloadN X_2.here hx rfl (hb hby d1_53) rfl rfl ?_
    show Steps p.tables e below (T_2.setTop (mkF m 54 #[.val (.int (2 : Int32)), .val (.int p2), .val (.ref b_1), .val (.int (2 : Int32)), .val (.long ((((0 : Int32).toInt64) * (p2.toInt64)) + (1 : Int64))), .second] [(.ref b_1)])) t
    refine XS.iloadN X_2.here hx rfl (hb hby d1_54) rfl ?_
    show Steps p.tables e below (T_2.setTop (mkF m 55 #[.val (.int (2 : Int32)), .val (.int p2), .val (.ref b_1), .val (.int (2 : Int32)), .val (.long ((((0 : Int32).toInt64) * (p2.toInt64)) + (1 : Int64))), .second] [(.int (2 : Int32)), (.ref b_1)])) t
    refine XS.iconst X_2.here hx rfl (hb hby d1_55) ?_
    show Steps p.tables e below (T_2.setTop (mkF m 56 #[.val (.int (2 : Int32)), .val (.int p2), .val (.ref b_1), .val (.int (2 : Int32)), .val (.long ((((0 : Int32).toInt64) * (p2.toInt64)) + (1 : Int64))), .second] [(.int (1 : Int32)), (.int (2 : Int32)), (.ref b_1)])) t
    refine XS.isub X_2.here hx rfl (hb hby d1_56) rfl ?_
    show Steps p.tables e below (T_2.setTop (mkF m 57 #[.val (.int (2 : Int32)), .val (.int p2), .val (.ref b_1), .val (.int (2 : Int32)), .val (.long ((((0 : Int32).toInt64) * (p2.toInt64)) + (1 : Int64))), .second] [(.int (1 : Int32)), (.ref b_1)])) t
    refine XS.lload X_2.here hx rfl (hb hby d1_57) rfl ?_
    show Steps p.tables e below (T_2.setTop (mkF m 59 #[.val (.int (2 : Int32)), .val (.int p2), .val (.ref b_1), .val (.int (2 : Int32)), .val (.long ((((0 : Int32).toInt64) * (p2.toInt64)) + (1 : Int64))), .second] [(.long ((((0 : Int32).toInt64) * (p2.toInt64)) + (1 : Int64))), (.int (1 : Int32)), (.ref b_1)])) t
    refine XS.l2i X_2.here hx rfl (hb hby d1_59) rfl ?_
    exact kt
  have vq_3 := V_2
  obtain ⟨c_3, a_3, q_3, s_3, m_3, H_3, G_3⟩ := vq_3
  have hin_3 : ¬ ((1 : Int32) < 0 ∨ c_3.slots.size ≤ ((1 : Int32)).toNatClampNeg) := inb_of s_3 ⟨by decide, by decide⟩
  obtain ⟨T_3, h_3, X_3, e_3, W_3, st_3⟩ := stI X_2 hx hZ e_2 a_3 (j := (1 : Int32)) hin_3 (g := (mkF m 60 #[.val (.int (2 : Int32)), .val (.int p2), .val (.ref b_1), .val (.int (2 : Int32)), .val (.long ((((0 : Int32).toInt64) * (p2.toInt64)) + (1 : Int64))), .second] [(.int (((((0 : Int32).toInt64) * (p2.toInt64)) + (1 : Int64)).toInt32)), (.int (1 : Int32)), (.ref b_1)])) rfl rfl (hb hby d1_60)
  have V_3 : Arv Z h_3 b_1 k_1 .int (2 : Int32) [(.int (((((1 : Int32).toInt64) * (p2.toInt64)) + (1 : Int64)).toInt32)), (.int (((((0 : Int32).toInt64) * (p2.toInt64)) + (1 : Int64)).toInt32))] (.int (0 : Int32)) := Arv.set a_3 q_3 s_3 m_3 H_3 G_3 rfl W_3 1 rfl (Nat.le_of_ble_eq_true rfl)
  have Z_3 : n0 ≤ h_3.size := Nat.le_trans Z_2 (Keep.of_wr W_3).1
  have kk_3 : Keep h0 h_3 [] := kk_2.wr W_3 (Or.inr sz_b_1)
  have N_3 := Fr.snoc X_3 N_2 g_b_1
  refine own_go (g' := (mkF m 61 #[.val (.int (2 : Int32)), .val (.int p2), .val (.ref b_1), .val (.int (2 : Int32)), .val (.long ((((0 : Int32).toInt64) * (p2.toInt64)) + (1 : Int64))), .second] [])) st_3 ?_
  refine own_go (T' := T_3) (g' := (mkF m 68 #[.val (.int (2 : Int32)), .val (.int p2), .val (.ref b_1), .val (.int (3 : Int32)), .val (.long ((((0 : Int32).toInt64) * (p2.toInt64)) + (1 : Int64))), .second] [(.ref b_1)])) (fun t kt => ?_) ?_
  · show Steps p.tables e below (T_3.setTop (mkF m 61 #[.val (.int (2 : Int32)), .val (.int p2), .val (.ref b_1), .val (.int (2 : Int32)), .val (.long ((((0 : Int32).toInt64) * (p2.toInt64)) + (1 : Int64))), .second] [])) t
    refine XS.iinc X_3.here hx rfl (hb hby d1_61) rfl (l' := #[.val (.int (2 : Int32)), .val (.int p2), .val (.ref b_1), .val (.int (3 : Int32)), .val (.long ((((0 : Int32).toInt64) * (p2.toInt64)) + (1 : Int64))), .second]) rfl ?_
    show Steps p.tables e below (T_3.setTop (mkF m 64 #[.val (.int (2 : Int32)), .val (.int p2), .val (.ref b_1), .val (.int (3 : Int32)), .val (.long ((((0 : Int32).toInt64) * (p2.toInt64)) + (1 : Int64))), .second] [])) t
    refine XS.goto X_3.here hx rfl (pc0 := 64) (pc' := 24) rfl (hb hby d1_64) (by decide) (by decide) ?_
    show Steps p.tables e below (T_3.setTop (mkF m 24 #[.val (.int (2 : Int32)), .val (.int p2), .val (.ref b_1), .val (.int (3 : Int32)), .val (.long ((((0 : Int32).toInt64) * (p2.toInt64)) + (1 : Int64))), .second] [])) t
    refine XS.iloadN X_3.here hx rfl (hb hby d1_24) rfl ?_
    show Steps p.tables e below (T_3.setTop (mkF m 25 #[.val (.int (2 : Int32)), .val (.int p2), .val (.ref b_1), .val (.int (3 : Int32)), .val (.long ((((0 : Int32).toInt64) * (p2.toInt64)) + (1 : Int64))), .second] [(.int (3 : Int32))])) t
    refine XS.iloadN X_3.here hx rfl (hb hby d1_25) rfl ?_
    show Steps p.tables e below (T_3.setTop (mkF m 26 #[.val (.int (2 : Int32)), .val (.int p2), .val (.ref b_1), .val (.int (3 : Int32)), .val (.long ((((0 : Int32).toInt64) * (p2.toInt64)) + (1 : Int64))), .second] [(.int (2 : Int32)), (.int (3 : Int32))])) t
    refine XS.icmpYes X_3.here hx rfl (pc0 := 26) (pc' := 67) rfl (hb hby d1_26) rfl (tlt (by decide : (2 : Int32) < (3 : Int32))).2.2.1 (by decide) (by decide) ?_
    show Steps p.tables e below (T_3.setTop (mkF m 67 #[.val (.int (2 : Int32)), .val (.int p2), .val (.ref b_1), .val (.int (3 : Int32)), .val (.long ((((0 : Int32).toInt64) * (p2.toInt64)) + (1 : Int64))), .second] [])) t
    refine XS.aloadN X_3.here hx rfl (hb hby d1_67) rfl rfl ?_
    exact kt
  obtain ⟨fs, hr, hrun, hended, hW, hsame⟩ := X_3.leave (v := some (.ref b_1)) (fun h => by rw [Bd.returns] at h; cases h)
  refine ⟨_, _, ?_, hrun, hended, _, _, rfl, ?_, ⟨_, rfl⟩, hW, hsame.mono (by decide) (by decide)⟩
  · show Steps p.tables e below (T_3.setTop (mkF m 68 #[.val (.int (2 : Int32)), .val (.int p2), .val (.ref b_1), .val (.int (3 : Int32)), .val (.long ((((0 : Int32).toInt64) * (p2.toInt64)) + (1 : Int64))), .second] [(.ref b_1)])) _
    jvm_step X_3.here [X_3.here.top, hx, (hb hby d1_68), X_3.method', Bd.returns, Value.isRef, FieldType.isReference]
    first | (intro acts; rw [hr _ acts rfl rfl rfl]) | rw [hr _ _ rfl rfl rfl]
    exact Steps.refl _
  · show Q_rd2 Z _ h0 n0 _ T_3.heap _
    rw [e_3]
    exact ⟨_, _, rfl, N_3, kk_3, sz_b_1, V_3⟩
def Q_rd3 (Z : State) (p2 : Int32) (h0 : Heap) (n0 : Nat) (v : Option Value) (h : Heap) (L : List Loc) : Prop := ∃ b kA, v = some (.ref b) ∧ Fr n0 L ∧ Keep h0 h [] ∧ h0.size ≤ b ∧ Arv Z h b kA .int (3 : Int32) [(.int (own_fr (2 : Int32) p2)), (.int (own_fr (1 : Int32) p2)), (.int (own_fr (0 : Int32) p2))] (.int (0 : Int32))
set_option maxRecDepth 65536 in
set_option maxHeartbeats 40000000 in
theorem rd3 (l : Launch) (Z : State) (a0 : Array Value) (hw : ∀ d ∈ tables_1, d.before a0 Z = true) (ws : List Jvm.Cond) (p2 : Int32) (h0 : Heap) (n0 : Nat) (Z0 : n0 ≤ h0.size) (hd : ¬ (p2 < (0 : Int32))) (h1 : 0 ≤ p2.toInt) (hmax : (2 : Int) * p2.toInt ≤ 16777215) :
    MetFree l (⟨"com/example/orrery/orrery/Program", "deltaFreqs", "(II)[I"⟩ : MethodName) (head1 (Jvm.Cond.code (⟨"com/example/orrery/orrery/Program", "deltaFreqs", "(II)[I"⟩ : MethodName) prog_25_method_3_code 6 (some (.array .int)) :: ws) ({ frames := 0, cells := 1, slots := 3, locals := 0 } : Room)) (fun a U => a = #[(.int (3 : Int32)), (.int p2)] ∧ Z.Warmed39 U.vm ∧ U.heap = h0) (fun _ _ _ _ _ => True) (fun _ U o U' => ∃ v L, o = .returned v ∧ Q_rd3 Z p2 h0 n0 v U'.heap L ∧ FrameEnd U o U' L ({ frames := 0, cells := 1, slots := 3, locals := 0 } : Room).cells ({ frames := 0, cells := 1, slots := 3, locals := 0 } : Room).slots) := by
  refine MetFree.of_bodySF (plainFor_of_name pn_1) hisR ?_
  intro p e s m args below meth c s₁ Bd hml0 hP hK
  obtain ⟨rfl, hZ, hh⟩ := hP
  have hx := Bd.exec
  have hby := Bd.bytes
  have hml : c.maxLocals = 6 := hml0
  have hown : s.vm.findClass "com/example/orrery/orrery/Program" = some m.cls := findClass_of_methodNamed Bd.named
  have hnm := (name_of_methodNamed Bd.named Bd.method).1
  have X0 : Stand p l e ({ frames := 0, cells := 1, slots := 3, locals := 0 } : Room) s m #[(.int (3 : Int32)), (.int p2)] below meth c s₁ [] 0 0 := Stand.of_body Bd
  have e0 : s₁.heap = h0 := by rw [← hh, Bd.state]; rfl
  have N0 := Fr.nil n0
  refine own_go (g' := (mkF m 0 #[.val (.int (3 : Int32)), .val (.int p2), .unset, .unset, .unset, .unset] [])) (fun t k => castTop (ef_1 m ((3 : Int32)) (p2)) k) ?_
  refine own_go (T' := s₁) (g' := (mkF m 19 #[.val (.int (3 : Int32)), .val (.int p2), .unset, .unset, .unset, .unset] [(.int (3 : Int32))])) (fun t kt => ?_) ?_
  · show Steps p.tables e below (s₁.setTop (mkF m 0 #[.val (.int (3 : Int32)), .val (.int p2), .unset, .unset, .unset, .unset] [])) t
    refine XS.iloadN X0.here hx rfl (hb hby d1_0) rfl ?_
    show Steps p.tables e below (s₁.setTop (mkF m 1 #[.val (.int (3 : Int32)), .val (.int p2), .unset, .unset, .unset, .unset] [(.int p2)])) t
    refine XS.ifYes X0.here hx rfl (pc0 := 1) (pc' := 18) rfl (hb hby d1_1) rfl ((if0 _ _).trans (flt (hd : ¬ (p2 < (0 : Int32)))).2.1) (by decide) (by decide) ?_
    show Steps p.tables e below (s₁.setTop (mkF m 18 #[.val (.int (3 : Int32)), .val (.int p2), .unset, .unset, .unset, .unset] [])) t
    refine XS.iloadN X0.here hx rfl (hb hby d1_18) rfl ?_
    exact kt
  obtain ⟨T_1, h_1, k_1, X_1, e_1, E_1, A_1, B_1, st_1⟩ := newPE X0 hx hZ (hw _ (List.mem_of_getElem? (i := 5) rfl)) e0 (g := (mkF m 19 #[.val (.int (3 : Int32)), .val (.int p2), .unset, .unset, .unset, .unset] [(.int (3 : Int32))])) rfl (hb hby d1_19) rfl (by decide) (cap := 3) (by decide) (by decide) (by decide) (by decide) (ad := "[I") (by decide)
  obtain ⟨b_1, g_1⟩ : ∃ z, z = h0.size := ⟨_, rfl⟩
  rw [← g_1] at A_1 B_1 st_1
  have g_b_1 : n0 ≤ b_1 := Nat.le_trans Z0 (Nat.le_of_eq g_1.symm)
  have sz_b_1 : h0.size ≤ b_1 := Nat.le_trans (Keep.refl h0 []).1 (Nat.le_of_eq g_1.symm)
  have Z_1 : n0 ≤ h_1.size := Nat.le_trans Z0 E_1.1
  have kk_1 : Keep h0 h_1 [] := (Keep.refl h0 []).ext E_1
  have V_1 : Arv Z h_1 b_1 k_1 .int (3 : Int32) [(.int (0 : Int32)), (.int (0 : Int32)), (.int (0 : Int32))] (.int (0 : Int32)) := (Arv.new A_1 (by decide)).pad (pad_rep [] (.int (0 : Int32)) 3)
  refine own_go (g' := (mkF m 21 #[.val (.int (3 : Int32)), .val (.int p2), .unset, .unset, .unset, .unset] [(.ref b_1)])) st_1 ?_
  refine own_go (T' := T_1) (g' := (mkF m 60 #[.val (.int (3 : Int32)), .val (.int p2), .val (.ref b_1), .val (.int (1 : Int32)), .val (.long ((((2 : Int32).toInt64) * (p2.toInt64)) + (1 : Int64))), .second] [(.int (((((2 : Int32).toInt64) * (p2.toInt64)) + (1 : Int64)).toInt32)), (.int (0 : Int32)), (.ref b_1)])) (fun t kt => ?_) ?_
  · show Steps p.tables e below (T_1.setTop (mkF m 21 #[.val (.int (3 : Int32)), .val (.int p2), .unset, .unset, .unset, .unset] [(.ref b_1)])) t
    refine XS.astoreN X_1.here hx rfl (hb hby d1_21) rfl rfl (l' := #[.val (.int (3 : Int32)), .val (.int p2), .val (.ref b_1), .unset, .unset, .unset]) rfl ?_
    show Steps p.tables e below (T_1.setTop (mkF m 22 #[.val (.int (3 : Int32)), .val (.int p2), .val (.ref b_1), .unset, .unset, .unset] [])) t
    refine XS.iconst X_1.here hx rfl (hb hby d1_22) ?_
    show Steps p.tables e below (T_1.setTop (mkF m 23 #[.val (.int (3 : Int32)), .val (.int p2), .val (.ref b_1), .unset, .unset, .unset] [(.int (1 : Int32))])) t
    refine XS.istoreN X_1.here hx rfl (hb hby d1_23) rfl (l' := #[.val (.int (3 : Int32)), .val (.int p2), .val (.ref b_1), .val (.int (1 : Int32)), .unset, .unset]) rfl ?_
    show Steps p.tables e below (T_1.setTop (mkF m 24 #[.val (.int (3 : Int32)), .val (.int p2), .val (.ref b_1), .val (.int (1 : Int32)), .unset, .unset] [])) t
    refine XS.iloadN X_1.here hx rfl (hb hby d1_24) rfl ?_
    show Steps p.tables e below (T_1.setTop (mkF m 25 #[.val (.int (3 : Int32)), .val (.int p2), .val (.ref b_1), .val (.int (1 : Int32)), .unset, .unset] [(.int (1 : Int32))])) t
    refine XS.iloadN X_1.here hx rfl (hb hby d1_25) rfl ?_
    show Steps p.tables e below (T_1.setTop (mkF m 26 #[.val (.int (3 : Int32)), .val (.int p2), .val (.ref b_1), .val (.int (1 : Int32)), .unset, .unset] [(.int (3 : Int32)), (.int (1 : Int32))])) t
    refine XS.icmpNo X_1.here hx rfl (hb hby d1_26) rfl (flt (by decide : ¬ ((3 : Int32) < (1 : Int32)))).2.2.1 ?_
    show Steps p.tables e below (T_1.setTop (mkF m 29 #[.val (.int (3 : Int32)), .val (.int p2), .val (.ref b_1), .val (.int (1 : Int32)), .unset, .unset] [])) t
    refine XS.iloadN X_1.here hx rfl (hb hby d1_29) rfl ?_
    show Steps p.tables e below (T_1.setTop (mkF m 30 #[.val (.int (3 : Int32)), .val (.int p2), .val (.ref b_1), .val (.int (1 : Int32)), .unset, .unset] [(.int (3 : Int32))])) t
    refine XS.iloadN X_1.here hx rfl (hb hby d1_30) rfl ?_
    show Steps p.tables e below (T_1.setTop (mkF m 31 #[.val (.int (3 : Int32)), .val (.int p2), .val (.ref b_1), .val (.int (1 : Int32)), .unset, .unset] [(.int (1 : Int32)), (.int (3 : Int32))])) t
    refine XS.isub X_1.here hx rfl (hb hby d1_31) rfl ?_
    show Steps p.tables e below (T_1.setTop (mkF m 32 #[.val (.int (3 : Int32)), .val (.int p2), .val (.ref b_1), .val (.int (1 : Int32)), .unset, .unset] [(.int (2 : Int32))])) t
    refine XS.i2l X_1.here hx rfl (hb hby d1_32) rfl ?_
    show Steps p.tables e below (T_1.setTop (mkF m 33 #[.val (.int (3 : Int32)), .val (.int p2), .val (.ref b_1), .val (.int (1 : Int32)), .unset, .unset] [(.long ((2 : Int32).toInt64))])) t
    refine XS.iloadN X_1.here hx rfl (hb hby d1_33) rfl ?_
    show Steps p.tables e below (T_1.setTop (mkF m 34 #[.val (.int (3 : Int32)), .val (.int p2), .val (.ref b_1), .val (.int (1 : Int32)), .unset, .unset] [(.int p2), (.long ((2 : Int32).toInt64))])) t
    refine XS.i2l X_1.here hx rfl (hb hby d1_34) rfl ?_
    show Steps p.tables e below (T_1.setTop (mkF m 35 #[.val (.int (3 : Int32)), .val (.int p2), .val (.ref b_1), .val (.int (1 : Int32)), .unset, .unset] [(.long (p2.toInt64)), (.long ((2 : Int32).toInt64))])) t
    refine XS.lmul X_1.here hx rfl (hb hby d1_35) rfl ?_
    show Steps p.tables e below (T_1.setTop (mkF m 36 #[.val (.int (3 : Int32)), .val (.int p2), .val (.ref b_1), .val (.int (1 : Int32)), .unset, .unset] [(.long (((2 : Int32).toInt64) * (p2.toInt64)))])) t
    refine XS.lconst X_1.here hx rfl (hb hby d1_36) ?_
    show Steps p.tables e below (T_1.setTop (mkF m 37 #[.val (.int (3 : Int32)), .val (.int p2), .val (.ref b_1), .val (.int (1 : Int32)), .unset, .unset] [(.long (1 : Int64)), (.long (((2 : Int32).toInt64) * (p2.toInt64)))])) t
    refine XS.ladd X_1.here hx rfl (hb hby d1_37) rfl ?_
    show Steps p.tables e below (T_1.setTop (mkF m 38 #[.val (.int (3 : Int32)), .val (.int p2), .val (.ref b_1), .val (.int (1 : Int32)), .unset, .unset] [(.long ((((2 : Int32).toInt64) * (p2.toInt64)) + (1 : Int64)))])) t
    refine XS.lstore X_1.here hx rfl (hb hby d1_38) rfl (l' := #[.val (.int (3 : Int32)), .val (.int p2), .val (.ref b_1), .val (.int (1 : Int32)), .val (.long ((((2 : Int32).toInt64) * (p2.toInt64)) + (1 : Int64))), .second]) rfl ?_
    show Steps p.tables e below (T_1.setTop (mkF m 40 #[.val (.int (3 : Int32)), .val (.int p2), .val (.ref b_1), .val (.int (1 : Int32)), .val (.long ((((2 : Int32).toInt64) * (p2.toInt64)) + (1 : Int64))), .second] [])) t
    refine XS.lload X_1.here hx rfl (hb hby d1_40) rfl ?_
    show Steps p.tables e below (T_1.setTop (mkF m 42 #[.val (.int (3 : Int32)), .val (.int p2), .val (.ref b_1), .val (.int (1 : Int32)), .val (.long ((((2 : Int32).toInt64) * (p2.toInt64)) + (1 : Int64))), .second] [(.long ((((2 : Int32).toInt64) * (p2.toInt64)) + (1 : Int64)))])) t
    refine X_1.ldc2Long hx hown (mvT hZ (hw _ (List.mem_of_getElem? (i := 7) rfl))) (g := (mkF m 42 #[.val (.int (3 : Int32)), .val (.int p2), .val (.ref b_1), .val (.int (1 : Int32)), .val (.long ((((2 : Int32).toInt64) * (p2.toInt64)) + (1 : Int64))), .second] [(.long ((((2 : Int32).toInt64) * (p2.toInt64)) + (1 : Int64)))])) rfl (hb hby d1_42) _ ?_
    show Steps p.tables e below (T_1.setTop (mkF m 45 #[.val (.int (3 : Int32)), .val (.int p2), .val (.ref b_1), .val (.int (1 : Int32)), .val (.long ((((2 : Int32).toInt64) * (p2.toInt64)) + (1 : Int64))), .second] [(.long (16777216 : Int64)), (.long ((((2 : Int32).toInt64) * (p2.toInt64)) + (1 : Int64)))])) t
    refine XS.lcmp X_1.here hx rfl (hb hby d1_45) rfl ?_
    show Steps p.tables e below (T_1.setTop (mkF m 46 #[.val (.int (3 : Int32)), .val (.int p2), .val (.ref b_1), .val (.int (1 : Int32)), .val (.long ((((2 : Int32).toInt64) * (p2.toInt64)) + (1 : Int64))), .second] [(.int (lcmpW ((((2 : Int32).toInt64) * (p2.toInt64)) + (1 : Int64)) (16777216 : Int64)))])) t
    refine XS.ifYes X_1.here hx rfl (pc0 := 46) (pc' := 53) rfl (hb hby d1_46) rfl ((if0 _ _).trans (flt (fun q => ((own_w (2 : Int32) p2 (by decide) h1 (by show (2 : Int) * p2.toInt ≤ 16777215; omega)).1 : ¬ ((16777216 : Int64) < ((((2 : Int32).toInt64) * (p2.toInt64)) + (1 : Int64)))) ((lw_gt _ _).mp q))).2.2.2) (by decide) (by decide) ?_
    show Steps p.tables e below (T_1.setTop (mkF m 53 #[.val (.int (3 : Int32)), .val (.int p2), .val (.ref b_1), .val (.int (1 : Int32)), .val (.long ((((2 : Int32).toInt64) * (p2.toInt64)) + (1 : Int64))), .second] [])) t
    refine XS.aloadN X_1.here hx rfl (hb hby d1_53) rfl rfl ?_
    show Steps p.tables e below (T_1.setTop (mkF m 54 #[.val (.int (3 : Int32)), .val (.int p2), .val (.ref b_1), .val (.int (1 : Int32)), .val (.long ((((2 : Int32).toInt64) * (p2.toInt64)) + (1 : Int64))), .second] [(.ref b_1)])) t
    refine XS.iloadN X_1.here hx rfl (hb hby d1_54) rfl ?_
    show Steps p.tables e below (T_1.setTop (mkF m 55 #[.val (.int (3 : Int32)), .val (.int p2), .val (.ref b_1), .val (.int (1 : Int32)), .val (.long ((((2 : Int32).toInt64) * (p2.toInt64)) + (1 : Int64))), .second] [(.int (1 : Int32)), (.ref b_1)])) t
    refine XS.iconst X_1.here hx rfl (hb hby d1_55) ?_
    show Steps p.tables e below (T_1.setTop (mkF m 56 #[.val (.int (3 : Int32)), .val (.int p2), .val (.ref b_1), .val (.int (1 : Int32)), .val (.long ((((2 : Int32).toInt64) * (p2.toInt64)) + (1 : Int64))), .second] [(.int (1 : Int32)), (.int (1 : Int32)), (.ref b_1)])) t
    refine XS.isub X_1.here hx rfl (hb hby d1_56) rfl ?_
    show Steps p.tables e below (T_1.setTop (mkF m 57 #[.val (.int (3 : Int32)), .val (.int p2), .val (.ref b_1), .val (.int (1 : Int32)), .val (.long ((((2 : Int32).toInt64) * (p2.toInt64)) + (1 : Int64))), .second] [(.int (0 : Int32)), (.ref b_1)])) t
    refine XS.lload X_1.here hx rfl (hb hby d1_57) rfl ?_
    show Steps p.tables e below (T_1.setTop (mkF m 59 #[.val (.int (3 : Int32)), .val (.int p2), .val (.ref b_1), .val (.int (1 : Int32)), .val (.long ((((2 : Int32).toInt64) * (p2.toInt64)) + (1 : Int64))), .second] [(.long ((((2 : Int32).toInt64) * (p2.toInt64)) + (1 : Int64))), (.int (0 : Int32)), (.ref b_1)])) t
    refine XS.l2i X_1.here hx rfl (hb hby d1_59) rfl ?_
    exact kt
  have vq_2 := V_1
  obtain ⟨c_2, a_2, q_2, s_2, m_2, H_2, G_2⟩ := vq_2
  have hin_2 : ¬ ((0 : Int32) < 0 ∨ c_2.slots.size ≤ ((0 : Int32)).toNatClampNeg) := inb_of s_2 ⟨by decide, by decide⟩
  obtain ⟨T_2, h_2, X_2, e_2, W_2, st_2⟩ := stI X_1 hx hZ e_1 a_2 (j := (0 : Int32)) hin_2 (g := (mkF m 60 #[.val (.int (3 : Int32)), .val (.int p2), .val (.ref b_1), .val (.int (1 : Int32)), .val (.long ((((2 : Int32).toInt64) * (p2.toInt64)) + (1 : Int64))), .second] [(.int (((((2 : Int32).toInt64) * (p2.toInt64)) + (1 : Int64)).toInt32)), (.int (0 : Int32)), (.ref b_1)])) rfl rfl (hb hby d1_60)
  have V_2 : Arv Z h_2 b_1 k_1 .int (3 : Int32) [(.int (((((2 : Int32).toInt64) * (p2.toInt64)) + (1 : Int64)).toInt32)), (.int (0 : Int32)), (.int (0 : Int32))] (.int (0 : Int32)) := Arv.set a_2 q_2 s_2 m_2 H_2 G_2 rfl W_2 0 rfl (Nat.le_of_ble_eq_true rfl)
  have Z_2 : n0 ≤ h_2.size := Nat.le_trans Z_1 (Keep.of_wr W_2).1
  have kk_2 : Keep h0 h_2 [] := kk_1.wr W_2 (Or.inr sz_b_1)
  have N_2 := Fr.snoc X_2 N0 g_b_1
  refine own_go (g' := (mkF m 61 #[.val (.int (3 : Int32)), .val (.int p2), .val (.ref b_1), .val (.int (1 : Int32)), .val (.long ((((2 : Int32).toInt64) * (p2.toInt64)) + (1 : Int64))), .second] [])) st_2 ?_
  refine own_go (T' := T_2) (g' := (mkF m 60 #[.val (.int (3 : Int32)), .val (.int p2), .val (.ref b_1), .val (.int (2 : Int32)), .val (.long ((((1 : Int32).toInt64) * (p2.toInt64)) + (1 : Int64))), .second] [(.int (((((1 : Int32).toInt64) * (p2.toInt64)) + (1 : Int64)).toInt32)), (.int (1 : Int32)), (.ref b_1)])) (fun t kt => ?_) ?_
  · show Steps p.tables e below (T_2.setTop (mkF m 61 #[.val (.int (3 : Int32)), .val (.int p2), .val (.ref b_1), .val (.int (1 : Int32)), .val (.long ((((2 : Int32).toInt64) * (p2.toInt64)) + (1 : Int64))), .second] [])) t
    refine XS.iinc X_2.here hx rfl (hb hby d1_61) rfl (l' := #[.val (.int (3 : Int32)), .val (.int p2), .val (.ref b_1), .val (.int (2 : Int32)), .val (.long ((((2 : Int32).toInt64) * (p2.toInt64)) + (1 : Int64))), .second]) rfl ?_
    show Steps p.tables e below (T_2.setTop (mkF m 64 #[.val (.int (3 : Int32)), .val (.int p2), .val (.ref b_1), .val (.int (2 : Int32)), .val (.long ((((2 : Int32).toInt64) * (p2.toInt64)) + (1 : Int64))), .second] [])) t
    refine XS.goto X_2.here hx rfl (pc0 := 64) (pc' := 24) rfl (hb hby d1_64) (by decide) (by decide) ?_
    show Steps p.tables e below (T_2.setTop (mkF m 24 #[.val (.int (3 : Int32)), .val (.int p2), .val (.ref b_1), .val (.int (2 : Int32)), .val (.long ((((2 : Int32).toInt64) * (p2.toInt64)) + (1 : Int64))), .second] [])) t
    refine XS.iloadN X_2.here hx rfl (hb hby d1_24) rfl ?_
    show Steps p.tables e below (T_2.setTop (mkF m 25 #[.val (.int (3 : Int32)), .val (.int p2), .val (.ref b_1), .val (.int (2 : Int32)), .val (.long ((((2 : Int32).toInt64) * (p2.toInt64)) + (1 : Int64))), .second] [(.int (2 : Int32))])) t
    refine XS.iloadN X_2.here hx rfl (hb hby d1_25) rfl ?_
    show Steps p.tables e below (T_2.setTop (mkF m 26 #[.val (.int (3 : Int32)), .val (.int p2), .val (.ref b_1), .val (.int (2 : Int32)), .val (.long ((((2 : Int32).toInt64) * (p2.toInt64)) + (1 : Int64))), .second] [(.int (3 : Int32)), (.int (2 : Int32))])) t
    refine XS.icmpNo X_2.here hx rfl (hb hby d1_26) rfl (flt (by decide : ¬ ((3 : Int32) < (2 : Int32)))).2.2.1 ?_
    show Steps p.tables e below (T_2.setTop (mkF m 29 #[.val (.int (3 : Int32)), .val (.int p2), .val (.ref b_1), .val (.int (2 : Int32)), .val (.long ((((2 : Int32).toInt64) * (p2.toInt64)) + (1 : Int64))), .second] [])) t
    refine XS.iloadN X_2.here hx rfl (hb hby d1_29) rfl ?_
    show Steps p.tables e below (T_2.setTop (mkF m 30 #[.val (.int (3 : Int32)), .val (.int p2), .val (.ref b_1), .val (.int (2 : Int32)), .val (.long ((((2 : Int32).toInt64) * (p2.toInt64)) + (1 : Int64))), .second] [(.int (3 : Int32))])) t
    refine XS.iloadN X_2.here hx rfl (hb hby d1_30) rfl ?_
    show Steps p.tables e below (T_2.setTop (mkF m 31 #[.val (.int (3 : Int32)), .val (.int p2), .val (.ref b_1), .val (.int (2 : Int32)), .val (.long ((((2 : Int32).toInt64) * (p2.toInt64)) + (1 : Int64))), .second] [(.int (2 : Int32)), (.int (3 : Int32))])) t
    refine XS.isub X_2.here hx rfl (hb hby d1_31) rfl ?_
    show Steps p.tables e below (T_2.setTop (mkF m 32 #[.val (.int (3 : Int32)), .val (.int p2), .val (.ref b_1), .val (.int (2 : Int32)), .val (.long ((((2 : Int32).toInt64) * (p2.toInt64)) + (1 : Int64))), .second] [(.int (1 : Int32))])) t
    refine XS.i2l X_2.here hx rfl (hb hby d1_32) rfl ?_
    show Steps p.tables e below (T_2.setTop (mkF m 33 #[.val (.int (3 : Int32)), .val (.int p2), .val (.ref b_1), .val (.int (2 : Int32)), .val (.long ((((2 : Int32).toInt64) * (p2.toInt64)) + (1 : Int64))), .second] [(.long ((1 : Int32).toInt64))])) t
    refine XS.iloadN X_2.here hx rfl (hb hby d1_33) rfl ?_
    show Steps p.tables e below (T_2.setTop (mkF m 34 #[.val (.int (3 : Int32)), .val (.int p2), .val (.ref b_1), .val (.int (2 : Int32)), .val (.long ((((2 : Int32).toInt64) * (p2.toInt64)) + (1 : Int64))), .second] [(.int p2), (.long ((1 : Int32).toInt64))])) t
    refine XS.i2l X_2.here hx rfl (hb hby d1_34) rfl ?_
    show Steps p.tables e below (T_2.setTop (mkF m 35 #[.val (.int (3 : Int32)), .val (.int p2), .val (.ref b_1), .val (.int (2 : Int32)), .val (.long ((((2 : Int32).toInt64) * (p2.toInt64)) + (1 : Int64))), .second] [(.long (p2.toInt64)), (.long ((1 : Int32).toInt64))])) t
    refine XS.lmul X_2.here hx rfl (hb hby d1_35) rfl ?_
    show Steps p.tables e below (T_2.setTop (mkF m 36 #[.val (.int (3 : Int32)), .val (.int p2), .val (.ref b_1), .val (.int (2 : Int32)), .val (.long ((((2 : Int32).toInt64) * (p2.toInt64)) + (1 : Int64))), .second] [(.long (((1 : Int32).toInt64) * (p2.toInt64)))])) t
    refine XS.lconst X_2.here hx rfl (hb hby d1_36) ?_
    show Steps p.tables e below (T_2.setTop (mkF m 37 #[.val (.int (3 : Int32)), .val (.int p2), .val (.ref b_1), .val (.int (2 : Int32)), .val (.long ((((2 : Int32).toInt64) * (p2.toInt64)) + (1 : Int64))), .second] [(.long (1 : Int64)), (.long (((1 : Int32).toInt64) * (p2.toInt64)))])) t
    refine XS.ladd X_2.here hx rfl (hb hby d1_37) rfl ?_
    show Steps p.tables e below (T_2.setTop (mkF m 38 #[.val (.int (3 : Int32)), .val (.int p2), .val (.ref b_1), .val (.int (2 : Int32)), .val (.long ((((2 : Int32).toInt64) * (p2.toInt64)) + (1 : Int64))), .second] [(.long ((((1 : Int32).toInt64) * (p2.toInt64)) + (1 : Int64)))])) t
    refine XS.lstore X_2.here hx rfl (hb hby d1_38) rfl (l' := #[.val (.int (3 : Int32)), .val (.int p2), .val (.ref b_1), .val (.int (2 : Int32)), .val (.long ((((1 : Int32).toInt64) * (p2.toInt64)) + (1 : Int64))), .second]) rfl ?_
    show Steps p.tables e below (T_2.setTop (mkF m 40 #[.val (.int (3 : Int32)), .val (.int p2), .val (.ref b_1), .val (.int (2 : Int32)), .val (.long ((((1 : Int32).toInt64) * (p2.toInt64)) + (1 : Int64))), .second] [])) t
    refine XS.lload X_2.here hx rfl (hb hby d1_40) rfl ?_
    show Steps p.tables e below (T_2.setTop (mkF m 42 #[.val (.int (3 : Int32)), .val (.int p2), .val (.ref b_1), .val (.int (2 : Int32)), .val (.long ((((1 : Int32).toInt64) * (p2.toInt64)) + (1 : Int64))), .second] [(.long ((((1 : Int32).toInt64) * (p2.toInt64)) + (1 : Int64)))])) t
    refine X_2.ldc2Long hx hown (mvT hZ (hw _ (List.mem_of_getElem? (i := 7) rfl))) (g := (mkF m 42 #[.val (.int (3 : Int32)), .val (.int p2), .val (.ref b_1), .val (.int (2 : Int32)), .val (.long ((((1 : Int32).toInt64) * (p2.toInt64)) + (1 : Int64))), .second] [(.long ((((1 : Int32).toInt64) * (p2.toInt64)) + (1 : Int64)))])) rfl (hb hby d1_42) _ ?_
    show Steps p.tables e below (T_2.setTop (mkF m 45 #[.val (.int (3 : Int32)), .val (.int p2), .val (.ref b_1), .val (.int (2 : Int32)), .val (.long ((((1 : Int32).toInt64) * (p2.toInt64)) + (1 : Int64))), .second] [(.long (16777216 : Int64)), (.long ((((1 : Int32).toInt64) * (p2.toInt64)) + (1 : Int64)))])) t
    refine XS.lcmp X_2.here hx rfl (hb hby d1_45) rfl ?_
    show Steps p.tables e below (T_2.setTop (mkF m 46 #[.val (.int (3 : Int32)), .val (.int p2), .val (.ref b_1), .val (.int (2 : Int32)), .val (.long ((((1 : Int32).toInt64) * (p2.toInt64)) + (1 : Int64))), .second] [(.int (lcmpW ((((1 : Int32).toInt64) * (p2.toInt64)) + (1 : Int64)) (16777216 : Int64)))])) t
    refine XS.ifYes X_2.here hx rfl (pc0 := 46) (pc' := 53) rfl (hb hby d1_46) rfl ((if0 _ _).trans (flt (fun q => ((own_w (1 : Int32) p2 (by decide) h1 (by show (1 : Int) * p2.toInt ≤ 16777215; omega)).1 : ¬ ((16777216 : Int64) < ((((1 : Int32).toInt64) * (p2.toInt64)) + (1 : Int64)))) ((lw_gt _ _).mp q))).2.2.2) (by decide) (by decide) ?_
    show Steps p.tables e below (T_2.setTop (mkF m 53 #[.val (.int (3 : Int32)), .val (.int p2), .val (.ref b_1), .val (.int (2 : Int32)), .val (.long ((((1 : Int32).toInt64) * (p2.toInt64)) + (1 : Int64))), .second] [])) t
    refine XS.aloadN X_2.here hx rfl (hb hby d1_53) rfl rfl ?_
    show Steps p.tables e below (T_2.setTop (mkF m 54 #[.val (.int (3 : Int32)), .val (.int p2), .val (.ref b_1), .val (.int (2 : Int32)), .val (.long ((((1 : Int32).toInt64) * (p2.toInt64)) + (1 : Int64))), .second] [(.ref b_1)])) t
    refine XS.iloadN X_2.here hx rfl (hb hby d1_54) rfl ?_
    show Steps p.tables e below (T_2.setTop (mkF m 55 #[.val (.int (3 : Int32)), .val (.int p2), .val (.ref b_1), .val (.int (2 : Int32)), .val (.long ((((1 : Int32).toInt64) * (p2.toInt64)) + (1 : Int64))), .second] [(.int (2 : Int32)), (.ref b_1)])) t
    refine XS.iconst X_2.here hx rfl (hb hby d1_55) ?_
    show Steps p.tables e below (T_2.setTop (mkF m 56 #[.val (.int (3 : Int32)), .val (.int p2), .val (.ref b_1), .val (.int (2 : Int32)), .val (.long ((((1 : Int32).toInt64) * (p2.toInt64)) + (1 : Int64))), .second] [(.int (1 : Int32)), (.int (2 : Int32)), (.ref b_1)])) t
    refine XS.isub X_2.here hx rfl (hb hby d1_56) rfl ?_
    show Steps p.tables e below (T_2.setTop (mkF m 57 #[.val (.int (3 : Int32)), .val (.int p2), .val (.ref b_1), .val (.int (2 : Int32)), .val (.long ((((1 : Int32).toInt64) * (p2.toInt64)) + (1 : Int64))), .second] [(.int (1 : Int32)), (.ref b_1)])) t
    refine XS.lload X_2.here hx rfl (hb hby d1_57) rfl ?_
    show Steps p.tables e below (T_2.setTop (mkF m 59 #[.val (.int (3 : Int32)), .val (.int p2), .val (.ref b_1), .val (.int (2 : Int32)), .val (.long ((((1 : Int32).toInt64) * (p2.toInt64)) + (1 : Int64))), .second] [(.long ((((1 : Int32).toInt64) * (p2.toInt64)) + (1 : Int64))), (.int (1 : Int32)), (.ref b_1)])) t
    refine XS.l2i X_2.here hx rfl (hb hby d1_59) rfl ?_
    exact kt
  have vq_3 := V_2
  obtain ⟨c_3, a_3, q_3, s_3, m_3, H_3, G_3⟩ := vq_3
  have hin_3 : ¬ ((1 : Int32) < 0 ∨ c_3.slots.size ≤ ((1 : Int32)).toNatClampNeg) := inb_of s_3 ⟨by decide, by decide⟩
  obtain ⟨T_3, h_3, X_3, e_3, W_3, st_3⟩ := stI X_2 hx hZ e_2 a_3 (j := (1 : Int32)) hin_3 (g := (mkF m 60 #[.val (.int (3 : Int32)), .val (.int p2), .val (.ref b_1), .val (.int (2 : Int32)), .val (.long ((((1 : Int32).toInt64) * (p2.toInt64)) + (1 : Int64))), .second] [(.int (((((1 : Int32).toInt64) * (p2.toInt64)) + (1 : Int64)).toInt32)), (.int (1 : Int32)), (.ref b_1)])) rfl rfl (hb hby d1_60)
  have V_3 : Arv Z h_3 b_1 k_1 .int (3 : Int32) [(.int (((((2 : Int32).toInt64) * (p2.toInt64)) + (1 : Int64)).toInt32)), (.int (((((1 : Int32).toInt64) * (p2.toInt64)) + (1 : Int64)).toInt32)), (.int (0 : Int32))] (.int (0 : Int32)) := Arv.set a_3 q_3 s_3 m_3 H_3 G_3 rfl W_3 1 rfl (Nat.le_of_ble_eq_true rfl)
  have Z_3 : n0 ≤ h_3.size := Nat.le_trans Z_2 (Keep.of_wr W_3).1
  have kk_3 : Keep h0 h_3 [] := kk_2.wr W_3 (Or.inr sz_b_1)
  have N_3 := Fr.snoc X_3 N_2 g_b_1
  refine own_go (g' := (mkF m 61 #[.val (.int (3 : Int32)), .val (.int p2), .val (.ref b_1), .val (.int (2 : Int32)), .val (.long ((((1 : Int32).toInt64) * (p2.toInt64)) + (1 : Int64))), .second] [])) st_3 ?_
  refine own_go (T' := T_3) (g' := (mkF m 60 #[.val (.int (3 : Int32)), .val (.int p2), .val (.ref b_1), .val (.int (3 : Int32)), .val (.long ((((0 : Int32).toInt64) * (p2.toInt64)) + (1 : Int64))), .second] [(.int (((((0 : Int32).toInt64) * (p2.toInt64)) + (1 : Int64)).toInt32)), (.int (2 : Int32)), (.ref b_1)])) (fun t kt => ?_) ?_
  · show Steps p.tables e below (T_3.setTop (mkF m 61 #[.val (.int (3 : Int32)), .val (.int p2), .val (.ref b_1), .val (.int (2 : Int32)), .val (.long ((((1 : Int32).toInt64) * (p2.toInt64)) + (1 : Int64))), .second] [])) t
    refine XS.iinc X_3.here hx rfl (hb hby d1_61) rfl (l' := #[.val (.int (3 : Int32)), .val (.int p2), .val (.ref b_1), .val (.int (3 : Int32)), .val (.long ((((1 : Int32).toInt64) * (p2.toInt64)) + (1 : Int64))), .second]) rfl ?_
    show Steps p.tables e below (T_3.setTop (mkF m 64 #[.val (.int (3 : Int32)), .val (.int p2), .val (.ref b_1), .val (.int (3 : Int32)), .val (.long ((((1 : Int32).toInt64) * (p2.toInt64)) + (1 : Int64))), .second] [])) t
    refine XS.goto X_3.here hx rfl (pc0 := 64) (pc' := 24) rfl (hb hby d1_64) (by decide) (by decide) ?_
    show Steps p.tables e below (T_3.setTop (mkF m 24 #[.val (.int (3 : Int32)), .val (.int p2), .val (.ref b_1), .val (.int (3 : Int32)), .val (.long ((((1 : Int32).toInt64) * (p2.toInt64)) + (1 : Int64))), .second] [])) t
    refine XS.iloadN X_3.here hx rfl (hb hby d1_24) rfl ?_
    show Steps p.tables e below (T_3.setTop (mkF m 25 #[.val (.int (3 : Int32)), .val (.int p2), .val (.ref b_1), .val (.int (3 : Int32)), .val (.long ((((1 : Int32).toInt64) * (p2.toInt64)) + (1 : Int64))), .second] [(.int (3 : Int32))])) t
    refine XS.iloadN X_3.here hx rfl (hb hby d1_25) rfl ?_
    show Steps p.tables e below (T_3.setTop (mkF m 26 #[.val (.int (3 : Int32)), .val (.int p2), .val (.ref b_1), .val (.int (3 : Int32)), .val (.long ((((1 : Int32).toInt64) * (p2.toInt64)) + (1 : Int64))), .second] [(.int (3 : Int32)), (.int (3 : Int32))])) t
    refine XS.icmpNo X_3.here hx rfl (hb hby d1_26) rfl (flt (by decide : ¬ ((3 : Int32) < (3 : Int32)))).2.2.1 ?_
    show Steps p.tables e below (T_3.setTop (mkF m 29 #[.val (.int (3 : Int32)), .val (.int p2), .val (.ref b_1), .val (.int (3 : Int32)), .val (.long ((((1 : Int32).toInt64) * (p2.toInt64)) + (1 : Int64))), .second] [])) t
    refine XS.iloadN X_3.here hx rfl (hb hby d1_29) rfl ?_
    show Steps p.tables e below (T_3.setTop (mkF m 30 #[.val (.int (3 : Int32)), .val (.int p2), .val (.ref b_1), .val (.int (3 : Int32)), .val (.long ((((1 : Int32).toInt64) * (p2.toInt64)) + (1 : Int64))), .second] [(.int (3 : Int32))])) t
    refine XS.iloadN X_3.here hx rfl (hb hby d1_30) rfl ?_
    show Steps p.tables e below (T_3.setTop (mkF m 31 #[.val (.int (3 : Int32)), .val (.int p2), .val (.ref b_1), .val (.int (3 : Int32)), .val (.long ((((1 : Int32).toInt64) * (p2.toInt64)) + (1 : Int64))), .second] [(.int (3 : Int32)), (.int (3 : Int32))])) t
    refine XS.isub X_3.here hx rfl (hb hby d1_31) rfl ?_
    show Steps p.tables e below (T_3.setTop (mkF m 32 #[.val (.int (3 : Int32)), .val (.int p2), .val (.ref b_1), .val (.int (3 : Int32)), .val (.long ((((1 : Int32).toInt64) * (p2.toInt64)) + (1 : Int64))), .second] [(.int (0 : Int32))])) t
    refine XS.i2l X_3.here hx rfl (hb hby d1_32) rfl ?_
    show Steps p.tables e below (T_3.setTop (mkF m 33 #[.val (.int (3 : Int32)), .val (.int p2), .val (.ref b_1), .val (.int (3 : Int32)), .val (.long ((((1 : Int32).toInt64) * (p2.toInt64)) + (1 : Int64))), .second] [(.long ((0 : Int32).toInt64))])) t
    refine XS.iloadN X_3.here hx rfl (hb hby d1_33) rfl ?_
    show Steps p.tables e below (T_3.setTop (mkF m 34 #[.val (.int (3 : Int32)), .val (.int p2), .val (.ref b_1), .val (.int (3 : Int32)), .val (.long ((((1 : Int32).toInt64) * (p2.toInt64)) + (1 : Int64))), .second] [(.int p2), (.long ((0 : Int32).toInt64))])) t
    refine XS.i2l X_3.here hx rfl (hb hby d1_34) rfl ?_
    show Steps p.tables e below (T_3.setTop (mkF m 35 #[.val (.int (3 : Int32)), .val (.int p2), .val (.ref b_1), .val (.int (3 : Int32)), .val (.long ((((1 : Int32).toInt64) * (p2.toInt64)) + (1 : Int64))), .second] [(.long (p2.toInt64)), (.long ((0 : Int32).toInt64))])) t
    refine XS.lmul X_3.here hx rfl (hb hby d1_35) rfl ?_
    show Steps p.tables e below (T_3.setTop (mkF m 36 #[.val (.int (3 : Int32)), .val (.int p2), .val (.ref b_1), .val (.int (3 : Int32)), .val (.long ((((1 : Int32).toInt64) * (p2.toInt64)) + (1 : Int64))), .second] [(.long (((0 : Int32).toInt64) * (p2.toInt64)))])) t
    refine XS.lconst X_3.here hx rfl (hb hby d1_36) ?_
    show Steps p.tables e below (T_3.setTop (mkF m 37 #[.val (.int (3 : Int32)), .val (.int p2), .val (.ref b_1), .val (.int (3 : Int32)), .val (.long ((((1 : Int32).toInt64) * (p2.toInt64)) + (1 : Int64))), .second] [(.long (1 : Int64)), (.long (((0 : Int32).toInt64) * (p2.toInt64)))])) t
    refine XS.ladd X_3.here hx rfl (hb hby d1_37) rfl ?_
    show Steps p.tables e below (T_3.setTop (mkF m 38 #[.val (.int (3 : Int32)), .val (.int p2), .val (.ref b_1), .val (.int (3 : Int32)), .val (.long ((((1 : Int32).toInt64) * (p2.toInt64)) + (1 : Int64))), .second] [(.long ((((0 : Int32).toInt64) * (p2.toInt64)) + (1 : Int64)))])) t
    refine XS.lstore X_3.here hx rfl (hb hby d1_38) rfl (l' := #[.val (.int (3 : Int32)), .val (.int p2), .val (.ref b_1), .val (.int (3 : Int32)), .val (.long ((((0 : Int32).toInt64) * (p2.toInt64)) + (1 : Int64))), .second]) rfl ?_
    show Steps p.tables e below (T_3.setTop (mkF m 40 #[.val (.int (3 : Int32)), .val (.int p2), .val (.ref b_1), .val (.int (3 : Int32)), .val (.long ((((0 : Int32).toInt64) * (p2.toInt64)) + (1 : Int64))), .second] [])) t
    refine XS.lload X_3.here hx rfl (hb hby d1_40) rfl ?_
    show Steps p.tables e below (T_3.setTop (mkF m 42 #[.val (.int (3 : Int32)), .val (.int p2), .val (.ref b_1), .val (.int (3 : Int32)), .val (.long ((((0 : Int32).toInt64) * (p2.toInt64)) + (1 : Int64))), .second] [(.long ((((0 : Int32).toInt64) * (p2.toInt64)) + (1 : Int64)))])) t
    refine X_3.ldc2Long hx hown (mvT hZ (hw _ (List.mem_of_getElem? (i := 7) rfl))) (g := (mkF m 42 #[.val (.int (3 : Int32)), .val (.int p2), .val (.ref b_1), .val (.int (3 : Int32)), .val (.long ((((0 : Int32).toInt64) * (p2.toInt64)) + (1 : Int64))), .second] [(.long ((((0 : Int32).toInt64) * (p2.toInt64)) + (1 : Int64)))])) rfl (hb hby d1_42) _ ?_
    show Steps p.tables e below (T_3.setTop (mkF m 45 #[.val (.int (3 : Int32)), .val (.int p2), .val (.ref b_1), .val (.int (3 : Int32)), .val (.long ((((0 : Int32).toInt64) * (p2.toInt64)) + (1 : Int64))), .second] [(.long (16777216 : Int64)), (.long ((((0 : Int32).toInt64) * (p2.toInt64)) + (1 : Int64)))])) t
    refine XS.lcmp X_3.here hx rfl (hb hby d1_45) rfl ?_
    show Steps p.tables e below (T_3.setTop (mkF m 46 #[.val (.int (3 : Int32)), .val (.int p2), .val (.ref b_1), .val (.int (3 : Int32)), .val (.long ((((0 : Int32).toInt64) * (p2.toInt64)) + (1 : Int64))), .second] [(.int (lcmpW ((((0 : Int32).toInt64) * (p2.toInt64)) + (1 : Int64)) (16777216 : Int64)))])) t
    refine XS.ifYes X_3.here hx rfl (pc0 := 46) (pc' := 53) rfl (hb hby d1_46) rfl ((if0 _ _).trans (flt (fun q => ((own_w (0 : Int32) p2 (by decide) h1 (by show (0 : Int) * p2.toInt ≤ 16777215; omega)).1 : ¬ ((16777216 : Int64) < ((((0 : Int32).toInt64) * (p2.toInt64)) + (1 : Int64)))) ((lw_gt _ _).mp q))).2.2.2) (by decide) (by decide) ?_
    show Steps p.tables e below (T_3.setTop (mkF m 53 #[.val (.int (3 : Int32)), .val (.int p2), .val (.ref b_1), .val (.int (3 : Int32)), .val (.long ((((0 : Int32).toInt64) * (p2.toInt64)) + (1 : Int64))), .second] [])) t
    refine XS.aloadN X_3.here hx rfl (hb hby d1_53) rfl rfl ?_
    show Steps p.tables e below (T_3.setTop (mkF m 54 #[.val (.int (3 : Int32)), .val (.int p2), .val (.ref b_1), .val (.int (3 : Int32)), .val (.long ((((0 : Int32).toInt64) * (p2.toInt64)) + (1 : Int64))), .second] [(.ref b_1)])) t
    refine XS.iloadN X_3.here hx rfl (hb hby d1_54) rfl ?_
    show Steps p.tables e below (T_3.setTop (mkF m 55 #[.val (.int (3 : Int32)), .val (.int p2), .val (.ref b_1), .val (.int (3 : Int32)), .val (.long ((((0 : Int32).toInt64) * (p2.toInt64)) + (1 : Int64))), .second] [(.int (3 : Int32)), (.ref b_1)])) t
    refine XS.iconst X_3.here hx rfl (hb hby d1_55) ?_
    show Steps p.tables e below (T_3.setTop (mkF m 56 #[.val (.int (3 : Int32)), .val (.int p2), .val (.ref b_1), .val (.int (3 : Int32)), .val (.long ((((0 : Int32).toInt64) * (p2.toInt64)) + (1 : Int64))), .second] [(.int (1 : Int32)), (.int (3 : Int32)), (.ref b_1)])) t
    refine XS.isub X_3.here hx rfl (hb hby d1_56) rfl ?_
    show Steps p.tables e below (T_3.setTop (mkF m 57 #[.val (.int (3 : Int32)), .val (.int p2), .val (.ref b_1), .val (.int (3 : Int32)), .val (.long ((((0 : Int32).toInt64) * (p2.toInt64)) + (1 : Int64))), .second] [(.int (2 : Int32)), (.ref b_1)])) t
    refine XS.lload X_3.here hx rfl (hb hby d1_57) rfl ?_
    show Steps p.tables e below (T_3.setTop (mkF m 59 #[.val (.int (3 : Int32)), .val (.int p2), .val (.ref b_1), .val (.int (3 : Int32)), .val (.long ((((0 : Int32).toInt64) * (p2.toInt64)) + (1 : Int64))), .second] [(.long ((((0 : Int32).toInt64) * (p2.toInt64)) + (1 : Int64))), (.int (2 : Int32)), (.ref b_1)])) t
    refine XS.l2i X_3.here hx rfl (hb hby d1_59) rfl ?_
    exact kt
  have vq_4 := V_3
  obtain ⟨c_4, a_4, q_4, s_4, m_4, H_4, G_4⟩ := vq_4
  have hin_4 : ¬ ((2 : Int32) < 0 ∨ c_4.slots.size ≤ ((2 : Int32)).toNatClampNeg) := inb_of s_4 ⟨by decide, by decide⟩
  obtain ⟨T_4, h_4, X_4, e_4, W_4, st_4⟩ := stI X_3 hx hZ e_3 a_4 (j := (2 : Int32)) hin_4 (g := (mkF m 60 #[.val (.int (3 : Int32)), .val (.int p2), .val (.ref b_1), .val (.int (3 : Int32)), .val (.long ((((0 : Int32).toInt64) * (p2.toInt64)) + (1 : Int64))), .second] [(.int (((((0 : Int32).toInt64) * (p2.toInt64)) + (1 : Int64)).toInt32)), (.int (2 : Int32)), (.ref b_1)])) rfl rfl (hb hby d1_60)
  have V_4 : Arv Z h_4 b_1 k_1 .int (3 : Int32) [(.int (((((2 : Int32).toInt64) * (p2.toInt64)) + (1 : Int64)).toInt32)), (.int (((((1 : Int32).toInt64) * (p2.toInt64)) + (1 : Int64)).toInt32)), (.int (((((0 : Int32).toInt64) * (p2.toInt64)) + (1 : Int64)).toInt32))] (.int (0 : Int32)) := Arv.set a_4 q_4 s_4 m_4 H_4 G_4 rfl W_4 2 rfl (Nat.le_of_ble_eq_true rfl)
  have Z_4 : n0 ≤ h_4.size := Nat.le_trans Z_3 (Keep.of_wr W_4).1
  have kk_4 : Keep h0 h_4 [] := kk_3.wr W_4 (Or.inr sz_b_1)
  have N_4 := Fr.snoc X_4 N_3 g_b_1
  refine own_go (g' := (mkF m 61 #[.val (.int (3 : Int32)), .val (.int p2), .val (.ref b_1), .val (.int (3 : Int32)), .val (.long ((((0 : Int32).toInt64) * (p2.toInt64)) + (1 : Int64))), .second] [])) st_4 ?_
  refine own_go (T' := T_4) (g' := (mkF m 68 #[.val (.int (3 : Int32)), .val (.int p2), .val (.ref b_1), .val (.int (4 : Int32)), .val (.long ((((0 : Int32).toInt64) * (p2.toInt64)) + (1 : Int64))), .second] [(.ref b_1)])) (fun t kt => ?_) ?_
  · show Steps p.tables e below (T_4.setTop (mkF m 61 #[.val (.int (3 : Int32)), .val (.int p2), .val (.ref b_1), .val (.int (3 : Int32)), .val (.long ((((0 : Int32).toInt64) * (p2.toInt64)) + (1 : Int64))), .second] [])) t
    refine XS.iinc X_4.here hx rfl (hb hby d1_61) rfl (l' := #[.val (.int (3 : Int32)), .val (.int p2), .val (.ref b_1), .val (.int (4 : Int32)), .val (.long ((((0 : Int32).toInt64) * (p2.toInt64)) + (1 : Int64))), .second]) rfl ?_
    show Steps p.tables e below (T_4.setTop (mkF m 64 #[.val (.int (3 : Int32)), .val (.int p2), .val (.ref b_1), .val (.int (4 : Int32)), .val (.long ((((0 : Int32).toInt64) * (p2.toInt64)) + (1 : Int64))), .second] [])) t
    refine XS.goto X_4.here hx rfl (pc0 := 64) (pc' := 24) rfl (hb hby d1_64) (by decide) (by decide) ?_
    show Steps p.tables e below (T_4.setTop (mkF m 24 #[.val (.int (3 : Int32)), .val (.int p2), .val (.ref b_1), .val (.int (4 : Int32)), .val (.long ((((0 : Int32).toInt64) * (p2.toInt64)) + (1 : Int64))), .second] [])) t
    refine XS.iloadN X_4.here hx rfl (hb hby d1_24) rfl ?_
    show Steps p.tables e below (T_4.setTop (mkF m 25 #[.val (.int (3 : Int32)), .val (.int p2), .val (.ref b_1), .val (.int (4 : Int32)), .val (.long ((((0 : Int32).toInt64) * (p2.toInt64)) + (1 : Int64))), .second] [(.int (4 : Int32))])) t
    refine XS.iloadN X_4.here hx rfl (hb hby d1_25) rfl ?_
    show Steps p.tables e below (T_4.setTop (mkF m 26 #[.val (.int (3 : Int32)), .val (.int p2), .val (.ref b_1), .val (.int (4 : Int32)), .val (.long ((((0 : Int32).toInt64) * (p2.toInt64)) + (1 : Int64))), .second] [(.int (3 : Int32)), (.int (4 : Int32))])) t
    refine XS.icmpYes X_4.here hx rfl (pc0 := 26) (pc' := 67) rfl (hb hby d1_26) rfl (tlt (by decide : (3 : Int32) < (4 : Int32))).2.2.1 (by decide) (by decide) ?_
    show Steps p.tables e below (T_4.setTop (mkF m 67 #[.val (.int (3 : Int32)), .val (.int p2), .val (.ref b_1), .val (.int (4 : Int32)), .val (.long ((((0 : Int32).toInt64) * (p2.toInt64)) + (1 : Int64))), .second] [])) t
    refine XS.aloadN X_4.here hx rfl (hb hby d1_67) rfl rfl ?_
    exact kt
  obtain ⟨fs, hr, hrun, hended, hW, hsame⟩ := X_4.leave (v := some (.ref b_1)) (fun h => by rw [Bd.returns] at h; cases h)
  refine ⟨_, _, ?_, hrun, hended, _, _, rfl, ?_, ⟨_, rfl⟩, hW, hsame.mono (by decide) (by decide)⟩
  · show Steps p.tables e below (T_4.setTop (mkF m 68 #[.val (.int (3 : Int32)), .val (.int p2), .val (.ref b_1), .val (.int (4 : Int32)), .val (.long ((((0 : Int32).toInt64) * (p2.toInt64)) + (1 : Int64))), .second] [(.ref b_1)])) _
    jvm_step X_4.here [X_4.here.top, hx, (hb hby d1_68), X_4.method', Bd.returns, Value.isRef, FieldType.isReference]
    first | (intro acts; rw [hr _ acts rfl rfl rfl]) | rw [hr _ _ rfl rfl rfl]
    exact Steps.refl _
  · show Q_rd3 Z _ h0 n0 _ T_4.heap _
    rw [e_4]
    exact ⟨_, _, rfl, N_4, kk_4, sz_b_1, V_4⟩
def Q_rd4 (Z : State) (p2 : Int32) (h0 : Heap) (n0 : Nat) (v : Option Value) (h : Heap) (L : List Loc) : Prop := ∃ b kA, v = some (.ref b) ∧ Fr n0 L ∧ Keep h0 h [] ∧ h0.size ≤ b ∧ Arv Z h b kA .int (4 : Int32) [(.int (own_fr (3 : Int32) p2)), (.int (own_fr (2 : Int32) p2)), (.int (own_fr (1 : Int32) p2)), (.int (own_fr (0 : Int32) p2))] (.int (0 : Int32))
set_option maxRecDepth 65536 in
set_option maxHeartbeats 40000000 in
theorem rd4 (l : Launch) (Z : State) (a0 : Array Value) (hw : ∀ d ∈ tables_1, d.before a0 Z = true) (ws : List Jvm.Cond) (p2 : Int32) (h0 : Heap) (n0 : Nat) (Z0 : n0 ≤ h0.size) (hd : ¬ (p2 < (0 : Int32))) (h1 : 0 ≤ p2.toInt) (hmax : (3 : Int) * p2.toInt ≤ 16777215) :
    MetFree l (⟨"com/example/orrery/orrery/Program", "deltaFreqs", "(II)[I"⟩ : MethodName) (head1 (Jvm.Cond.code (⟨"com/example/orrery/orrery/Program", "deltaFreqs", "(II)[I"⟩ : MethodName) prog_25_method_3_code 6 (some (.array .int)) :: ws) ({ frames := 0, cells := 1, slots := 4, locals := 0 } : Room)) (fun a U => a = #[(.int (4 : Int32)), (.int p2)] ∧ Z.Warmed39 U.vm ∧ U.heap = h0) (fun _ _ _ _ _ => True) (fun _ U o U' => ∃ v L, o = .returned v ∧ Q_rd4 Z p2 h0 n0 v U'.heap L ∧ FrameEnd U o U' L ({ frames := 0, cells := 1, slots := 4, locals := 0 } : Room).cells ({ frames := 0, cells := 1, slots := 4, locals := 0 } : Room).slots) := by
  refine MetFree.of_bodySF (plainFor_of_name pn_1) hisR ?_
  intro p e s m args below meth c s₁ Bd hml0 hP hK
  obtain ⟨rfl, hZ, hh⟩ := hP
  have hx := Bd.exec
  have hby := Bd.bytes
  have hml : c.maxLocals = 6 := hml0
  have hown : s.vm.findClass "com/example/orrery/orrery/Program" = some m.cls := findClass_of_methodNamed Bd.named
  have hnm := (name_of_methodNamed Bd.named Bd.method).1
  have X0 : Stand p l e ({ frames := 0, cells := 1, slots := 4, locals := 0 } : Room) s m #[(.int (4 : Int32)), (.int p2)] below meth c s₁ [] 0 0 := Stand.of_body Bd
  have e0 : s₁.heap = h0 := by rw [← hh, Bd.state]; rfl
  have N0 := Fr.nil n0
  refine own_go (g' := (mkF m 0 #[.val (.int (4 : Int32)), .val (.int p2), .unset, .unset, .unset, .unset] [])) (fun t k => castTop (ef_1 m ((4 : Int32)) (p2)) k) ?_
  refine own_go (T' := s₁) (g' := (mkF m 19 #[.val (.int (4 : Int32)), .val (.int p2), .unset, .unset, .unset, .unset] [(.int (4 : Int32))])) (fun t kt => ?_) ?_
  · show Steps p.tables e below (s₁.setTop (mkF m 0 #[.val (.int (4 : Int32)), .val (.int p2), .unset, .unset, .unset, .unset] [])) t
    refine XS.iloadN X0.here hx rfl (hb hby d1_0) rfl ?_
    show Steps p.tables e below (s₁.setTop (mkF m 1 #[.val (.int (4 : Int32)), .val (.int p2), .unset, .unset, .unset, .unset] [(.int p2)])) t
    refine XS.ifYes X0.here hx rfl (pc0 := 1) (pc' := 18) rfl (hb hby d1_1) rfl ((if0 _ _).trans (flt (hd : ¬ (p2 < (0 : Int32)))).2.1) (by decide) (by decide) ?_
    show Steps p.tables e below (s₁.setTop (mkF m 18 #[.val (.int (4 : Int32)), .val (.int p2), .unset, .unset, .unset, .unset] [])) t
    refine XS.iloadN X0.here hx rfl (hb hby d1_18) rfl ?_
    exact kt
  obtain ⟨T_1, h_1, k_1, X_1, e_1, E_1, A_1, B_1, st_1⟩ := newPE X0 hx hZ (hw _ (List.mem_of_getElem? (i := 5) rfl)) e0 (g := (mkF m 19 #[.val (.int (4 : Int32)), .val (.int p2), .unset, .unset, .unset, .unset] [(.int (4 : Int32))])) rfl (hb hby d1_19) rfl (by decide) (cap := 4) (by decide) (by decide) (by decide) (by decide) (ad := "[I") (by decide)
  obtain ⟨b_1, g_1⟩ : ∃ z, z = h0.size := ⟨_, rfl⟩
  rw [← g_1] at A_1 B_1 st_1
  have g_b_1 : n0 ≤ b_1 := Nat.le_trans Z0 (Nat.le_of_eq g_1.symm)
  have sz_b_1 : h0.size ≤ b_1 := Nat.le_trans (Keep.refl h0 []).1 (Nat.le_of_eq g_1.symm)
  have Z_1 : n0 ≤ h_1.size := Nat.le_trans Z0 E_1.1
  have kk_1 : Keep h0 h_1 [] := (Keep.refl h0 []).ext E_1
  have V_1 : Arv Z h_1 b_1 k_1 .int (4 : Int32) [(.int (0 : Int32)), (.int (0 : Int32)), (.int (0 : Int32)), (.int (0 : Int32))] (.int (0 : Int32)) := (Arv.new A_1 (by decide)).pad (pad_rep [] (.int (0 : Int32)) 4)
  refine own_go (g' := (mkF m 21 #[.val (.int (4 : Int32)), .val (.int p2), .unset, .unset, .unset, .unset] [(.ref b_1)])) st_1 ?_
  refine own_go (T' := T_1) (g' := (mkF m 60 #[.val (.int (4 : Int32)), .val (.int p2), .val (.ref b_1), .val (.int (1 : Int32)), .val (.long ((((3 : Int32).toInt64) * (p2.toInt64)) + (1 : Int64))), .second] [(.int (((((3 : Int32).toInt64) * (p2.toInt64)) + (1 : Int64)).toInt32)), (.int (0 : Int32)), (.ref b_1)])) (fun t kt => ?_) ?_
  · show Steps p.tables e below (T_1.setTop (mkF m 21 #[.val (.int (4 : Int32)), .val (.int p2), .unset, .unset, .unset, .unset] [(.ref b_1)])) t
    refine XS.astoreN X_1.here hx rfl (hb hby d1_21) rfl rfl (l' := #[.val (.int (4 : Int32)), .val (.int p2), .val (.ref b_1), .unset, .unset, .unset]) rfl ?_
    show Steps p.tables e below (T_1.setTop (mkF m 22 #[.val (.int (4 : Int32)), .val (.int p2), .val (.ref b_1), .unset, .unset, .unset] [])) t
    refine XS.iconst X_1.here hx rfl (hb hby d1_22) ?_
    show Steps p.tables e below (T_1.setTop (mkF m 23 #[.val (.int (4 : Int32)), .val (.int p2), .val (.ref b_1), .unset, .unset, .unset] [(.int (1 : Int32))])) t
    refine XS.istoreN X_1.here hx rfl (hb hby d1_23) rfl (l' := #[.val (.int (4 : Int32)), .val (.int p2), .val (.ref b_1), .val (.int (1 : Int32)), .unset, .unset]) rfl ?_
    show Steps p.tables e below (T_1.setTop (mkF m 24 #[.val (.int (4 : Int32)), .val (.int p2), .val (.ref b_1), .val (.int (1 : Int32)), .unset, .unset] [])) t
    refine XS.iloadN X_1.here hx rfl (hb hby d1_24) rfl ?_
    show Steps p.tables e below (T_1.setTop (mkF m 25 #[.val (.int (4 : Int32)), .val (.int p2), .val (.ref b_1), .val (.int (1 : Int32)), .unset, .unset] [(.int (1 : Int32))])) t
    refine XS.iloadN X_1.here hx rfl (hb hby d1_25) rfl ?_
    show Steps p.tables e below (T_1.setTop (mkF m 26 #[.val (.int (4 : Int32)), .val (.int p2), .val (.ref b_1), .val (.int (1 : Int32)), .unset, .unset] [(.int (4 : Int32)), (.int (1 : Int32))])) t
    refine XS.icmpNo X_1.here hx rfl (hb hby d1_26) rfl (flt (by decide : ¬ ((4 : Int32) < (1 : Int32)))).2.2.1 ?_
    show Steps p.tables e below (T_1.setTop (mkF m 29 #[.val (.int (4 : Int32)), .val (.int p2), .val (.ref b_1), .val (.int (1 : Int32)), .unset, .unset] [])) t
    refine XS.iloadN X_1.here hx rfl (hb hby d1_29) rfl ?_
    show Steps p.tables e below (T_1.setTop (mkF m 30 #[.val (.int (4 : Int32)), .val (.int p2), .val (.ref b_1), .val (.int (1 : Int32)), .unset, .unset] [(.int (4 : Int32))])) t
    refine XS.iloadN X_1.here hx rfl (hb hby d1_30) rfl ?_
    show Steps p.tables e below (T_1.setTop (mkF m 31 #[.val (.int (4 : Int32)), .val (.int p2), .val (.ref b_1), .val (.int (1 : Int32)), .unset, .unset] [(.int (1 : Int32)), (.int (4 : Int32))])) t
    refine XS.isub X_1.here hx rfl (hb hby d1_31) rfl ?_
    show Steps p.tables e below (T_1.setTop (mkF m 32 #[.val (.int (4 : Int32)), .val (.int p2), .val (.ref b_1), .val (.int (1 : Int32)), .unset, .unset] [(.int (3 : Int32))])) t
    refine XS.i2l X_1.here hx rfl (hb hby d1_32) rfl ?_
    show Steps p.tables e below (T_1.setTop (mkF m 33 #[.val (.int (4 : Int32)), .val (.int p2), .val (.ref b_1), .val (.int (1 : Int32)), .unset, .unset] [(.long ((3 : Int32).toInt64))])) t
    refine XS.iloadN X_1.here hx rfl (hb hby d1_33) rfl ?_
    show Steps p.tables e below (T_1.setTop (mkF m 34 #[.val (.int (4 : Int32)), .val (.int p2), .val (.ref b_1), .val (.int (1 : Int32)), .unset, .unset] [(.int p2), (.long ((3 : Int32).toInt64))])) t
    refine XS.i2l X_1.here hx rfl (hb hby d1_34) rfl ?_
    show Steps p.tables e below (T_1.setTop (mkF m 35 #[.val (.int (4 : Int32)), .val (.int p2), .val (.ref b_1), .val (.int (1 : Int32)), .unset, .unset] [(.long (p2.toInt64)), (.long ((3 : Int32).toInt64))])) t
    refine XS.lmul X_1.here hx rfl (hb hby d1_35) rfl ?_
    show Steps p.tables e below (T_1.setTop (mkF m 36 #[.val (.int (4 : Int32)), .val (.int p2), .val (.ref b_1), .val (.int (1 : Int32)), .unset, .unset] [(.long (((3 : Int32).toInt64) * (p2.toInt64)))])) t
    refine XS.lconst X_1.here hx rfl (hb hby d1_36) ?_
    show Steps p.tables e below (T_1.setTop (mkF m 37 #[.val (.int (4 : Int32)), .val (.int p2), .val (.ref b_1), .val (.int (1 : Int32)), .unset, .unset] [(.long (1 : Int64)), (.long (((3 : Int32).toInt64) * (p2.toInt64)))])) t
    refine XS.ladd X_1.here hx rfl (hb hby d1_37) rfl ?_
    show Steps p.tables e below (T_1.setTop (mkF m 38 #[.val (.int (4 : Int32)), .val (.int p2), .val (.ref b_1), .val (.int (1 : Int32)), .unset, .unset] [(.long ((((3 : Int32).toInt64) * (p2.toInt64)) + (1 : Int64)))])) t
    refine XS.lstore X_1.here hx rfl (hb hby d1_38) rfl (l' := #[.val (.int (4 : Int32)), .val (.int p2), .val (.ref b_1), .val (.int (1 : Int32)), .val (.long ((((3 : Int32).toInt64) * (p2.toInt64)) + (1 : Int64))), .second]) rfl ?_
    show Steps p.tables e below (T_1.setTop (mkF m 40 #[.val (.int (4 : Int32)), .val (.int p2), .val (.ref b_1), .val (.int (1 : Int32)), .val (.long ((((3 : Int32).toInt64) * (p2.toInt64)) + (1 : Int64))), .second] [])) t
    refine XS.lload X_1.here hx rfl (hb hby d1_40) rfl ?_
    show Steps p.tables e below (T_1.setTop (mkF m 42 #[.val (.int (4 : Int32)), .val (.int p2), .val (.ref b_1), .val (.int (1 : Int32)), .val (.long ((((3 : Int32).toInt64) * (p2.toInt64)) + (1 : Int64))), .second] [(.long ((((3 : Int32).toInt64) * (p2.toInt64)) + (1 : Int64)))])) t
    refine X_1.ldc2Long hx hown (mvT hZ (hw _ (List.mem_of_getElem? (i := 7) rfl))) (g := (mkF m 42 #[.val (.int (4 : Int32)), .val (.int p2), .val (.ref b_1), .val (.int (1 : Int32)), .val (.long ((((3 : Int32).toInt64) * (p2.toInt64)) + (1 : Int64))), .second] [(.long ((((3 : Int32).toInt64) * (p2.toInt64)) + (1 : Int64)))])) rfl (hb hby d1_42) _ ?_
    show Steps p.tables e below (T_1.setTop (mkF m 45 #[.val (.int (4 : Int32)), .val (.int p2), .val (.ref b_1), .val (.int (1 : Int32)), .val (.long ((((3 : Int32).toInt64) * (p2.toInt64)) + (1 : Int64))), .second] [(.long (16777216 : Int64)), (.long ((((3 : Int32).toInt64) * (p2.toInt64)) + (1 : Int64)))])) t
    refine XS.lcmp X_1.here hx rfl (hb hby d1_45) rfl ?_
    show Steps p.tables e below (T_1.setTop (mkF m 46 #[.val (.int (4 : Int32)), .val (.int p2), .val (.ref b_1), .val (.int (1 : Int32)), .val (.long ((((3 : Int32).toInt64) * (p2.toInt64)) + (1 : Int64))), .second] [(.int (lcmpW ((((3 : Int32).toInt64) * (p2.toInt64)) + (1 : Int64)) (16777216 : Int64)))])) t
    refine XS.ifYes X_1.here hx rfl (pc0 := 46) (pc' := 53) rfl (hb hby d1_46) rfl ((if0 _ _).trans (flt (fun q => ((own_w (3 : Int32) p2 (by decide) h1 (by show (3 : Int) * p2.toInt ≤ 16777215; omega)).1 : ¬ ((16777216 : Int64) < ((((3 : Int32).toInt64) * (p2.toInt64)) + (1 : Int64)))) ((lw_gt _ _).mp q))).2.2.2) (by decide) (by decide) ?_
    show Steps p.tables e below (T_1.setTop (mkF m 53 #[.val (.int (4 : Int32)), .val (.int p2), .val (.ref b_1), .val (.int (1 : Int32)), .val (.long ((((3 : Int32).toInt64) * (p2.toInt64)) + (1 : Int64))), .second] [])) t
    refine XS.aloadN X_1.here hx rfl (hb hby d1_53) rfl rfl ?_
    show Steps p.tables e below (T_1.setTop (mkF m 54 #[.val (.int (4 : Int32)), .val (.int p2), .val (.ref b_1), .val (.int (1 : Int32)), .val (.long ((((3 : Int32).toInt64) * (p2.toInt64)) + (1 : Int64))), .second] [(.ref b_1)])) t
    refine XS.iloadN X_1.here hx rfl (hb hby d1_54) rfl ?_
    show Steps p.tables e below (T_1.setTop (mkF m 55 #[.val (.int (4 : Int32)), .val (.int p2), .val (.ref b_1), .val (.int (1 : Int32)), .val (.long ((((3 : Int32).toInt64) * (p2.toInt64)) + (1 : Int64))), .second] [(.int (1 : Int32)), (.ref b_1)])) t
    refine XS.iconst X_1.here hx rfl (hb hby d1_55) ?_
    show Steps p.tables e below (T_1.setTop (mkF m 56 #[.val (.int (4 : Int32)), .val (.int p2), .val (.ref b_1), .val (.int (1 : Int32)), .val (.long ((((3 : Int32).toInt64) * (p2.toInt64)) + (1 : Int64))), .second] [(.int (1 : Int32)), (.int (1 : Int32)), (.ref b_1)])) t
    refine XS.isub X_1.here hx rfl (hb hby d1_56) rfl ?_
    show Steps p.tables e below (T_1.setTop (mkF m 57 #[.val (.int (4 : Int32)), .val (.int p2), .val (.ref b_1), .val (.int (1 : Int32)), .val (.long ((((3 : Int32).toInt64) * (p2.toInt64)) + (1 : Int64))), .second] [(.int (0 : Int32)), (.ref b_1)])) t
    refine XS.lload X_1.here hx rfl (hb hby d1_57) rfl ?_
    show Steps p.tables e below (T_1.setTop (mkF m 59 #[.val (.int (4 : Int32)), .val (.int p2), .val (.ref b_1), .val (.int (1 : Int32)), .val (.long ((((3 : Int32).toInt64) * (p2.toInt64)) + (1 : Int64))), .second] [(.long ((((3 : Int32).toInt64) * (p2.toInt64)) + (1 : Int64))), (.int (0 : Int32)), (.ref b_1)])) t
    refine XS.l2i X_1.here hx rfl (hb hby d1_59) rfl ?_
    exact kt
  have vq_2 := V_1
  obtain ⟨c_2, a_2, q_2, s_2, m_2, H_2, G_2⟩ := vq_2
  have hin_2 : ¬ ((0 : Int32) < 0 ∨ c_2.slots.size ≤ ((0 : Int32)).toNatClampNeg) := inb_of s_2 ⟨by decide, by decide⟩
  obtain ⟨T_2, h_2, X_2, e_2, W_2, st_2⟩ := stI X_1 hx hZ e_1 a_2 (j := (0 : Int32)) hin_2 (g := (mkF m 60 #[.val (.int (4 : Int32)), .val (.int p2), .val (.ref b_1), .val (.int (1 : Int32)), .val (.long ((((3 : Int32).toInt64) * (p2.toInt64)) + (1 : Int64))), .second] [(.int (((((3 : Int32).toInt64) * (p2.toInt64)) + (1 : Int64)).toInt32)), (.int (0 : Int32)), (.ref b_1)])) rfl rfl (hb hby d1_60)
  have V_2 : Arv Z h_2 b_1 k_1 .int (4 : Int32) [(.int (((((3 : Int32).toInt64) * (p2.toInt64)) + (1 : Int64)).toInt32)), (.int (0 : Int32)), (.int (0 : Int32)), (.int (0 : Int32))] (.int (0 : Int32)) := Arv.set a_2 q_2 s_2 m_2 H_2 G_2 rfl W_2 0 rfl (Nat.le_of_ble_eq_true rfl)
  have Z_2 : n0 ≤ h_2.size := Nat.le_trans Z_1 (Keep.of_wr W_2).1
  have kk_2 : Keep h0 h_2 [] := kk_1.wr W_2 (Or.inr sz_b_1)
  have N_2 := Fr.snoc X_2 N0 g_b_1
  refine own_go (g' := (mkF m 61 #[.val (.int (4 : Int32)), .val (.int p2), .val (.ref b_1), .val (.int (1 : Int32)), .val (.long ((((3 : Int32).toInt64) * (p2.toInt64)) + (1 : Int64))), .second] [])) st_2 ?_
  refine own_go (T' := T_2) (g' := (mkF m 60 #[.val (.int (4 : Int32)), .val (.int p2), .val (.ref b_1), .val (.int (2 : Int32)), .val (.long ((((2 : Int32).toInt64) * (p2.toInt64)) + (1 : Int64))), .second] [(.int (((((2 : Int32).toInt64) * (p2.toInt64)) + (1 : Int64)).toInt32)), (.int (1 : Int32)), (.ref b_1)])) (fun t kt => ?_) ?_
  · show Steps p.tables e below (T_2.setTop (mkF m 61 #[.val (.int (4 : Int32)), .val (.int p2), .val (.ref b_1), .val (.int (1 : Int32)), .val (.long ((((3 : Int32).toInt64) * (p2.toInt64)) + (1 : Int64))), .second] [])) t
    refine XS.iinc X_2.here hx rfl (hb hby d1_61) rfl (l' := #[.val (.int (4 : Int32)), .val (.int p2), .val (.ref b_1), .val (.int (2 : Int32)), .val (.long ((((3 : Int32).toInt64) * (p2.toInt64)) + (1 : Int64))), .second]) rfl ?_
    show Steps p.tables e below (T_2.setTop (mkF m 64 #[.val (.int (4 : Int32)), .val (.int p2), .val (.ref b_1), .val (.int (2 : Int32)), .val (.long ((((3 : Int32).toInt64) * (p2.toInt64)) + (1 : Int64))), .second] [])) t
    refine XS.goto X_2.here hx rfl (pc0 := 64) (pc' := 24) rfl (hb hby d1_64) (by decide) (by decide) ?_
    show Steps p.tables e below (T_2.setTop (mkF m 24 #[.val (.int (4 : Int32)), .val (.int p2), .val (.ref b_1), .val (.int (2 : Int32)), .val (.long ((((3 : Int32).toInt64) * (p2.toInt64)) + (1 : Int64))), .second] [])) t
    refine XS.iloadN X_2.here hx rfl (hb hby d1_24) rfl ?_
    show Steps p.tables e below (T_2.setTop (mkF m 25 #[.val (.int (4 : Int32)), .val (.int p2), .val (.ref b_1), .val (.int (2 : Int32)), .val (.long ((((3 : Int32).toInt64) * (p2.toInt64)) + (1 : Int64))), .second] [(.int (2 : Int32))])) t
    refine XS.iloadN X_2.here hx rfl (hb hby d1_25) rfl ?_
    show Steps p.tables e below (T_2.setTop (mkF m 26 #[.val (.int (4 : Int32)), .val (.int p2), .val (.ref b_1), .val (.int (2 : Int32)), .val (.long ((((3 : Int32).toInt64) * (p2.toInt64)) + (1 : Int64))), .second] [(.int (4 : Int32)), (.int (2 : Int32))])) t
    refine XS.icmpNo X_2.here hx rfl (hb hby d1_26) rfl (flt (by decide : ¬ ((4 : Int32) < (2 : Int32)))).2.2.1 ?_
    show Steps p.tables e below (T_2.setTop (mkF m 29 #[.val (.int (4 : Int32)), .val (.int p2), .val (.ref b_1), .val (.int (2 : Int32)), .val (.long ((((3 : Int32).toInt64) * (p2.toInt64)) + (1 : Int64))), .second] [])) t
    refine XS.iloadN X_2.here hx rfl (hb hby d1_29) rfl ?_
    show Steps p.tables e below (T_2.setTop (mkF m 30 #[.val (.int (4 : Int32)), .val (.int p2), .val (.ref b_1), .val (.int (2 : Int32)), .val (.long ((((3 : Int32).toInt64) * (p2.toInt64)) + (1 : Int64))), .second] [(.int (4 : Int32))])) t
    refine XS.iloadN X_2.here hx rfl (hb hby d1_30) rfl ?_
    show Steps p.tables e below (T_2.setTop (mkF m 31 #[.val (.int (4 : Int32)), .val (.int p2), .val (.ref b_1), .val (.int (2 : Int32)), .val (.long ((((3 : Int32).toInt64) * (p2.toInt64)) + (1 : Int64))), .second] [(.int (2 : Int32)), (.int (4 : Int32))])) t
    refine XS.isub X_2.here hx rfl (hb hby d1_31) rfl ?_
    show Steps p.tables e below (T_2.setTop (mkF m 32 #[.val (.int (4 : Int32)), .val (.int p2), .val (.ref b_1), .val (.int (2 : Int32)), .val (.long ((((3 : Int32).toInt64) * (p2.toInt64)) + (1 : Int64))), .second] [(.int (2 : Int32))])) t
    refine XS.i2l X_2.here hx rfl (hb hby d1_32) rfl ?_
    show Steps p.tables e below (T_2.setTop (mkF m 33 #[.val (.int (4 : Int32)), .val (.int p2), .val (.ref b_1), .val (.int (2 : Int32)), .val (.long ((((3 : Int32).toInt64) * (p2.toInt64)) + (1 : Int64))), .second] [(.long ((2 : Int32).toInt64))])) t
    refine XS.iloadN X_2.here hx rfl (hb hby d1_33) rfl ?_
    show Steps p.tables e below (T_2.setTop (mkF m 34 #[.val (.int (4 : Int32)), .val (.int p2), .val (.ref b_1), .val (.int (2 : Int32)), .val (.long ((((3 : Int32).toInt64) * (p2.toInt64)) + (1 : Int64))), .second] [(.int p2), (.long ((2 : Int32).toInt64))])) t
    refine XS.i2l X_2.here hx rfl (hb hby d1_34) rfl ?_
    show Steps p.tables e below (T_2.setTop (mkF m 35 #[.val (.int (4 : Int32)), .val (.int p2), .val (.ref b_1), .val (.int (2 : Int32)), .val (.long ((((3 : Int32).toInt64) * (p2.toInt64)) + (1 : Int64))), .second] [(.long (p2.toInt64)), (.long ((2 : Int32).toInt64))])) t
    refine XS.lmul X_2.here hx rfl (hb hby d1_35) rfl ?_
    show Steps p.tables e below (T_2.setTop (mkF m 36 #[.val (.int (4 : Int32)), .val (.int p2), .val (.ref b_1), .val (.int (2 : Int32)), .val (.long ((((3 : Int32).toInt64) * (p2.toInt64)) + (1 : Int64))), .second] [(.long (((2 : Int32).toInt64) * (p2.toInt64)))])) t
    refine XS.lconst X_2.here hx rfl (hb hby d1_36) ?_
    show Steps p.tables e below (T_2.setTop (mkF m 37 #[.val (.int (4 : Int32)), .val (.int p2), .val (.ref b_1), .val (.int (2 : Int32)), .val (.long ((((3 : Int32).toInt64) * (p2.toInt64)) + (1 : Int64))), .second] [(.long (1 : Int64)), (.long (((2 : Int32).toInt64) * (p2.toInt64)))])) t
    refine XS.ladd X_2.here hx rfl (hb hby d1_37) rfl ?_
    show Steps p.tables e below (T_2.setTop (mkF m 38 #[.val (.int (4 : Int32)), .val (.int p2), .val (.ref b_1), .val (.int (2 : Int32)), .val (.long ((((3 : Int32).toInt64) * (p2.toInt64)) + (1 : Int64))), .second] [(.long ((((2 : Int32).toInt64) * (p2.toInt64)) + (1 : Int64)))])) t
    refine XS.lstore X_2.here hx rfl (hb hby d1_38) rfl (l' := #[.val (.int (4 : Int32)), .val (.int p2), .val (.ref b_1), .val (.int (2 : Int32)), .val (.long ((((2 : Int32).toInt64) * (p2.toInt64)) + (1 : Int64))), .second]) rfl ?_
    show Steps p.tables e below (T_2.setTop (mkF m 40 #[.val (.int (4 : Int32)), .val (.int p2), .val (.ref b_1), .val (.int (2 : Int32)), .val (.long ((((2 : Int32).toInt64) * (p2.toInt64)) + (1 : Int64))), .second] [])) t
    refine XS.lload X_2.here hx rfl (hb hby d1_40) rfl ?_
    show Steps p.tables e below (T_2.setTop (mkF m 42 #[.val (.int (4 : Int32)), .val (.int p2), .val (.ref b_1), .val (.int (2 : Int32)), .val (.long ((((2 : Int32).toInt64) * (p2.toInt64)) + (1 : Int64))), .second] [(.long ((((2 : Int32).toInt64) * (p2.toInt64)) + (1 : Int64)))])) t
    refine X_2.ldc2Long hx hown (mvT hZ (hw _ (List.mem_of_getElem? (i := 7) rfl))) (g := (mkF m 42 #[.val (.int (4 : Int32)), .val (.int p2), .val (.ref b_1), .val (.int (2 : Int32)), .val (.long ((((2 : Int32).toInt64) * (p2.toInt64)) + (1 : Int64))), .second] [(.long ((((2 : Int32).toInt64) * (p2.toInt64)) + (1 : Int64)))])) rfl (hb hby d1_42) _ ?_
    show Steps p.tables e below (T_2.setTop (mkF m 45 #[.val (.int (4 : Int32)), .val (.int p2), .val (.ref b_1), .val (.int (2 : Int32)), .val (.long ((((2 : Int32).toInt64) * (p2.toInt64)) + (1 : Int64))), .second] [(.long (16777216 : Int64)), (.long ((((2 : Int32).toInt64) * (p2.toInt64)) + (1 : Int64)))])) t
    refine XS.lcmp X_2.here hx rfl (hb hby d1_45) rfl ?_
    show Steps p.tables e below (T_2.setTop (mkF m 46 #[.val (.int (4 : Int32)), .val (.int p2), .val (.ref b_1), .val (.int (2 : Int32)), .val (.long ((((2 : Int32).toInt64) * (p2.toInt64)) + (1 : Int64))), .second] [(.int (lcmpW ((((2 : Int32).toInt64) * (p2.toInt64)) + (1 : Int64)) (16777216 : Int64)))])) t
    refine XS.ifYes X_2.here hx rfl (pc0 := 46) (pc' := 53) rfl (hb hby d1_46) rfl ((if0 _ _).trans (flt (fun q => ((own_w (2 : Int32) p2 (by decide) h1 (by show (2 : Int) * p2.toInt ≤ 16777215; omega)).1 : ¬ ((16777216 : Int64) < ((((2 : Int32).toInt64) * (p2.toInt64)) + (1 : Int64)))) ((lw_gt _ _).mp q))).2.2.2) (by decide) (by decide) ?_
    show Steps p.tables e below (T_2.setTop (mkF m 53 #[.val (.int (4 : Int32)), .val (.int p2), .val (.ref b_1), .val (.int (2 : Int32)), .val (.long ((((2 : Int32).toInt64) * (p2.toInt64)) + (1 : Int64))), .second] [])) t
    refine XS.aloadN X_2.here hx rfl (hb hby d1_53) rfl rfl ?_
    show Steps p.tables e below (T_2.setTop (mkF m 54 #[.val (.int (4 : Int32)), .val (.int p2), .val (.ref b_1), .val (.int (2 : Int32)), .val (.long ((((2 : Int32).toInt64) * (p2.toInt64)) + (1 : Int64))), .second] [(.ref b_1)])) t
    refine XS.iloadN X_2.here hx rfl (hb hby d1_54) rfl ?_
    show Steps p.tables e below (T_2.setTop (mkF m 55 #[.val (.int (4 : Int32)), .val (.int p2), .val (.ref b_1), .val (.int (2 : Int32)), .val (.long ((((2 : Int32).toInt64) * (p2.toInt64)) + (1 : Int64))), .second] [(.int (2 : Int32)), (.ref b_1)])) t
    refine XS.iconst X_2.here hx rfl (hb hby d1_55) ?_
    show Steps p.tables e below (T_2.setTop (mkF m 56 #[.val (.int (4 : Int32)), .val (.int p2), .val (.ref b_1), .val (.int (2 : Int32)), .val (.long ((((2 : Int32).toInt64) * (p2.toInt64)) + (1 : Int64))), .second] [(.int (1 : Int32)), (.int (2 : Int32)), (.ref b_1)])) t
    refine XS.isub X_2.here hx rfl (hb hby d1_56) rfl ?_
    show Steps p.tables e below (T_2.setTop (mkF m 57 #[.val (.int (4 : Int32)), .val (.int p2), .val (.ref b_1), .val (.int (2 : Int32)), .val (.long ((((2 : Int32).toInt64) * (p2.toInt64)) + (1 : Int64))), .second] [(.int (1 : Int32)), (.ref b_1)])) t
    refine XS.lload X_2.here hx rfl (hb hby d1_57) rfl ?_
    show Steps p.tables e below (T_2.setTop (mkF m 59 #[.val (.int (4 : Int32)), .val (.int p2), .val (.ref b_1), .val (.int (2 : Int32)), .val (.long ((((2 : Int32).toInt64) * (p2.toInt64)) + (1 : Int64))), .second] [(.long ((((2 : Int32).toInt64) * (p2.toInt64)) + (1 : Int64))), (.int (1 : Int32)), (.ref b_1)])) t
    refine XS.l2i X_2.here hx rfl (hb hby d1_59) rfl ?_
    exact kt
  have vq_3 := V_2
  obtain ⟨c_3, a_3, q_3, s_3, m_3, H_3, G_3⟩ := vq_3
  have hin_3 : ¬ ((1 : Int32) < 0 ∨ c_3.slots.size ≤ ((1 : Int32)).toNatClampNeg) := inb_of s_3 ⟨by decide, by decide⟩
  obtain ⟨T_3, h_3, X_3, e_3, W_3, st_3⟩ := stI X_2 hx hZ e_2 a_3 (j := (1 : Int32)) hin_3 (g := (mkF m 60 #[.val (.int (4 : Int32)), .val (.int p2), .val (.ref b_1), .val (.int (2 : Int32)), .val (.long ((((2 : Int32).toInt64) * (p2.toInt64)) + (1 : Int64))), .second] [(.int (((((2 : Int32).toInt64) * (p2.toInt64)) + (1 : Int64)).toInt32)), (.int (1 : Int32)), (.ref b_1)])) rfl rfl (hb hby d1_60)
  have V_3 : Arv Z h_3 b_1 k_1 .int (4 : Int32) [(.int (((((3 : Int32).toInt64) * (p2.toInt64)) + (1 : Int64)).toInt32)), (.int (((((2 : Int32).toInt64) * (p2.toInt64)) + (1 : Int64)).toInt32)), (.int (0 : Int32)), (.int (0 : Int32))] (.int (0 : Int32)) := Arv.set a_3 q_3 s_3 m_3 H_3 G_3 rfl W_3 1 rfl (Nat.le_of_ble_eq_true rfl)
  have Z_3 : n0 ≤ h_3.size := Nat.le_trans Z_2 (Keep.of_wr W_3).1
  have kk_3 : Keep h0 h_3 [] := kk_2.wr W_3 (Or.inr sz_b_1)
  have N_3 := Fr.snoc X_3 N_2 g_b_1
  refine own_go (g' := (mkF m 61 #[.val (.int (4 : Int32)), .val (.int p2), .val (.ref b_1), .val (.int (2 : Int32)), .val (.long ((((2 : Int32).toInt64) * (p2.toInt64)) + (1 : Int64))), .second] [])) st_3 ?_
  refine own_go (T' := T_3) (g' := (mkF m 60 #[.val (.int (4 : Int32)), .val (.int p2), .val (.ref b_1), .val (.int (3 : Int32)), .val (.long ((((1 : Int32).toInt64) * (p2.toInt64)) + (1 : Int64))), .second] [(.int (((((1 : Int32).toInt64) * (p2.toInt64)) + (1 : Int64)).toInt32)), (.int (2 : Int32)), (.ref b_1)])) (fun t kt => ?_) ?_
  · show Steps p.tables e below (T_3.setTop (mkF m 61 #[.val (.int (4 : Int32)), .val (.int p2), .val (.ref b_1), .val (.int (2 : Int32)), .val (.long ((((2 : Int32).toInt64) * (p2.toInt64)) + (1 : Int64))), .second] [])) t
    refine XS.iinc X_3.here hx rfl (hb hby d1_61) rfl (l' := #[.val (.int (4 : Int32)), .val (.int p2), .val (.ref b_1), .val (.int (3 : Int32)), .val (.long ((((2 : Int32).toInt64) * (p2.toInt64)) + (1 : Int64))), .second]) rfl ?_
    show Steps p.tables e below (T_3.setTop (mkF m 64 #[.val (.int (4 : Int32)), .val (.int p2), .val (.ref b_1), .val (.int (3 : Int32)), .val (.long ((((2 : Int32).toInt64) * (p2.toInt64)) + (1 : Int64))), .second] [])) t
    refine XS.goto X_3.here hx rfl (pc0 := 64) (pc' := 24) rfl (hb hby d1_64) (by decide) (by decide) ?_
    show Steps p.tables e below (T_3.setTop (mkF m 24 #[.val (.int (4 : Int32)), .val (.int p2), .val (.ref b_1), .val (.int (3 : Int32)), .val (.long ((((2 : Int32).toInt64) * (p2.toInt64)) + (1 : Int64))), .second] [])) t
    refine XS.iloadN X_3.here hx rfl (hb hby d1_24) rfl ?_
    show Steps p.tables e below (T_3.setTop (mkF m 25 #[.val (.int (4 : Int32)), .val (.int p2), .val (.ref b_1), .val (.int (3 : Int32)), .val (.long ((((2 : Int32).toInt64) * (p2.toInt64)) + (1 : Int64))), .second] [(.int (3 : Int32))])) t
    refine XS.iloadN X_3.here hx rfl (hb hby d1_25) rfl ?_
    show Steps p.tables e below (T_3.setTop (mkF m 26 #[.val (.int (4 : Int32)), .val (.int p2), .val (.ref b_1), .val (.int (3 : Int32)), .val (.long ((((2 : Int32).toInt64) * (p2.toInt64)) + (1 : Int64))), .second] [(.int (4 : Int32)), (.int (3 : Int32))])) t
    refine XS.icmpNo X_3.here hx rfl (hb hby d1_26) rfl (flt (by decide : ¬ ((4 : Int32) < (3 : Int32)))).2.2.1 ?_
    show Steps p.tables e below (T_3.setTop (mkF m 29 #[.val (.int (4 : Int32)), .val (.int p2), .val (.ref b_1), .val (.int (3 : Int32)), .val (.long ((((2 : Int32).toInt64) * (p2.toInt64)) + (1 : Int64))), .second] [])) t
    refine XS.iloadN X_3.here hx rfl (hb hby d1_29) rfl ?_
    show Steps p.tables e below (T_3.setTop (mkF m 30 #[.val (.int (4 : Int32)), .val (.int p2), .val (.ref b_1), .val (.int (3 : Int32)), .val (.long ((((2 : Int32).toInt64) * (p2.toInt64)) + (1 : Int64))), .second] [(.int (4 : Int32))])) t
    refine XS.iloadN X_3.here hx rfl (hb hby d1_30) rfl ?_
    show Steps p.tables e below (T_3.setTop (mkF m 31 #[.val (.int (4 : Int32)), .val (.int p2), .val (.ref b_1), .val (.int (3 : Int32)), .val (.long ((((2 : Int32).toInt64) * (p2.toInt64)) + (1 : Int64))), .second] [(.int (3 : Int32)), (.int (4 : Int32))])) t
    refine XS.isub X_3.here hx rfl (hb hby d1_31) rfl ?_
    show Steps p.tables e below (T_3.setTop (mkF m 32 #[.val (.int (4 : Int32)), .val (.int p2), .val (.ref b_1), .val (.int (3 : Int32)), .val (.long ((((2 : Int32).toInt64) * (p2.toInt64)) + (1 : Int64))), .second] [(.int (1 : Int32))])) t
    refine XS.i2l X_3.here hx rfl (hb hby d1_32) rfl ?_
    show Steps p.tables e below (T_3.setTop (mkF m 33 #[.val (.int (4 : Int32)), .val (.int p2), .val (.ref b_1), .val (.int (3 : Int32)), .val (.long ((((2 : Int32).toInt64) * (p2.toInt64)) + (1 : Int64))), .second] [(.long ((1 : Int32).toInt64))])) t
    refine XS.iloadN X_3.here hx rfl (hb hby d1_33) rfl ?_
    show Steps p.tables e below (T_3.setTop (mkF m 34 #[.val (.int (4 : Int32)), .val (.int p2), .val (.ref b_1), .val (.int (3 : Int32)), .val (.long ((((2 : Int32).toInt64) * (p2.toInt64)) + (1 : Int64))), .second] [(.int p2), (.long ((1 : Int32).toInt64))])) t
    refine XS.i2l X_3.here hx rfl (hb hby d1_34) rfl ?_
    show Steps p.tables e below (T_3.setTop (mkF m 35 #[.val (.int (4 : Int32)), .val (.int p2), .val (.ref b_1), .val (.int (3 : Int32)), .val (.long ((((2 : Int32).toInt64) * (p2.toInt64)) + (1 : Int64))), .second] [(.long (p2.toInt64)), (.long ((1 : Int32).toInt64))])) t
    refine XS.lmul X_3.here hx rfl (hb hby d1_35) rfl ?_
    show Steps p.tables e below (T_3.setTop (mkF m 36 #[.val (.int (4 : Int32)), .val (.int p2), .val (.ref b_1), .val (.int (3 : Int32)), .val (.long ((((2 : Int32).toInt64) * (p2.toInt64)) + (1 : Int64))), .second] [(.long (((1 : Int32).toInt64) * (p2.toInt64)))])) t
    refine XS.lconst X_3.here hx rfl (hb hby d1_36) ?_
    show Steps p.tables e below (T_3.setTop (mkF m 37 #[.val (.int (4 : Int32)), .val (.int p2), .val (.ref b_1), .val (.int (3 : Int32)), .val (.long ((((2 : Int32).toInt64) * (p2.toInt64)) + (1 : Int64))), .second] [(.long (1 : Int64)), (.long (((1 : Int32).toInt64) * (p2.toInt64)))])) t
    refine XS.ladd X_3.here hx rfl (hb hby d1_37) rfl ?_
    show Steps p.tables e below (T_3.setTop (mkF m 38 #[.val (.int (4 : Int32)), .val (.int p2), .val (.ref b_1), .val (.int (3 : Int32)), .val (.long ((((2 : Int32).toInt64) * (p2.toInt64)) + (1 : Int64))), .second] [(.long ((((1 : Int32).toInt64) * (p2.toInt64)) + (1 : Int64)))])) t
    refine XS.lstore X_3.here hx rfl (hb hby d1_38) rfl (l' := #[.val (.int (4 : Int32)), .val (.int p2), .val (.ref b_1), .val (.int (3 : Int32)), .val (.long ((((1 : Int32).toInt64) * (p2.toInt64)) + (1 : Int64))), .second]) rfl ?_
    show Steps p.tables e below (T_3.setTop (mkF m 40 #[.val (.int (4 : Int32)), .val (.int p2), .val (.ref b_1), .val (.int (3 : Int32)), .val (.long ((((1 : Int32).toInt64) * (p2.toInt64)) + (1 : Int64))), .second] [])) t
    refine XS.lload X_3.here hx rfl (hb hby d1_40) rfl ?_
    show Steps p.tables e below (T_3.setTop (mkF m 42 #[.val (.int (4 : Int32)), .val (.int p2), .val (.ref b_1), .val (.int (3 : Int32)), .val (.long ((((1 : Int32).toInt64) * (p2.toInt64)) + (1 : Int64))), .second] [(.long ((((1 : Int32).toInt64) * (p2.toInt64)) + (1 : Int64)))])) t
    refine X_3.ldc2Long hx hown (mvT hZ (hw _ (List.mem_of_getElem? (i := 7) rfl))) (g := (mkF m 42 #[.val (.int (4 : Int32)), .val (.int p2), .val (.ref b_1), .val (.int (3 : Int32)), .val (.long ((((1 : Int32).toInt64) * (p2.toInt64)) + (1 : Int64))), .second] [(.long ((((1 : Int32).toInt64) * (p2.toInt64)) + (1 : Int64)))])) rfl (hb hby d1_42) _ ?_
    show Steps p.tables e below (T_3.setTop (mkF m 45 #[.val (.int (4 : Int32)), .val (.int p2), .val (.ref b_1), .val (.int (3 : Int32)), .val (.long ((((1 : Int32).toInt64) * (p2.toInt64)) + (1 : Int64))), .second] [(.long (16777216 : Int64)), (.long ((((1 : Int32).toInt64) * (p2.toInt64)) + (1 : Int64)))])) t
    refine XS.lcmp X_3.here hx rfl (hb hby d1_45) rfl ?_
    show Steps p.tables e below (T_3.setTop (mkF m 46 #[.val (.int (4 : Int32)), .val (.int p2), .val (.ref b_1), .val (.int (3 : Int32)), .val (.long ((((1 : Int32).toInt64) * (p2.toInt64)) + (1 : Int64))), .second] [(.int (lcmpW ((((1 : Int32).toInt64) * (p2.toInt64)) + (1 : Int64)) (16777216 : Int64)))])) t
    refine XS.ifYes X_3.here hx rfl (pc0 := 46) (pc' := 53) rfl (hb hby d1_46) rfl ((if0 _ _).trans (flt (fun q => ((own_w (1 : Int32) p2 (by decide) h1 (by show (1 : Int) * p2.toInt ≤ 16777215; omega)).1 : ¬ ((16777216 : Int64) < ((((1 : Int32).toInt64) * (p2.toInt64)) + (1 : Int64)))) ((lw_gt _ _).mp q))).2.2.2) (by decide) (by decide) ?_
    show Steps p.tables e below (T_3.setTop (mkF m 53 #[.val (.int (4 : Int32)), .val (.int p2), .val (.ref b_1), .val (.int (3 : Int32)), .val (.long ((((1 : Int32).toInt64) * (p2.toInt64)) + (1 : Int64))), .second] [])) t
    refine XS.aloadN X_3.here hx rfl (hb hby d1_53) rfl rfl ?_
    show Steps p.tables e below (T_3.setTop (mkF m 54 #[.val (.int (4 : Int32)), .val (.int p2), .val (.ref b_1), .val (.int (3 : Int32)), .val (.long ((((1 : Int32).toInt64) * (p2.toInt64)) + (1 : Int64))), .second] [(.ref b_1)])) t
    refine XS.iloadN X_3.here hx rfl (hb hby d1_54) rfl ?_
    show Steps p.tables e below (T_3.setTop (mkF m 55 #[.val (.int (4 : Int32)), .val (.int p2), .val (.ref b_1), .val (.int (3 : Int32)), .val (.long ((((1 : Int32).toInt64) * (p2.toInt64)) + (1 : Int64))), .second] [(.int (3 : Int32)), (.ref b_1)])) t
    refine XS.iconst X_3.here hx rfl (hb hby d1_55) ?_
    show Steps p.tables e below (T_3.setTop (mkF m 56 #[.val (.int (4 : Int32)), .val (.int p2), .val (.ref b_1), .val (.int (3 : Int32)), .val (.long ((((1 : Int32).toInt64) * (p2.toInt64)) + (1 : Int64))), .second] [(.int (1 : Int32)), (.int (3 : Int32)), (.ref b_1)])) t
    refine XS.isub X_3.here hx rfl (hb hby d1_56) rfl ?_
    show Steps p.tables e below (T_3.setTop (mkF m 57 #[.val (.int (4 : Int32)), .val (.int p2), .val (.ref b_1), .val (.int (3 : Int32)), .val (.long ((((1 : Int32).toInt64) * (p2.toInt64)) + (1 : Int64))), .second] [(.int (2 : Int32)), (.ref b_1)])) t
    refine XS.lload X_3.here hx rfl (hb hby d1_57) rfl ?_
    show Steps p.tables e below (T_3.setTop (mkF m 59 #[.val (.int (4 : Int32)), .val (.int p2), .val (.ref b_1), .val (.int (3 : Int32)), .val (.long ((((1 : Int32).toInt64) * (p2.toInt64)) + (1 : Int64))), .second] [(.long ((((1 : Int32).toInt64) * (p2.toInt64)) + (1 : Int64))), (.int (2 : Int32)), (.ref b_1)])) t
    refine XS.l2i X_3.here hx rfl (hb hby d1_59) rfl ?_
    exact kt
  have vq_4 := V_3
  obtain ⟨c_4, a_4, q_4, s_4, m_4, H_4, G_4⟩ := vq_4
  have hin_4 : ¬ ((2 : Int32) < 0 ∨ c_4.slots.size ≤ ((2 : Int32)).toNatClampNeg) := inb_of s_4 ⟨by decide, by decide⟩
  obtain ⟨T_4, h_4, X_4, e_4, W_4, st_4⟩ := stI X_3 hx hZ e_3 a_4 (j := (2 : Int32)) hin_4 (g := (mkF m 60 #[.val (.int (4 : Int32)), .val (.int p2), .val (.ref b_1), .val (.int (3 : Int32)), .val (.long ((((1 : Int32).toInt64) * (p2.toInt64)) + (1 : Int64))), .second] [(.int (((((1 : Int32).toInt64) * (p2.toInt64)) + (1 : Int64)).toInt32)), (.int (2 : Int32)), (.ref b_1)])) rfl rfl (hb hby d1_60)
  have V_4 : Arv Z h_4 b_1 k_1 .int (4 : Int32) [(.int (((((3 : Int32).toInt64) * (p2.toInt64)) + (1 : Int64)).toInt32)), (.int (((((2 : Int32).toInt64) * (p2.toInt64)) + (1 : Int64)).toInt32)), (.int (((((1 : Int32).toInt64) * (p2.toInt64)) + (1 : Int64)).toInt32)), (.int (0 : Int32))] (.int (0 : Int32)) := Arv.set a_4 q_4 s_4 m_4 H_4 G_4 rfl W_4 2 rfl (Nat.le_of_ble_eq_true rfl)
  have Z_4 : n0 ≤ h_4.size := Nat.le_trans Z_3 (Keep.of_wr W_4).1
  have kk_4 : Keep h0 h_4 [] := kk_3.wr W_4 (Or.inr sz_b_1)
  have N_4 := Fr.snoc X_4 N_3 g_b_1
  refine own_go (g' := (mkF m 61 #[.val (.int (4 : Int32)), .val (.int p2), .val (.ref b_1), .val (.int (3 : Int32)), .val (.long ((((1 : Int32).toInt64) * (p2.toInt64)) + (1 : Int64))), .second] [])) st_4 ?_
  refine own_go (T' := T_4) (g' := (mkF m 60 #[.val (.int (4 : Int32)), .val (.int p2), .val (.ref b_1), .val (.int (4 : Int32)), .val (.long ((((0 : Int32).toInt64) * (p2.toInt64)) + (1 : Int64))), .second] [(.int (((((0 : Int32).toInt64) * (p2.toInt64)) + (1 : Int64)).toInt32)), (.int (3 : Int32)), (.ref b_1)])) (fun t kt => ?_) ?_
  · show Steps p.tables e below (T_4.setTop (mkF m 61 #[.val (.int (4 : Int32)), .val (.int p2), .val (.ref b_1), .val (.int (3 : Int32)), .val (.long ((((1 : Int32).toInt64) * (p2.toInt64)) + (1 : Int64))), .second] [])) t
    refine XS.iinc X_4.here hx rfl (hb hby d1_61) rfl (l' := #[.val (.int (4 : Int32)), .val (.int p2), .val (.ref b_1), .val (.int (4 : Int32)), .val (.long ((((1 : Int32).toInt64) * (p2.toInt64)) + (1 : Int64))), .second]) rfl ?_
    show Steps p.tables e below (T_4.setTop (mkF m 64 #[.val (.int (4 : Int32)), .val (.int p2), .val (.ref b_1), .val (.int (4 : Int32)), .val (.long ((((1 : Int32).toInt64) * (p2.toInt64)) + (1 : Int64))), .second] [])) t
    refine XS.goto X_4.here hx rfl (pc0 := 64) (pc' := 24) rfl (hb hby d1_64) (by decide) (by decide) ?_
    show Steps p.tables e below (T_4.setTop (mkF m 24 #[.val (.int (4 : Int32)), .val (.int p2), .val (.ref b_1), .val (.int (4 : Int32)), .val (.long ((((1 : Int32).toInt64) * (p2.toInt64)) + (1 : Int64))), .second] [])) t
    refine XS.iloadN X_4.here hx rfl (hb hby d1_24) rfl ?_
    show Steps p.tables e below (T_4.setTop (mkF m 25 #[.val (.int (4 : Int32)), .val (.int p2), .val (.ref b_1), .val (.int (4 : Int32)), .val (.long ((((1 : Int32).toInt64) * (p2.toInt64)) + (1 : Int64))), .second] [(.int (4 : Int32))])) t
    refine XS.iloadN X_4.here hx rfl (hb hby d1_25) rfl ?_
    show Steps p.tables e below (T_4.setTop (mkF m 26 #[.val (.int (4 : Int32)), .val (.int p2), .val (.ref b_1), .val (.int (4 : Int32)), .val (.long ((((1 : Int32).toInt64) * (p2.toInt64)) + (1 : Int64))), .second] [(.int (4 : Int32)), (.int (4 : Int32))])) t
    refine XS.icmpNo X_4.here hx rfl (hb hby d1_26) rfl (flt (by decide : ¬ ((4 : Int32) < (4 : Int32)))).2.2.1 ?_
    show Steps p.tables e below (T_4.setTop (mkF m 29 #[.val (.int (4 : Int32)), .val (.int p2), .val (.ref b_1), .val (.int (4 : Int32)), .val (.long ((((1 : Int32).toInt64) * (p2.toInt64)) + (1 : Int64))), .second] [])) t
    refine XS.iloadN X_4.here hx rfl (hb hby d1_29) rfl ?_
    show Steps p.tables e below (T_4.setTop (mkF m 30 #[.val (.int (4 : Int32)), .val (.int p2), .val (.ref b_1), .val (.int (4 : Int32)), .val (.long ((((1 : Int32).toInt64) * (p2.toInt64)) + (1 : Int64))), .second] [(.int (4 : Int32))])) t
    refine XS.iloadN X_4.here hx rfl (hb hby d1_30) rfl ?_
    show Steps p.tables e below (T_4.setTop (mkF m 31 #[.val (.int (4 : Int32)), .val (.int p2), .val (.ref b_1), .val (.int (4 : Int32)), .val (.long ((((1 : Int32).toInt64) * (p2.toInt64)) + (1 : Int64))), .second] [(.int (4 : Int32)), (.int (4 : Int32))])) t
    refine XS.isub X_4.here hx rfl (hb hby d1_31) rfl ?_
    show Steps p.tables e below (T_4.setTop (mkF m 32 #[.val (.int (4 : Int32)), .val (.int p2), .val (.ref b_1), .val (.int (4 : Int32)), .val (.long ((((1 : Int32).toInt64) * (p2.toInt64)) + (1 : Int64))), .second] [(.int (0 : Int32))])) t
    refine XS.i2l X_4.here hx rfl (hb hby d1_32) rfl ?_
    show Steps p.tables e below (T_4.setTop (mkF m 33 #[.val (.int (4 : Int32)), .val (.int p2), .val (.ref b_1), .val (.int (4 : Int32)), .val (.long ((((1 : Int32).toInt64) * (p2.toInt64)) + (1 : Int64))), .second] [(.long ((0 : Int32).toInt64))])) t
    refine XS.iloadN X_4.here hx rfl (hb hby d1_33) rfl ?_
    show Steps p.tables e below (T_4.setTop (mkF m 34 #[.val (.int (4 : Int32)), .val (.int p2), .val (.ref b_1), .val (.int (4 : Int32)), .val (.long ((((1 : Int32).toInt64) * (p2.toInt64)) + (1 : Int64))), .second] [(.int p2), (.long ((0 : Int32).toInt64))])) t
    refine XS.i2l X_4.here hx rfl (hb hby d1_34) rfl ?_
    show Steps p.tables e below (T_4.setTop (mkF m 35 #[.val (.int (4 : Int32)), .val (.int p2), .val (.ref b_1), .val (.int (4 : Int32)), .val (.long ((((1 : Int32).toInt64) * (p2.toInt64)) + (1 : Int64))), .second] [(.long (p2.toInt64)), (.long ((0 : Int32).toInt64))])) t
    refine XS.lmul X_4.here hx rfl (hb hby d1_35) rfl ?_
    show Steps p.tables e below (T_4.setTop (mkF m 36 #[.val (.int (4 : Int32)), .val (.int p2), .val (.ref b_1), .val (.int (4 : Int32)), .val (.long ((((1 : Int32).toInt64) * (p2.toInt64)) + (1 : Int64))), .second] [(.long (((0 : Int32).toInt64) * (p2.toInt64)))])) t
    refine XS.lconst X_4.here hx rfl (hb hby d1_36) ?_
    show Steps p.tables e below (T_4.setTop (mkF m 37 #[.val (.int (4 : Int32)), .val (.int p2), .val (.ref b_1), .val (.int (4 : Int32)), .val (.long ((((1 : Int32).toInt64) * (p2.toInt64)) + (1 : Int64))), .second] [(.long (1 : Int64)), (.long (((0 : Int32).toInt64) * (p2.toInt64)))])) t
    refine XS.ladd X_4.here hx rfl (hb hby d1_37) rfl ?_
    show Steps p.tables e below (T_4.setTop (mkF m 38 #[.val (.int (4 : Int32)), .val (.int p2), .val (.ref b_1), .val (.int (4 : Int32)), .val (.long ((((1 : Int32).toInt64) * (p2.toInt64)) + (1 : Int64))), .second] [(.long ((((0 : Int32).toInt64) * (p2.toInt64)) + (1 : Int64)))])) t
    refine XS.lstore X_4.here hx rfl (hb hby d1_38) rfl (l' := #[.val (.int (4 : Int32)), .val (.int p2), .val (.ref b_1), .val (.int (4 : Int32)), .val (.long ((((0 : Int32).toInt64) * (p2.toInt64)) + (1 : Int64))), .second]) rfl ?_
    show Steps p.tables e below (T_4.setTop (mkF m 40 #[.val (.int (4 : Int32)), .val (.int p2), .val (.ref b_1), .val (.int (4 : Int32)), .val (.long ((((0 : Int32).toInt64) * (p2.toInt64)) + (1 : Int64))), .second] [])) t
    refine XS.lload X_4.here hx rfl (hb hby d1_40) rfl ?_
    show Steps p.tables e below (T_4.setTop (mkF m 42 #[.val (.int (4 : Int32)), .val (.int p2), .val (.ref b_1), .val (.int (4 : Int32)), .val (.long ((((0 : Int32).toInt64) * (p2.toInt64)) + (1 : Int64))), .second] [(.long ((((0 : Int32).toInt64) * (p2.toInt64)) + (1 : Int64)))])) t
    refine X_4.ldc2Long hx hown (mvT hZ (hw _ (List.mem_of_getElem? (i := 7) rfl))) (g := (mkF m 42 #[.val (.int (4 : Int32)), .val (.int p2), .val (.ref b_1), .val (.int (4 : Int32)), .val (.long ((((0 : Int32).toInt64) * (p2.toInt64)) + (1 : Int64))), .second] [(.long ((((0 : Int32).toInt64) * (p2.toInt64)) + (1 : Int64)))])) rfl (hb hby d1_42) _ ?_
    show Steps p.tables e below (T_4.setTop (mkF m 45 #[.val (.int (4 : Int32)), .val (.int p2), .val (.ref b_1), .val (.int (4 : Int32)), .val (.long ((((0 : Int32).toInt64) * (p2.toInt64)) + (1 : Int64))), .second] [(.long (16777216 : Int64)), (.long ((((0 : Int32).toInt64) * (p2.toInt64)) + (1 : Int64)))])) t
    refine XS.lcmp X_4.here hx rfl (hb hby d1_45) rfl ?_
    show Steps p.tables e below (T_4.setTop (mkF m 46 #[.val (.int (4 : Int32)), .val (.int p2), .val (.ref b_1), .val (.int (4 : Int32)), .val (.long ((((0 : Int32).toInt64) * (p2.toInt64)) + (1 : Int64))), .second] [(.int (lcmpW ((((0 : Int32).toInt64) * (p2.toInt64)) + (1 : Int64)) (16777216 : Int64)))])) t
    refine XS.ifYes X_4.here hx rfl (pc0 := 46) (pc' := 53) rfl (hb hby d1_46) rfl ((if0 _ _).trans (flt (fun q => ((own_w (0 : Int32) p2 (by decide) h1 (by show (0 : Int) * p2.toInt ≤ 16777215; omega)).1 : ¬ ((16777216 : Int64) < ((((0 : Int32).toInt64) * (p2.toInt64)) + (1 : Int64)))) ((lw_gt _ _).mp q))).2.2.2) (by decide) (by decide) ?_
    show Steps p.tables e below (T_4.setTop (mkF m 53 #[.val (.int (4 : Int32)), .val (.int p2), .val (.ref b_1), .val (.int (4 : Int32)), .val (.long ((((0 : Int32).toInt64) * (p2.toInt64)) + (1 : Int64))), .second] [])) t
    refine XS.aloadN X_4.here hx rfl (hb hby d1_53) rfl rfl ?_
    show Steps p.tables e below (T_4.setTop (mkF m 54 #[.val (.int (4 : Int32)), .val (.int p2), .val (.ref b_1), .val (.int (4 : Int32)), .val (.long ((((0 : Int32).toInt64) * (p2.toInt64)) + (1 : Int64))), .second] [(.ref b_1)])) t
    refine XS.iloadN X_4.here hx rfl (hb hby d1_54) rfl ?_
    show Steps p.tables e below (T_4.setTop (mkF m 55 #[.val (.int (4 : Int32)), .val (.int p2), .val (.ref b_1), .val (.int (4 : Int32)), .val (.long ((((0 : Int32).toInt64) * (p2.toInt64)) + (1 : Int64))), .second] [(.int (4 : Int32)), (.ref b_1)])) t
    refine XS.iconst X_4.here hx rfl (hb hby d1_55) ?_
    show Steps p.tables e below (T_4.setTop (mkF m 56 #[.val (.int (4 : Int32)), .val (.int p2), .val (.ref b_1), .val (.int (4 : Int32)), .val (.long ((((0 : Int32).toInt64) * (p2.toInt64)) + (1 : Int64))), .second] [(.int (1 : Int32)), (.int (4 : Int32)), (.ref b_1)])) t
    refine XS.isub X_4.here hx rfl (hb hby d1_56) rfl ?_
    show Steps p.tables e below (T_4.setTop (mkF m 57 #[.val (.int (4 : Int32)), .val (.int p2), .val (.ref b_1), .val (.int (4 : Int32)), .val (.long ((((0 : Int32).toInt64) * (p2.toInt64)) + (1 : Int64))), .second] [(.int (3 : Int32)), (.ref b_1)])) t
    refine XS.lload X_4.here hx rfl (hb hby d1_57) rfl ?_
    show Steps p.tables e below (T_4.setTop (mkF m 59 #[.val (.int (4 : Int32)), .val (.int p2), .val (.ref b_1), .val (.int (4 : Int32)), .val (.long ((((0 : Int32).toInt64) * (p2.toInt64)) + (1 : Int64))), .second] [(.long ((((0 : Int32).toInt64) * (p2.toInt64)) + (1 : Int64))), (.int (3 : Int32)), (.ref b_1)])) t
    refine XS.l2i X_4.here hx rfl (hb hby d1_59) rfl ?_
    exact kt
  have vq_5 := V_4
  obtain ⟨c_5, a_5, q_5, s_5, m_5, H_5, G_5⟩ := vq_5
  have hin_5 : ¬ ((3 : Int32) < 0 ∨ c_5.slots.size ≤ ((3 : Int32)).toNatClampNeg) := inb_of s_5 ⟨by decide, by decide⟩
  obtain ⟨T_5, h_5, X_5, e_5, W_5, st_5⟩ := stI X_4 hx hZ e_4 a_5 (j := (3 : Int32)) hin_5 (g := (mkF m 60 #[.val (.int (4 : Int32)), .val (.int p2), .val (.ref b_1), .val (.int (4 : Int32)), .val (.long ((((0 : Int32).toInt64) * (p2.toInt64)) + (1 : Int64))), .second] [(.int (((((0 : Int32).toInt64) * (p2.toInt64)) + (1 : Int64)).toInt32)), (.int (3 : Int32)), (.ref b_1)])) rfl rfl (hb hby d1_60)
  have V_5 : Arv Z h_5 b_1 k_1 .int (4 : Int32) [(.int (((((3 : Int32).toInt64) * (p2.toInt64)) + (1 : Int64)).toInt32)), (.int (((((2 : Int32).toInt64) * (p2.toInt64)) + (1 : Int64)).toInt32)), (.int (((((1 : Int32).toInt64) * (p2.toInt64)) + (1 : Int64)).toInt32)), (.int (((((0 : Int32).toInt64) * (p2.toInt64)) + (1 : Int64)).toInt32))] (.int (0 : Int32)) := Arv.set a_5 q_5 s_5 m_5 H_5 G_5 rfl W_5 3 rfl (Nat.le_of_ble_eq_true rfl)
  have Z_5 : n0 ≤ h_5.size := Nat.le_trans Z_4 (Keep.of_wr W_5).1
  have kk_5 : Keep h0 h_5 [] := kk_4.wr W_5 (Or.inr sz_b_1)
  have N_5 := Fr.snoc X_5 N_4 g_b_1
  refine own_go (g' := (mkF m 61 #[.val (.int (4 : Int32)), .val (.int p2), .val (.ref b_1), .val (.int (4 : Int32)), .val (.long ((((0 : Int32).toInt64) * (p2.toInt64)) + (1 : Int64))), .second] [])) st_5 ?_
  refine own_go (T' := T_5) (g' := (mkF m 68 #[.val (.int (4 : Int32)), .val (.int p2), .val (.ref b_1), .val (.int (5 : Int32)), .val (.long ((((0 : Int32).toInt64) * (p2.toInt64)) + (1 : Int64))), .second] [(.ref b_1)])) (fun t kt => ?_) ?_
  · show Steps p.tables e below (T_5.setTop (mkF m 61 #[.val (.int (4 : Int32)), .val (.int p2), .val (.ref b_1), .val (.int (4 : Int32)), .val (.long ((((0 : Int32).toInt64) * (p2.toInt64)) + (1 : Int64))), .second] [])) t
    refine XS.iinc X_5.here hx rfl (hb hby d1_61) rfl (l' := #[.val (.int (4 : Int32)), .val (.int p2), .val (.ref b_1), .val (.int (5 : Int32)), .val (.long ((((0 : Int32).toInt64) * (p2.toInt64)) + (1 : Int64))), .second]) rfl ?_
    show Steps p.tables e below (T_5.setTop (mkF m 64 #[.val (.int (4 : Int32)), .val (.int p2), .val (.ref b_1), .val (.int (5 : Int32)), .val (.long ((((0 : Int32).toInt64) * (p2.toInt64)) + (1 : Int64))), .second] [])) t
    refine XS.goto X_5.here hx rfl (pc0 := 64) (pc' := 24) rfl (hb hby d1_64) (by decide) (by decide) ?_
    show Steps p.tables e below (T_5.setTop (mkF m 24 #[.val (.int (4 : Int32)), .val (.int p2), .val (.ref b_1), .val (.int (5 : Int32)), .val (.long ((((0 : Int32).toInt64) * (p2.toInt64)) + (1 : Int64))), .second] [])) t
    refine XS.iloadN X_5.here hx rfl (hb hby d1_24) rfl ?_
    show Steps p.tables e below (T_5.setTop (mkF m 25 #[.val (.int (4 : Int32)), .val (.int p2), .val (.ref b_1), .val (.int (5 : Int32)), .val (.long ((((0 : Int32).toInt64) * (p2.toInt64)) + (1 : Int64))), .second] [(.int (5 : Int32))])) t
    refine XS.iloadN X_5.here hx rfl (hb hby d1_25) rfl ?_
    show Steps p.tables e below (T_5.setTop (mkF m 26 #[.val (.int (4 : Int32)), .val (.int p2), .val (.ref b_1), .val (.int (5 : Int32)), .val (.long ((((0 : Int32).toInt64) * (p2.toInt64)) + (1 : Int64))), .second] [(.int (4 : Int32)), (.int (5 : Int32))])) t
    refine XS.icmpYes X_5.here hx rfl (pc0 := 26) (pc' := 67) rfl (hb hby d1_26) rfl (tlt (by decide : (4 : Int32) < (5 : Int32))).2.2.1 (by decide) (by decide) ?_
    show Steps p.tables e below (T_5.setTop (mkF m 67 #[.val (.int (4 : Int32)), .val (.int p2), .val (.ref b_1), .val (.int (5 : Int32)), .val (.long ((((0 : Int32).toInt64) * (p2.toInt64)) + (1 : Int64))), .second] [])) t
    refine XS.aloadN X_5.here hx rfl (hb hby d1_67) rfl rfl ?_
    exact kt
  obtain ⟨fs, hr, hrun, hended, hW, hsame⟩ := X_5.leave (v := some (.ref b_1)) (fun h => by rw [Bd.returns] at h; cases h)
  refine ⟨_, _, ?_, hrun, hended, _, _, rfl, ?_, ⟨_, rfl⟩, hW, hsame.mono (by decide) (by decide)⟩
  · show Steps p.tables e below (T_5.setTop (mkF m 68 #[.val (.int (4 : Int32)), .val (.int p2), .val (.ref b_1), .val (.int (5 : Int32)), .val (.long ((((0 : Int32).toInt64) * (p2.toInt64)) + (1 : Int64))), .second] [(.ref b_1)])) _
    jvm_step X_5.here [X_5.here.top, hx, (hb hby d1_68), X_5.method', Bd.returns, Value.isRef, FieldType.isReference]
    first | (intro acts; rw [hr _ acts rfl rfl rfl]) | rw [hr _ _ rfl rfl rfl]
    exact Steps.refl _
  · show Q_rd4 Z _ h0 n0 _ T_5.heap _
    rw [e_5]
    exact ⟨_, _, rfl, N_5, kk_5, sz_b_1, V_5⟩
theorem pn_0 : plainName "com/example/orrery/orrery/ProgramDeltaFreqsPinLaw" = true := by first | (simp [plainName, overriddenIn]; done) | decide +kernel
theorem ef_0 (m : MethodId) (x0 : Int32) (x1 : Int32) : entryFrame m #[(.int x0), (.int x1)] maxLocals = mkF m 0 #[.val (.int x0), .val (.int x1), .unset, .unset, .unset, .unset] [] := by first | (simp [entryFrame, mkF, argsToLocals, Value.category, maxLocals]; done) | rfl
def Q_rm0 (Z : State) (p1 : Int32) (p2 : Int32) (h0 : Heap) (n0 : Nat) (v : Option Value) (h : Heap) (L : List Loc) : Prop := v = some (.int (1 : Int32)) ∧ Fr n0 L
theorem pd_0 : parseMethodDescriptor "(II)[I" = some ⟨[.int, .int], some (.array .int)⟩ := by decide +kernel
set_option maxRecDepth 65536 in
set_option maxHeartbeats 40000000 in
theorem rm0 (l : Launch) (Z : State) (a0 : Array Value) (hw : ∀ d ∈ tables_1, d.before a0 Z = true) (ws : List Jvm.Cond) (p1 : Int32) (p2 : Int32) (h0 : Heap) (n0 : Nat) (Z0 : n0 ≤ h0.size)  :
    MetFree l x (head1 (Jvm.Cond.code x code maxLocals ret :: ws) room_1) (fun a U => a = #[(.int p1), (.int p2)] ∧ Z.Warmed39 U.vm ∧ U.heap = h0) (fun _ _ _ _ _ => True) (fun _ U o U' => ∃ v L, o = .returned v ∧ Q_rm0 Z p1 p2 h0 n0 v U'.heap L ∧ FrameEnd U o U' L room_1.cells room_1.slots) := by
  refine MetFree.of_bodySF (plainFor_of_name pn_0) hisR ?_
  intro p e s m args below meth c s₁ Bd hml0 hP hK
  obtain ⟨rfl, hZ, hh⟩ := hP
  have hx := Bd.exec
  have hby := Bd.bytes
  have hml : c.maxLocals = 6 := hml0
  have hown : s.vm.findClass "com/example/orrery/orrery/ProgramDeltaFreqsPinLaw" = some m.cls := findClass_of_methodNamed Bd.named
  have hnm := (name_of_methodNamed Bd.named Bd.method).1
  have X0 : Stand p l e room_1 s m #[(.int p1), (.int p2)] below meth c s₁ [] 0 0 := Stand.of_body Bd
  have e0 : s₁.heap = h0 := by rw [← hh, Bd.state]; rfl
  have N0 := Fr.nil n0
  refine own_go (g' := (mkF m 0 #[.val (.int p1), .val (.int p2), .unset, .unset, .unset, .unset] [])) (fun t k => castTop (ef_0 m (p1) (p2)) k) ?_
  refine own_go (T' := s₁) (g' := (mkF m 7 #[.val (.int p1), .val (.int p2), .val (.int ((p1 &&& (2147483647 : Int32)) - ((p1 &&& (2147483647 : Int32)) / (5 : Int32)) * (5 : Int32))), .unset, .unset, .unset] [])) (fun t kt => ?_) ?_
  · show Steps p.tables e below (s₁.setTop (mkF m 0 #[.val (.int p1), .val (.int p2), .unset, .unset, .unset, .unset] [])) t
    refine XS.iloadN X0.here hx rfl (hb hby at_0) rfl ?_
    show Steps p.tables e below (s₁.setTop (mkF m 1 #[.val (.int p1), .val (.int p2), .unset, .unset, .unset, .unset] [(.int p1)])) t
    refine X0.ldcInt hx hown (mvT hZ (hw _ (List.mem_of_getElem? (i := 0) rfl))) (g := (mkF m 1 #[.val (.int p1), .val (.int p2), .unset, .unset, .unset, .unset] [(.int p1)])) rfl (hb hby at_1) _ ?_
    show Steps p.tables e below (s₁.setTop (mkF m 3 #[.val (.int p1), .val (.int p2), .unset, .unset, .unset, .unset] [(.int (2147483647 : Int32)), (.int p1)])) t
    refine XS.iand X0.here hx rfl (hb hby at_3) rfl ?_
    show Steps p.tables e below (s₁.setTop (mkF m 4 #[.val (.int p1), .val (.int p2), .unset, .unset, .unset, .unset] [(.int (p1 &&& (2147483647 : Int32)))])) t
    refine XS.iconst X0.here hx rfl (hb hby at_4) ?_
    show Steps p.tables e below (s₁.setTop (mkF m 5 #[.val (.int p1), .val (.int p2), .unset, .unset, .unset, .unset] [(.int (5 : Int32)), (.int (p1 &&& (2147483647 : Int32)))])) t
    refine XS.irem X0.here hx rfl (hb hby at_5) rfl (by decide) ?_
    show Steps p.tables e below (s₁.setTop (mkF m 6 #[.val (.int p1), .val (.int p2), .unset, .unset, .unset, .unset] [(.int ((p1 &&& (2147483647 : Int32)) - ((p1 &&& (2147483647 : Int32)) / (5 : Int32)) * (5 : Int32)))])) t
    refine XS.istoreN X0.here hx rfl (hb hby at_6) rfl (l' := #[.val (.int p1), .val (.int p2), .val (.int ((p1 &&& (2147483647 : Int32)) - ((p1 &&& (2147483647 : Int32)) / (5 : Int32)) * (5 : Int32))), .unset, .unset, .unset]) rfl ?_
    exact kt
  obtain ⟨dk, hdk⟩ : ∃ z : Int32, z = ((p1 &&& (2147483647 : Int32)) - ((p1 &&& (2147483647 : Int32)) / (5 : Int32)) * (5 : Int32)) := ⟨_, rfl⟩
  rw [← hdk]
  rcases own_five p1 dk hdk with rfl | rfl | rfl | rfl | rfl
  · refine own_go (T' := s₁) (g' := (mkF m 39 #[.val (.int p1), .val (.int p2), .val (.int (0 : Int32)), .val (.int (p2 &&& (2147483647 : Int32))), .val (.int (p2 &&& (2147483647 : Int32))), .unset] [])) (fun t kt => ?_) ?_
    · show Steps p.tables e below (s₁.setTop (mkF m 7 #[.val (.int p1), .val (.int p2), .val (.int (0 : Int32)), .unset, .unset, .unset] [])) t
      refine XS.iloadN X0.here hx rfl (hb hby at_7) rfl ?_
      show Steps p.tables e below (s₁.setTop (mkF m 8 #[.val (.int p1), .val (.int p2), .val (.int (0 : Int32)), .unset, .unset, .unset] [(.int p2)])) t
      refine X0.ldcInt hx hown (mvT hZ (hw _ (List.mem_of_getElem? (i := 0) rfl))) (g := (mkF m 8 #[.val (.int p1), .val (.int p2), .val (.int (0 : Int32)), .unset, .unset, .unset] [(.int p2)])) rfl (hb hby at_8) _ ?_
      show Steps p.tables e below (s₁.setTop (mkF m 10 #[.val (.int p1), .val (.int p2), .val (.int (0 : Int32)), .unset, .unset, .unset] [(.int (2147483647 : Int32)), (.int p2)])) t
      refine XS.iand X0.here hx rfl (hb hby at_10) rfl ?_
      show Steps p.tables e below (s₁.setTop (mkF m 11 #[.val (.int p1), .val (.int p2), .val (.int (0 : Int32)), .unset, .unset, .unset] [(.int (p2 &&& (2147483647 : Int32)))])) t
      refine XS.istoreN X0.here hx rfl (hb hby at_11) rfl (l' := #[.val (.int p1), .val (.int p2), .val (.int (0 : Int32)), .val (.int (p2 &&& (2147483647 : Int32))), .unset, .unset]) rfl ?_
      show Steps p.tables e below (s₁.setTop (mkF m 12 #[.val (.int p1), .val (.int p2), .val (.int (0 : Int32)), .val (.int (p2 &&& (2147483647 : Int32))), .unset, .unset] [])) t
      refine XS.iloadN X0.here hx rfl (hb hby at_12) rfl ?_
      show Steps p.tables e below (s₁.setTop (mkF m 13 #[.val (.int p1), .val (.int p2), .val (.int (0 : Int32)), .val (.int (p2 &&& (2147483647 : Int32))), .unset, .unset] [(.int (0 : Int32))])) t
      refine XS.iconst X0.here hx rfl (hb hby at_13) ?_
      show Steps p.tables e below (s₁.setTop (mkF m 14 #[.val (.int p1), .val (.int p2), .val (.int (0 : Int32)), .val (.int (p2 &&& (2147483647 : Int32))), .unset, .unset] [(.int (2 : Int32)), (.int (0 : Int32))])) t
      refine XS.icmpYes X0.here hx rfl (pc0 := 14) (pc' := 36) rfl (hb hby at_14) rfl (tlt (by decide : (0 : Int32) < (2 : Int32))).1 (by decide) (by decide) ?_
      show Steps p.tables e below (s₁.setTop (mkF m 36 #[.val (.int p1), .val (.int p2), .val (.int (0 : Int32)), .val (.int (p2 &&& (2147483647 : Int32))), .unset, .unset] [])) t
      refine XS.iloadN X0.here hx rfl (hb hby at_36) rfl ?_
      show Steps p.tables e below (s₁.setTop (mkF m 37 #[.val (.int p1), .val (.int p2), .val (.int (0 : Int32)), .val (.int (p2 &&& (2147483647 : Int32))), .unset, .unset] [(.int (p2 &&& (2147483647 : Int32)))])) t
      refine XS.istore X0.here hx rfl (hb hby at_37) rfl (l' := #[.val (.int p1), .val (.int p2), .val (.int (0 : Int32)), .val (.int (p2 &&& (2147483647 : Int32))), .val (.int (p2 &&& (2147483647 : Int32))), .unset]) rfl ?_
      exact kt
    have hd1 := own_raw p2
    generalize (p2 &&& (2147483647 : Int32)) = dl at hd1 ⊢
    have hd0 : ¬ (dl < (0 : Int32)) := by rw [Int32.lt_iff_toInt_lt]; have : (0 : Int32).toInt = 0 := rfl; omega
    refine own_go (T' := s₁) (g' := (mkF m 42 #[.val (.int p1), .val (.int p2), .val (.int (0 : Int32)), .val (.int dl), .val (.int dl), .unset] [(.int dl), (.int (0 : Int32))])) (fun t kt => ?_) ?_
    · show Steps p.tables e below (s₁.setTop (mkF m 39 #[.val (.int p1), .val (.int p2), .val (.int (0 : Int32)), .val (.int dl), .val (.int dl), .unset] [])) t
      refine XS.iloadN X0.here hx rfl (hb hby at_39) rfl ?_
      show Steps p.tables e below (s₁.setTop (mkF m 40 #[.val (.int p1), .val (.int p2), .val (.int (0 : Int32)), .val (.int dl), .val (.int dl), .unset] [(.int (0 : Int32))])) t
      refine XS.iload X0.here hx rfl (hb hby at_40) rfl ?_
      exact kt
    obtain ⟨_, _, ⟨T_1, L_1, k_1, n_1⟩, -, X_1, ⟨Lc_1, hQ_1, l_1, y_1, z_1⟩, st_1⟩ := Jvm.LawKit.callS X0 hx (y := (⟨"com/example/orrery/orrery/Program", "deltaFreqs", "(II)[I"⟩ : MethodName)) hown (mvT hZ (hw _ (List.mem_of_getElem? (i := 1) rfl))) (mvT hZ (hw _ (List.mem_of_getElem? (i := 2) rfl))) (mvT hZ (hw _ (List.mem_of_getElem? (i := 3) rfl))) (mvT hZ (hw _ (List.mem_of_getElem? (i := 4) rfl))) (by decide) (backOf (W := 0) (rd0 l Z a0 hw [] dl  h0 n0 Z0 hd0) hZ (hw _ (List.mem_of_getElem? (i := 4) rfl)) (hw _ (List.mem_of_getElem? (i := 3) rfl)) (by decide) (by decide)) (g := (mkF m 42 #[.val (.int p1), .val (.int p2), .val (.int (0 : Int32)), .val (.int dl), .val (.int dl), .unset] [(.int dl), (.int (0 : Int32))])) rfl (by rw [hml]; rfl) (argsL := [(.int (0 : Int32)), (.int dl)]) (rest := []) (lenOf pd_0 rfl) rfl (by show 2 * 0 + _ ≤ _; exact Nat.le_of_eq rfl) (hb hby at_42) (fun _ _ => ⟨rfl, e0, (by decide : 0 + 1 ≤ _), (by decide : 0 + 0 ≤ _)⟩)
    dsimp only [Pt.U, Pt.locs, Pt.cells, Pt.slots] at X_1 l_1 y_1 z_1 st_1 hQ_1
    subst l_1 y_1 z_1
    obtain ⟨b_1, kA_1, rfl, N_1q, K_1, sz_1, V_1⟩ := hQ_1
    have N_1 := Fr.app N0 N_1q
    have g_b_1 : n0 ≤ b_1 := Nat.le_trans Z0 sz_1
    have Z_1 : n0 ≤ T_1.heap.size := Nat.le_trans Z0 K_1.1
    refine own_go (g' := (mkF m 45 #[.val (.int p1), .val (.int p2), .val (.int (0 : Int32)), .val (.int dl), .val (.int dl), .unset] [(.ref b_1)])) st_1 ?_
    refine own_go (T' := T_1) (g' := (mkF m 49 #[.val (.int p1), .val (.int p2), .val (.int (0 : Int32)), .val (.int dl), .val (.int dl), .val (.ref b_1)] [(.ref b_1)])) (fun t kt => ?_) ?_
    · show Steps p.tables e below (T_1.setTop (mkF m 45 #[.val (.int p1), .val (.int p2), .val (.int (0 : Int32)), .val (.int dl), .val (.int dl), .unset] [(.ref b_1)])) t
      refine XS.astore X_1.here hx rfl (hb hby at_45) rfl rfl (l' := #[.val (.int p1), .val (.int p2), .val (.int (0 : Int32)), .val (.int dl), .val (.int dl), .val (.ref b_1)]) rfl ?_
      show Steps p.tables e below (T_1.setTop (mkF m 47 #[.val (.int p1), .val (.int p2), .val (.int (0 : Int32)), .val (.int dl), .val (.int dl), .val (.ref b_1)] [])) t
      refine XS.aload X_1.here hx rfl (hb hby at_47) rfl rfl ?_
      exact kt
    have vq_2 := V_1
    obtain ⟨c_2, a_2, -, s_2, m_2, -, -⟩ := vq_2
    refine own_go (T' := T_1) (g' := (mkF m 50 #[.val (.int p1), .val (.int p2), .val (.int (0 : Int32)), .val (.int dl), .val (.int dl), .val (.ref b_1)] [(.int (0 : Int32))])) (fun t kt => ?_) ?_
    · refine X_1.arraylength hx a_2.1 (State.isArrayOf_alike hZ.alike a_2.2.1) (g := (mkF m 49 #[.val (.int p1), .val (.int p2), .val (.int (0 : Int32)), .val (.int dl), .val (.int dl), .val (.ref b_1)] [(.ref b_1)])) rfl rfl (hb hby at_49) _ ?_
      rw [len_of s_2 m_2]
      exact kt
    refine own_go (T' := T_1) (g' := (mkF m 61 #[.val (.int p1), .val (.int p2), .val (.int (0 : Int32)), .val (.int dl), .val (.int dl), .val (.ref b_1)] [(.int (1 : Int32))])) (fun t kt => ?_) ?_
    · show Steps p.tables e below (T_1.setTop (mkF m 50 #[.val (.int p1), .val (.int p2), .val (.int (0 : Int32)), .val (.int dl), .val (.int dl), .val (.ref b_1)] [(.int (0 : Int32))])) t
      refine XS.iloadN X_1.here hx rfl (hb hby at_50) rfl ?_
      show Steps p.tables e below (T_1.setTop (mkF m 51 #[.val (.int p1), .val (.int p2), .val (.int (0 : Int32)), .val (.int dl), .val (.int dl), .val (.ref b_1)] [(.int (0 : Int32)), (.int (0 : Int32))])) t
      refine XS.icmpYes X_1.here hx rfl (pc0 := 51) (pc' := 56) rfl (hb hby at_51) rfl (teq (by decide : (0 : Int32) = (0 : Int32))).1 (by decide) (by decide) ?_
      show Steps p.tables e below (T_1.setTop (mkF m 56 #[.val (.int p1), .val (.int p2), .val (.int (0 : Int32)), .val (.int dl), .val (.int dl), .val (.ref b_1)] [])) t
      refine XS.iloadN X_1.here hx rfl (hb hby at_56) rfl ?_
      show Steps p.tables e below (T_1.setTop (mkF m 57 #[.val (.int p1), .val (.int p2), .val (.int (0 : Int32)), .val (.int dl), .val (.int dl), .val (.ref b_1)] [(.int (0 : Int32))])) t
      refine XS.ifNo X_1.here hx rfl (hb hby at_57) rfl ((if0 _ _).trans (teq (by decide : (0 : Int32) = (0 : Int32))).2) ?_
      show Steps p.tables e below (T_1.setTop (mkF m 60 #[.val (.int p1), .val (.int p2), .val (.int (0 : Int32)), .val (.int dl), .val (.int dl), .val (.ref b_1)] [])) t
      refine XS.iconst X_1.here hx rfl (hb hby at_60) ?_
      exact kt
    obtain ⟨fs, hr, hrun, hended, hW, hsame⟩ := X_1.leave (v := some (.int (1 : Int32))) (fun h => by rw [Bd.returns] at h; cases h)
    refine ⟨_, _, ?_, hrun, hended, _, _, rfl, ?_, ⟨_, rfl⟩, hW, hsame.mono (by decide) (by decide)⟩
    · exact retN X_1 hx (t := .boolean) Bd.returns (by simp) (hb hby at_61) hr
    · show Q_rm0 Z _ _ h0 n0 _ T_1.heap _
      exact ⟨rfl, N_1⟩
  · refine own_go (T' := s₁) (g' := (mkF m 39 #[.val (.int p1), .val (.int p2), .val (.int (1 : Int32)), .val (.int (p2 &&& (2147483647 : Int32))), .val (.int (p2 &&& (2147483647 : Int32))), .unset] [])) (fun t kt => ?_) ?_
    · show Steps p.tables e below (s₁.setTop (mkF m 7 #[.val (.int p1), .val (.int p2), .val (.int (1 : Int32)), .unset, .unset, .unset] [])) t
      refine XS.iloadN X0.here hx rfl (hb hby at_7) rfl ?_
      show Steps p.tables e below (s₁.setTop (mkF m 8 #[.val (.int p1), .val (.int p2), .val (.int (1 : Int32)), .unset, .unset, .unset] [(.int p2)])) t
      refine X0.ldcInt hx hown (mvT hZ (hw _ (List.mem_of_getElem? (i := 0) rfl))) (g := (mkF m 8 #[.val (.int p1), .val (.int p2), .val (.int (1 : Int32)), .unset, .unset, .unset] [(.int p2)])) rfl (hb hby at_8) _ ?_
      show Steps p.tables e below (s₁.setTop (mkF m 10 #[.val (.int p1), .val (.int p2), .val (.int (1 : Int32)), .unset, .unset, .unset] [(.int (2147483647 : Int32)), (.int p2)])) t
      refine XS.iand X0.here hx rfl (hb hby at_10) rfl ?_
      show Steps p.tables e below (s₁.setTop (mkF m 11 #[.val (.int p1), .val (.int p2), .val (.int (1 : Int32)), .unset, .unset, .unset] [(.int (p2 &&& (2147483647 : Int32)))])) t
      refine XS.istoreN X0.here hx rfl (hb hby at_11) rfl (l' := #[.val (.int p1), .val (.int p2), .val (.int (1 : Int32)), .val (.int (p2 &&& (2147483647 : Int32))), .unset, .unset]) rfl ?_
      show Steps p.tables e below (s₁.setTop (mkF m 12 #[.val (.int p1), .val (.int p2), .val (.int (1 : Int32)), .val (.int (p2 &&& (2147483647 : Int32))), .unset, .unset] [])) t
      refine XS.iloadN X0.here hx rfl (hb hby at_12) rfl ?_
      show Steps p.tables e below (s₁.setTop (mkF m 13 #[.val (.int p1), .val (.int p2), .val (.int (1 : Int32)), .val (.int (p2 &&& (2147483647 : Int32))), .unset, .unset] [(.int (1 : Int32))])) t
      refine XS.iconst X0.here hx rfl (hb hby at_13) ?_
      show Steps p.tables e below (s₁.setTop (mkF m 14 #[.val (.int p1), .val (.int p2), .val (.int (1 : Int32)), .val (.int (p2 &&& (2147483647 : Int32))), .unset, .unset] [(.int (2 : Int32)), (.int (1 : Int32))])) t
      refine XS.icmpYes X0.here hx rfl (pc0 := 14) (pc' := 36) rfl (hb hby at_14) rfl (tlt (by decide : (1 : Int32) < (2 : Int32))).1 (by decide) (by decide) ?_
      show Steps p.tables e below (s₁.setTop (mkF m 36 #[.val (.int p1), .val (.int p2), .val (.int (1 : Int32)), .val (.int (p2 &&& (2147483647 : Int32))), .unset, .unset] [])) t
      refine XS.iloadN X0.here hx rfl (hb hby at_36) rfl ?_
      show Steps p.tables e below (s₁.setTop (mkF m 37 #[.val (.int p1), .val (.int p2), .val (.int (1 : Int32)), .val (.int (p2 &&& (2147483647 : Int32))), .unset, .unset] [(.int (p2 &&& (2147483647 : Int32)))])) t
      refine XS.istore X0.here hx rfl (hb hby at_37) rfl (l' := #[.val (.int p1), .val (.int p2), .val (.int (1 : Int32)), .val (.int (p2 &&& (2147483647 : Int32))), .val (.int (p2 &&& (2147483647 : Int32))), .unset]) rfl ?_
      exact kt
    have hd1 := own_raw p2
    generalize (p2 &&& (2147483647 : Int32)) = dl at hd1 ⊢
    have hd0 : ¬ (dl < (0 : Int32)) := by rw [Int32.lt_iff_toInt_lt]; have : (0 : Int32).toInt = 0 := rfl; omega
    refine own_go (T' := s₁) (g' := (mkF m 42 #[.val (.int p1), .val (.int p2), .val (.int (1 : Int32)), .val (.int dl), .val (.int dl), .unset] [(.int dl), (.int (1 : Int32))])) (fun t kt => ?_) ?_
    · show Steps p.tables e below (s₁.setTop (mkF m 39 #[.val (.int p1), .val (.int p2), .val (.int (1 : Int32)), .val (.int dl), .val (.int dl), .unset] [])) t
      refine XS.iloadN X0.here hx rfl (hb hby at_39) rfl ?_
      show Steps p.tables e below (s₁.setTop (mkF m 40 #[.val (.int p1), .val (.int p2), .val (.int (1 : Int32)), .val (.int dl), .val (.int dl), .unset] [(.int (1 : Int32))])) t
      refine XS.iload X0.here hx rfl (hb hby at_40) rfl ?_
      exact kt
    obtain ⟨_, _, ⟨T_3, L_3, k_3, n_3⟩, -, X_3, ⟨Lc_3, hQ_3, l_3, y_3, z_3⟩, st_3⟩ := Jvm.LawKit.callS X0 hx (y := (⟨"com/example/orrery/orrery/Program", "deltaFreqs", "(II)[I"⟩ : MethodName)) hown (mvT hZ (hw _ (List.mem_of_getElem? (i := 1) rfl))) (mvT hZ (hw _ (List.mem_of_getElem? (i := 2) rfl))) (mvT hZ (hw _ (List.mem_of_getElem? (i := 3) rfl))) (mvT hZ (hw _ (List.mem_of_getElem? (i := 4) rfl))) (by decide) (backOf (W := 0) (rd1 l Z a0 hw [] dl  h0 n0 Z0 hd0 hd1) hZ (hw _ (List.mem_of_getElem? (i := 4) rfl)) (hw _ (List.mem_of_getElem? (i := 3) rfl)) (by decide) (by decide)) (g := (mkF m 42 #[.val (.int p1), .val (.int p2), .val (.int (1 : Int32)), .val (.int dl), .val (.int dl), .unset] [(.int dl), (.int (1 : Int32))])) rfl (by rw [hml]; rfl) (argsL := [(.int (1 : Int32)), (.int dl)]) (rest := []) (lenOf pd_0 rfl) rfl (by show 2 * 0 + _ ≤ _; exact Nat.le_of_eq rfl) (hb hby at_42) (fun _ _ => ⟨rfl, e0, (by decide : 0 + 1 ≤ _), (by decide : 0 + 1 ≤ _)⟩)
    dsimp only [Pt.U, Pt.locs, Pt.cells, Pt.slots] at X_3 l_3 y_3 z_3 st_3 hQ_3
    subst l_3 y_3 z_3
    obtain ⟨b_3, kA_3, rfl, N_3q, K_3, sz_3, V_3⟩ := hQ_3
    have N_3 := Fr.app N0 N_3q
    have g_b_3 : n0 ≤ b_3 := Nat.le_trans Z0 sz_3
    have Z_3 : n0 ≤ T_3.heap.size := Nat.le_trans Z0 K_3.1
    refine own_go (g' := (mkF m 45 #[.val (.int p1), .val (.int p2), .val (.int (1 : Int32)), .val (.int dl), .val (.int dl), .unset] [(.ref b_3)])) st_3 ?_
    refine own_go (T' := T_3) (g' := (mkF m 49 #[.val (.int p1), .val (.int p2), .val (.int (1 : Int32)), .val (.int dl), .val (.int dl), .val (.ref b_3)] [(.ref b_3)])) (fun t kt => ?_) ?_
    · show Steps p.tables e below (T_3.setTop (mkF m 45 #[.val (.int p1), .val (.int p2), .val (.int (1 : Int32)), .val (.int dl), .val (.int dl), .unset] [(.ref b_3)])) t
      refine XS.astore X_3.here hx rfl (hb hby at_45) rfl rfl (l' := #[.val (.int p1), .val (.int p2), .val (.int (1 : Int32)), .val (.int dl), .val (.int dl), .val (.ref b_3)]) rfl ?_
      show Steps p.tables e below (T_3.setTop (mkF m 47 #[.val (.int p1), .val (.int p2), .val (.int (1 : Int32)), .val (.int dl), .val (.int dl), .val (.ref b_3)] [])) t
      refine XS.aload X_3.here hx rfl (hb hby at_47) rfl rfl ?_
      exact kt
    have vq_4 := V_3
    obtain ⟨c_4, a_4, -, s_4, m_4, -, -⟩ := vq_4
    refine own_go (T' := T_3) (g' := (mkF m 50 #[.val (.int p1), .val (.int p2), .val (.int (1 : Int32)), .val (.int dl), .val (.int dl), .val (.ref b_3)] [(.int (1 : Int32))])) (fun t kt => ?_) ?_
    · refine X_3.arraylength hx a_4.1 (State.isArrayOf_alike hZ.alike a_4.2.1) (g := (mkF m 49 #[.val (.int p1), .val (.int p2), .val (.int (1 : Int32)), .val (.int dl), .val (.int dl), .val (.ref b_3)] [(.ref b_3)])) rfl rfl (hb hby at_49) _ ?_
      rw [len_of s_4 m_4]
      exact kt
    refine own_go (T' := T_3) (g' := (mkF m 67 #[.val (.int p1), .val (.int p2), .val (.int (1 : Int32)), .val (.int dl), .val (.int dl), .val (.ref b_3)] [(.int (0 : Int32)), (.ref b_3)])) (fun t kt => ?_) ?_
    · show Steps p.tables e below (T_3.setTop (mkF m 50 #[.val (.int p1), .val (.int p2), .val (.int (1 : Int32)), .val (.int dl), .val (.int dl), .val (.ref b_3)] [(.int (1 : Int32))])) t
      refine XS.iloadN X_3.here hx rfl (hb hby at_50) rfl ?_
      show Steps p.tables e below (T_3.setTop (mkF m 51 #[.val (.int p1), .val (.int p2), .val (.int (1 : Int32)), .val (.int dl), .val (.int dl), .val (.ref b_3)] [(.int (1 : Int32)), (.int (1 : Int32))])) t
      refine XS.icmpYes X_3.here hx rfl (pc0 := 51) (pc' := 56) rfl (hb hby at_51) rfl (teq (by decide : (1 : Int32) = (1 : Int32))).1 (by decide) (by decide) ?_
      show Steps p.tables e below (T_3.setTop (mkF m 56 #[.val (.int p1), .val (.int p2), .val (.int (1 : Int32)), .val (.int dl), .val (.int dl), .val (.ref b_3)] [])) t
      refine XS.iloadN X_3.here hx rfl (hb hby at_56) rfl ?_
      show Steps p.tables e below (T_3.setTop (mkF m 57 #[.val (.int p1), .val (.int p2), .val (.int (1 : Int32)), .val (.int dl), .val (.int dl), .val (.ref b_3)] [(.int (1 : Int32))])) t
      refine XS.ifYes X_3.here hx rfl (pc0 := 57) (pc' := 62) rfl (hb hby at_57) rfl ((if0 _ _).trans (feq (by decide : ¬ ((1 : Int32) = (0 : Int32)))).2) (by decide) (by decide) ?_
      show Steps p.tables e below (T_3.setTop (mkF m 62 #[.val (.int p1), .val (.int p2), .val (.int (1 : Int32)), .val (.int dl), .val (.int dl), .val (.ref b_3)] [])) t
      refine XS.aload X_3.here hx rfl (hb hby at_62) rfl rfl ?_
      show Steps p.tables e below (T_3.setTop (mkF m 64 #[.val (.int p1), .val (.int p2), .val (.int (1 : Int32)), .val (.int dl), .val (.int dl), .val (.ref b_3)] [(.ref b_3)])) t
      refine XS.iloadN X_3.here hx rfl (hb hby at_64) rfl ?_
      show Steps p.tables e below (T_3.setTop (mkF m 65 #[.val (.int p1), .val (.int p2), .val (.int (1 : Int32)), .val (.int dl), .val (.int dl), .val (.ref b_3)] [(.int (1 : Int32)), (.ref b_3)])) t
      refine XS.iconst X_3.here hx rfl (hb hby at_65) ?_
      show Steps p.tables e below (T_3.setTop (mkF m 66 #[.val (.int p1), .val (.int p2), .val (.int (1 : Int32)), .val (.int dl), .val (.int dl), .val (.ref b_3)] [(.int (1 : Int32)), (.int (1 : Int32)), (.ref b_3)])) t
      refine XS.isub X_3.here hx rfl (hb hby at_66) rfl ?_
      exact kt
    have vq_5 := V_3
    obtain ⟨c_5, a_5, q_5, s_5, m_5, H_5, G_5⟩ := vq_5
    have hin_5 : ¬ ((0 : Int32) < 0 ∨ c_5.slots.size ≤ ((0 : Int32)).toNatClampNeg) := inb_of s_5 ⟨by decide, by decide⟩
    have hat_5 : c_5.slots[((0 : Int32)).toNatClampNeg]? = some (.int (own_fr (0 : Int32) dl)) := H_5.at hin_5 rfl
    refine own_go (T' := T_3) (g' := (mkF m 68 #[.val (.int p1), .val (.int p2), .val (.int (1 : Int32)), .val (.int dl), .val (.int dl), .val (.ref b_3)] [(.int (own_fr (0 : Int32) dl))])) (fun t kt => ?_) ?_
    · refine X_3.iaload hx (j := (0 : Int32)) (v := (.int (own_fr (0 : Int32) dl))) a_5.1 (State.isArrayOf_alike hZ.alike a_5.2.1) a_5.2.2 hin_5 hat_5 (g := (mkF m 67 #[.val (.int p1), .val (.int p2), .val (.int (1 : Int32)), .val (.int dl), .val (.int dl), .val (.ref b_3)] [(.int (0 : Int32)), (.ref b_3)])) rfl rfl (hb hby at_67) _ ?_
      exact kt
    refine own_go (T' := T_3) (g' := (mkF m 146 #[.val (.int p1), .val (.int p2), .val (.int (1 : Int32)), .val (.int dl), .val (.int dl), .val (.ref b_3)] [(.int (1 : Int32))])) (fun t kt => ?_) ?_
    · show Steps p.tables e below (T_3.setTop (mkF m 68 #[.val (.int p1), .val (.int p2), .val (.int (1 : Int32)), .val (.int dl), .val (.int dl), .val (.ref b_3)] [(.int (own_fr (0 : Int32) dl))])) t
      refine XS.iconst X_3.here hx rfl (hb hby at_68) ?_
      show Steps p.tables e below (T_3.setTop (mkF m 69 #[.val (.int p1), .val (.int p2), .val (.int (1 : Int32)), .val (.int dl), .val (.int dl), .val (.ref b_3)] [(.int (1 : Int32)), (.int (own_fr (0 : Int32) dl))])) t
      refine XS.icmpYes X_3.here hx rfl (pc0 := 69) (pc' := 74) rfl (hb hby at_69) rfl (teq (own_one dl hd1 : (own_fr (0 : Int32) dl) = (1 : Int32))).1 (by decide) (by decide) ?_
      show Steps p.tables e below (T_3.setTop (mkF m 74 #[.val (.int p1), .val (.int p2), .val (.int (1 : Int32)), .val (.int dl), .val (.int dl), .val (.ref b_3)] [])) t
      refine XS.iloadN X_3.here hx rfl (hb hby at_74) rfl ?_
      show Steps p.tables e below (T_3.setTop (mkF m 75 #[.val (.int p1), .val (.int p2), .val (.int (1 : Int32)), .val (.int dl), .val (.int dl), .val (.ref b_3)] [(.int (1 : Int32))])) t
      refine XS.iconst X_3.here hx rfl (hb hby at_75) ?_
      show Steps p.tables e below (T_3.setTop (mkF m 76 #[.val (.int p1), .val (.int p2), .val (.int (1 : Int32)), .val (.int dl), .val (.int dl), .val (.ref b_3)] [(.int (2 : Int32)), (.int (1 : Int32))])) t
      refine XS.icmpYes X_3.here hx rfl (pc0 := 76) (pc' := 99) rfl (hb hby at_76) rfl (tlt (by decide : (1 : Int32) < (2 : Int32))).1 (by decide) (by decide) ?_
      show Steps p.tables e below (T_3.setTop (mkF m 99 #[.val (.int p1), .val (.int p2), .val (.int (1 : Int32)), .val (.int dl), .val (.int dl), .val (.ref b_3)] [])) t
      refine XS.iloadN X_3.here hx rfl (hb hby at_99) rfl ?_
      show Steps p.tables e below (T_3.setTop (mkF m 100 #[.val (.int p1), .val (.int p2), .val (.int (1 : Int32)), .val (.int dl), .val (.int dl), .val (.ref b_3)] [(.int (1 : Int32))])) t
      refine XS.iconst X_3.here hx rfl (hb hby at_100) ?_
      show Steps p.tables e below (T_3.setTop (mkF m 101 #[.val (.int p1), .val (.int p2), .val (.int (1 : Int32)), .val (.int dl), .val (.int dl), .val (.ref b_3)] [(.int (3 : Int32)), (.int (1 : Int32))])) t
      refine XS.icmpYes X_3.here hx rfl (pc0 := 101) (pc' := 124) rfl (hb hby at_101) rfl (tlt (by decide : (1 : Int32) < (3 : Int32))).1 (by decide) (by decide) ?_
      show Steps p.tables e below (T_3.setTop (mkF m 124 #[.val (.int p1), .val (.int p2), .val (.int (1 : Int32)), .val (.int dl), .val (.int dl), .val (.ref b_3)] [])) t
      refine XS.iloadN X_3.here hx rfl (hb hby at_124) rfl ?_
      show Steps p.tables e below (T_3.setTop (mkF m 125 #[.val (.int p1), .val (.int p2), .val (.int (1 : Int32)), .val (.int dl), .val (.int dl), .val (.ref b_3)] [(.int (1 : Int32))])) t
      refine XS.iconst X_3.here hx rfl (hb hby at_125) ?_
      show Steps p.tables e below (T_3.setTop (mkF m 126 #[.val (.int p1), .val (.int p2), .val (.int (1 : Int32)), .val (.int dl), .val (.int dl), .val (.ref b_3)] [(.int (4 : Int32)), (.int (1 : Int32))])) t
      refine XS.icmpYes X_3.here hx rfl (pc0 := 126) (pc' := 145) rfl (hb hby at_126) rfl (tlt (by decide : (1 : Int32) < (4 : Int32))).1 (by decide) (by decide) ?_
      show Steps p.tables e below (T_3.setTop (mkF m 145 #[.val (.int p1), .val (.int p2), .val (.int (1 : Int32)), .val (.int dl), .val (.int dl), .val (.ref b_3)] [])) t
      refine XS.iconst X_3.here hx rfl (hb hby at_145) ?_
      exact kt
    obtain ⟨fs, hr, hrun, hended, hW, hsame⟩ := X_3.leave (v := some (.int (1 : Int32))) (fun h => by rw [Bd.returns] at h; cases h)
    refine ⟨_, _, ?_, hrun, hended, _, _, rfl, ?_, ⟨_, rfl⟩, hW, hsame.mono (by decide) (by decide)⟩
    · exact retN X_3 hx (t := .boolean) Bd.returns (by simp) (hb hby at_146) hr
    · show Q_rm0 Z _ _ h0 n0 _ T_3.heap _
      exact ⟨rfl, N_3⟩
  · refine own_go (T' := s₁) (g' := (mkF m 39 #[.val (.int p1), .val (.int p2), .val (.int (2 : Int32)), .val (.int (p2 &&& (2147483647 : Int32))), .val (.int ((p2 &&& (2147483647 : Int32)) - ((p2 &&& (2147483647 : Int32)) / (((16777215 : Int32) / (1 : Int32)) + (1 : Int32))) * (((16777215 : Int32) / (1 : Int32)) + (1 : Int32)))), .val (.int ((16777215 : Int32) / (1 : Int32)))] [])) (fun t kt => ?_) ?_
    · show Steps p.tables e below (s₁.setTop (mkF m 7 #[.val (.int p1), .val (.int p2), .val (.int (2 : Int32)), .unset, .unset, .unset] [])) t
      refine XS.iloadN X0.here hx rfl (hb hby at_7) rfl ?_
      show Steps p.tables e below (s₁.setTop (mkF m 8 #[.val (.int p1), .val (.int p2), .val (.int (2 : Int32)), .unset, .unset, .unset] [(.int p2)])) t
      refine X0.ldcInt hx hown (mvT hZ (hw _ (List.mem_of_getElem? (i := 0) rfl))) (g := (mkF m 8 #[.val (.int p1), .val (.int p2), .val (.int (2 : Int32)), .unset, .unset, .unset] [(.int p2)])) rfl (hb hby at_8) _ ?_
      show Steps p.tables e below (s₁.setTop (mkF m 10 #[.val (.int p1), .val (.int p2), .val (.int (2 : Int32)), .unset, .unset, .unset] [(.int (2147483647 : Int32)), (.int p2)])) t
      refine XS.iand X0.here hx rfl (hb hby at_10) rfl ?_
      show Steps p.tables e below (s₁.setTop (mkF m 11 #[.val (.int p1), .val (.int p2), .val (.int (2 : Int32)), .unset, .unset, .unset] [(.int (p2 &&& (2147483647 : Int32)))])) t
      refine XS.istoreN X0.here hx rfl (hb hby at_11) rfl (l' := #[.val (.int p1), .val (.int p2), .val (.int (2 : Int32)), .val (.int (p2 &&& (2147483647 : Int32))), .unset, .unset]) rfl ?_
      show Steps p.tables e below (s₁.setTop (mkF m 12 #[.val (.int p1), .val (.int p2), .val (.int (2 : Int32)), .val (.int (p2 &&& (2147483647 : Int32))), .unset, .unset] [])) t
      refine XS.iloadN X0.here hx rfl (hb hby at_12) rfl ?_
      show Steps p.tables e below (s₁.setTop (mkF m 13 #[.val (.int p1), .val (.int p2), .val (.int (2 : Int32)), .val (.int (p2 &&& (2147483647 : Int32))), .unset, .unset] [(.int (2 : Int32))])) t
      refine XS.iconst X0.here hx rfl (hb hby at_13) ?_
      show Steps p.tables e below (s₁.setTop (mkF m 14 #[.val (.int p1), .val (.int p2), .val (.int (2 : Int32)), .val (.int (p2 &&& (2147483647 : Int32))), .unset, .unset] [(.int (2 : Int32)), (.int (2 : Int32))])) t
      refine XS.icmpNo X0.here hx rfl (hb hby at_14) rfl (flt (by decide : ¬ ((2 : Int32) < (2 : Int32)))).1 ?_
      show Steps p.tables e below (s₁.setTop (mkF m 17 #[.val (.int p1), .val (.int p2), .val (.int (2 : Int32)), .val (.int (p2 &&& (2147483647 : Int32))), .unset, .unset] [])) t
      refine X0.ldcInt hx hown (mvT hZ (hw _ (List.mem_of_getElem? (i := 6) rfl))) (g := (mkF m 17 #[.val (.int p1), .val (.int p2), .val (.int (2 : Int32)), .val (.int (p2 &&& (2147483647 : Int32))), .unset, .unset] [])) rfl (hb hby at_17) _ ?_
      show Steps p.tables e below (s₁.setTop (mkF m 19 #[.val (.int p1), .val (.int p2), .val (.int (2 : Int32)), .val (.int (p2 &&& (2147483647 : Int32))), .unset, .unset] [(.int (16777215 : Int32))])) t
      refine XS.iloadN X0.here hx rfl (hb hby at_19) rfl ?_
      show Steps p.tables e below (s₁.setTop (mkF m 20 #[.val (.int p1), .val (.int p2), .val (.int (2 : Int32)), .val (.int (p2 &&& (2147483647 : Int32))), .unset, .unset] [(.int (2 : Int32)), (.int (16777215 : Int32))])) t
      refine XS.iconst X0.here hx rfl (hb hby at_20) ?_
      show Steps p.tables e below (s₁.setTop (mkF m 21 #[.val (.int p1), .val (.int p2), .val (.int (2 : Int32)), .val (.int (p2 &&& (2147483647 : Int32))), .unset, .unset] [(.int (1 : Int32)), (.int (2 : Int32)), (.int (16777215 : Int32))])) t
      refine XS.isub X0.here hx rfl (hb hby at_21) rfl ?_
      show Steps p.tables e below (s₁.setTop (mkF m 22 #[.val (.int p1), .val (.int p2), .val (.int (2 : Int32)), .val (.int (p2 &&& (2147483647 : Int32))), .unset, .unset] [(.int (1 : Int32)), (.int (16777215 : Int32))])) t
      refine XS.idiv X0.here hx rfl (hb hby at_22) rfl (by decide) ?_
      show Steps p.tables e below (s₁.setTop (mkF m 23 #[.val (.int p1), .val (.int p2), .val (.int (2 : Int32)), .val (.int (p2 &&& (2147483647 : Int32))), .unset, .unset] [(.int ((16777215 : Int32) / (1 : Int32)))])) t
      refine XS.istore X0.here hx rfl (hb hby at_23) rfl (l' := #[.val (.int p1), .val (.int p2), .val (.int (2 : Int32)), .val (.int (p2 &&& (2147483647 : Int32))), .unset, .val (.int ((16777215 : Int32) / (1 : Int32)))]) rfl ?_
      show Steps p.tables e below (s₁.setTop (mkF m 25 #[.val (.int p1), .val (.int p2), .val (.int (2 : Int32)), .val (.int (p2 &&& (2147483647 : Int32))), .unset, .val (.int ((16777215 : Int32) / (1 : Int32)))] [])) t
      refine XS.iloadN X0.here hx rfl (hb hby at_25) rfl ?_
      show Steps p.tables e below (s₁.setTop (mkF m 26 #[.val (.int p1), .val (.int p2), .val (.int (2 : Int32)), .val (.int (p2 &&& (2147483647 : Int32))), .unset, .val (.int ((16777215 : Int32) / (1 : Int32)))] [(.int (p2 &&& (2147483647 : Int32)))])) t
      refine XS.iload X0.here hx rfl (hb hby at_26) rfl ?_
      show Steps p.tables e below (s₁.setTop (mkF m 28 #[.val (.int p1), .val (.int p2), .val (.int (2 : Int32)), .val (.int (p2 &&& (2147483647 : Int32))), .unset, .val (.int ((16777215 : Int32) / (1 : Int32)))] [(.int ((16777215 : Int32) / (1 : Int32))), (.int (p2 &&& (2147483647 : Int32)))])) t
      refine XS.iconst X0.here hx rfl (hb hby at_28) ?_
      show Steps p.tables e below (s₁.setTop (mkF m 29 #[.val (.int p1), .val (.int p2), .val (.int (2 : Int32)), .val (.int (p2 &&& (2147483647 : Int32))), .unset, .val (.int ((16777215 : Int32) / (1 : Int32)))] [(.int (1 : Int32)), (.int ((16777215 : Int32) / (1 : Int32))), (.int (p2 &&& (2147483647 : Int32)))])) t
      refine XS.iadd X0.here hx rfl (hb hby at_29) rfl ?_
      show Steps p.tables e below (s₁.setTop (mkF m 30 #[.val (.int p1), .val (.int p2), .val (.int (2 : Int32)), .val (.int (p2 &&& (2147483647 : Int32))), .unset, .val (.int ((16777215 : Int32) / (1 : Int32)))] [(.int (((16777215 : Int32) / (1 : Int32)) + (1 : Int32))), (.int (p2 &&& (2147483647 : Int32)))])) t
      refine XS.irem X0.here hx rfl (hb hby at_30) rfl (by decide) ?_
      show Steps p.tables e below (s₁.setTop (mkF m 31 #[.val (.int p1), .val (.int p2), .val (.int (2 : Int32)), .val (.int (p2 &&& (2147483647 : Int32))), .unset, .val (.int ((16777215 : Int32) / (1 : Int32)))] [(.int ((p2 &&& (2147483647 : Int32)) - ((p2 &&& (2147483647 : Int32)) / (((16777215 : Int32) / (1 : Int32)) + (1 : Int32))) * (((16777215 : Int32) / (1 : Int32)) + (1 : Int32))))])) t
      refine XS.istore X0.here hx rfl (hb hby at_31) rfl (l' := #[.val (.int p1), .val (.int p2), .val (.int (2 : Int32)), .val (.int (p2 &&& (2147483647 : Int32))), .val (.int ((p2 &&& (2147483647 : Int32)) - ((p2 &&& (2147483647 : Int32)) / (((16777215 : Int32) / (1 : Int32)) + (1 : Int32))) * (((16777215 : Int32) / (1 : Int32)) + (1 : Int32)))), .val (.int ((16777215 : Int32) / (1 : Int32)))]) rfl ?_
      show Steps p.tables e below (s₁.setTop (mkF m 33 #[.val (.int p1), .val (.int p2), .val (.int (2 : Int32)), .val (.int (p2 &&& (2147483647 : Int32))), .val (.int ((p2 &&& (2147483647 : Int32)) - ((p2 &&& (2147483647 : Int32)) / (((16777215 : Int32) / (1 : Int32)) + (1 : Int32))) * (((16777215 : Int32) / (1 : Int32)) + (1 : Int32)))), .val (.int ((16777215 : Int32) / (1 : Int32)))] [])) t
      refine XS.goto X0.here hx rfl (pc0 := 33) (pc' := 39) rfl (hb hby at_33) (by decide) (by decide) ?_
      exact kt
    have hd1 := (own_dl p2 (((16777215 : Int32) / (1 : Int32)) + (1 : Int32)) 16777216 (by decide) (by decide)).1
    have hd2 := (own_dl p2 (((16777215 : Int32) / (1 : Int32)) + (1 : Int32)) 16777216 (by decide) (by decide)).2
    generalize ((p2 &&& (2147483647 : Int32)) - ((p2 &&& (2147483647 : Int32)) / (((16777215 : Int32) / (1 : Int32)) + (1 : Int32))) * (((16777215 : Int32) / (1 : Int32)) + (1 : Int32))) = dl at hd1 hd2 ⊢
    have hd0 : ¬ (dl < (0 : Int32)) := by rw [Int32.lt_iff_toInt_lt]; have : (0 : Int32).toInt = 0 := rfl; omega
    refine own_go (T' := s₁) (g' := (mkF m 42 #[.val (.int p1), .val (.int p2), .val (.int (2 : Int32)), .val (.int (p2 &&& (2147483647 : Int32))), .val (.int dl), .val (.int ((16777215 : Int32) / (1 : Int32)))] [(.int dl), (.int (2 : Int32))])) (fun t kt => ?_) ?_
    · show Steps p.tables e below (s₁.setTop (mkF m 39 #[.val (.int p1), .val (.int p2), .val (.int (2 : Int32)), .val (.int (p2 &&& (2147483647 : Int32))), .val (.int dl), .val (.int ((16777215 : Int32) / (1 : Int32)))] [])) t
      refine XS.iloadN X0.here hx rfl (hb hby at_39) rfl ?_
      show Steps p.tables e below (s₁.setTop (mkF m 40 #[.val (.int p1), .val (.int p2), .val (.int (2 : Int32)), .val (.int (p2 &&& (2147483647 : Int32))), .val (.int dl), .val (.int ((16777215 : Int32) / (1 : Int32)))] [(.int (2 : Int32))])) t
      refine XS.iload X0.here hx rfl (hb hby at_40) rfl ?_
      exact kt
    obtain ⟨_, _, ⟨T_6, L_6, k_6, n_6⟩, -, X_6, ⟨Lc_6, hQ_6, l_6, y_6, z_6⟩, st_6⟩ := Jvm.LawKit.callS X0 hx (y := (⟨"com/example/orrery/orrery/Program", "deltaFreqs", "(II)[I"⟩ : MethodName)) hown (mvT hZ (hw _ (List.mem_of_getElem? (i := 1) rfl))) (mvT hZ (hw _ (List.mem_of_getElem? (i := 2) rfl))) (mvT hZ (hw _ (List.mem_of_getElem? (i := 3) rfl))) (mvT hZ (hw _ (List.mem_of_getElem? (i := 4) rfl))) (by decide) (backOf (W := 0) (rd2 l Z a0 hw [] dl  h0 n0 Z0 hd0 hd1 (by omega)) hZ (hw _ (List.mem_of_getElem? (i := 4) rfl)) (hw _ (List.mem_of_getElem? (i := 3) rfl)) (by decide) (by decide)) (g := (mkF m 42 #[.val (.int p1), .val (.int p2), .val (.int (2 : Int32)), .val (.int (p2 &&& (2147483647 : Int32))), .val (.int dl), .val (.int ((16777215 : Int32) / (1 : Int32)))] [(.int dl), (.int (2 : Int32))])) rfl (by rw [hml]; rfl) (argsL := [(.int (2 : Int32)), (.int dl)]) (rest := []) (lenOf pd_0 rfl) rfl (by show 2 * 0 + _ ≤ _; exact Nat.le_of_eq rfl) (hb hby at_42) (fun _ _ => ⟨rfl, e0, (by decide : 0 + 1 ≤ _), (by decide : 0 + 2 ≤ _)⟩)
    dsimp only [Pt.U, Pt.locs, Pt.cells, Pt.slots] at X_6 l_6 y_6 z_6 st_6 hQ_6
    subst l_6 y_6 z_6
    obtain ⟨b_6, kA_6, rfl, N_6q, K_6, sz_6, V_6⟩ := hQ_6
    have N_6 := Fr.app N0 N_6q
    have g_b_6 : n0 ≤ b_6 := Nat.le_trans Z0 sz_6
    have Z_6 : n0 ≤ T_6.heap.size := Nat.le_trans Z0 K_6.1
    refine own_go (g' := (mkF m 45 #[.val (.int p1), .val (.int p2), .val (.int (2 : Int32)), .val (.int (p2 &&& (2147483647 : Int32))), .val (.int dl), .val (.int ((16777215 : Int32) / (1 : Int32)))] [(.ref b_6)])) st_6 ?_
    refine own_go (T' := T_6) (g' := (mkF m 49 #[.val (.int p1), .val (.int p2), .val (.int (2 : Int32)), .val (.int (p2 &&& (2147483647 : Int32))), .val (.int dl), .val (.ref b_6)] [(.ref b_6)])) (fun t kt => ?_) ?_
    · show Steps p.tables e below (T_6.setTop (mkF m 45 #[.val (.int p1), .val (.int p2), .val (.int (2 : Int32)), .val (.int (p2 &&& (2147483647 : Int32))), .val (.int dl), .val (.int ((16777215 : Int32) / (1 : Int32)))] [(.ref b_6)])) t
      refine XS.astore X_6.here hx rfl (hb hby at_45) rfl rfl (l' := #[.val (.int p1), .val (.int p2), .val (.int (2 : Int32)), .val (.int (p2 &&& (2147483647 : Int32))), .val (.int dl), .val (.ref b_6)]) rfl ?_
      show Steps p.tables e below (T_6.setTop (mkF m 47 #[.val (.int p1), .val (.int p2), .val (.int (2 : Int32)), .val (.int (p2 &&& (2147483647 : Int32))), .val (.int dl), .val (.ref b_6)] [])) t
      refine XS.aload X_6.here hx rfl (hb hby at_47) rfl rfl ?_
      exact kt
    have vq_7 := V_6
    obtain ⟨c_7, a_7, -, s_7, m_7, -, -⟩ := vq_7
    refine own_go (T' := T_6) (g' := (mkF m 50 #[.val (.int p1), .val (.int p2), .val (.int (2 : Int32)), .val (.int (p2 &&& (2147483647 : Int32))), .val (.int dl), .val (.ref b_6)] [(.int (2 : Int32))])) (fun t kt => ?_) ?_
    · refine X_6.arraylength hx a_7.1 (State.isArrayOf_alike hZ.alike a_7.2.1) (g := (mkF m 49 #[.val (.int p1), .val (.int p2), .val (.int (2 : Int32)), .val (.int (p2 &&& (2147483647 : Int32))), .val (.int dl), .val (.ref b_6)] [(.ref b_6)])) rfl rfl (hb hby at_49) _ ?_
      rw [len_of s_7 m_7]
      exact kt
    refine own_go (T' := T_6) (g' := (mkF m 67 #[.val (.int p1), .val (.int p2), .val (.int (2 : Int32)), .val (.int (p2 &&& (2147483647 : Int32))), .val (.int dl), .val (.ref b_6)] [(.int (1 : Int32)), (.ref b_6)])) (fun t kt => ?_) ?_
    · show Steps p.tables e below (T_6.setTop (mkF m 50 #[.val (.int p1), .val (.int p2), .val (.int (2 : Int32)), .val (.int (p2 &&& (2147483647 : Int32))), .val (.int dl), .val (.ref b_6)] [(.int (2 : Int32))])) t
      refine XS.iloadN X_6.here hx rfl (hb hby at_50) rfl ?_
      show Steps p.tables e below (T_6.setTop (mkF m 51 #[.val (.int p1), .val (.int p2), .val (.int (2 : Int32)), .val (.int (p2 &&& (2147483647 : Int32))), .val (.int dl), .val (.ref b_6)] [(.int (2 : Int32)), (.int (2 : Int32))])) t
      refine XS.icmpYes X_6.here hx rfl (pc0 := 51) (pc' := 56) rfl (hb hby at_51) rfl (teq (by decide : (2 : Int32) = (2 : Int32))).1 (by decide) (by decide) ?_
      show Steps p.tables e below (T_6.setTop (mkF m 56 #[.val (.int p1), .val (.int p2), .val (.int (2 : Int32)), .val (.int (p2 &&& (2147483647 : Int32))), .val (.int dl), .val (.ref b_6)] [])) t
      refine XS.iloadN X_6.here hx rfl (hb hby at_56) rfl ?_
      show Steps p.tables e below (T_6.setTop (mkF m 57 #[.val (.int p1), .val (.int p2), .val (.int (2 : Int32)), .val (.int (p2 &&& (2147483647 : Int32))), .val (.int dl), .val (.ref b_6)] [(.int (2 : Int32))])) t
      refine XS.ifYes X_6.here hx rfl (pc0 := 57) (pc' := 62) rfl (hb hby at_57) rfl ((if0 _ _).trans (feq (by decide : ¬ ((2 : Int32) = (0 : Int32)))).2) (by decide) (by decide) ?_
      show Steps p.tables e below (T_6.setTop (mkF m 62 #[.val (.int p1), .val (.int p2), .val (.int (2 : Int32)), .val (.int (p2 &&& (2147483647 : Int32))), .val (.int dl), .val (.ref b_6)] [])) t
      refine XS.aload X_6.here hx rfl (hb hby at_62) rfl rfl ?_
      show Steps p.tables e below (T_6.setTop (mkF m 64 #[.val (.int p1), .val (.int p2), .val (.int (2 : Int32)), .val (.int (p2 &&& (2147483647 : Int32))), .val (.int dl), .val (.ref b_6)] [(.ref b_6)])) t
      refine XS.iloadN X_6.here hx rfl (hb hby at_64) rfl ?_
      show Steps p.tables e below (T_6.setTop (mkF m 65 #[.val (.int p1), .val (.int p2), .val (.int (2 : Int32)), .val (.int (p2 &&& (2147483647 : Int32))), .val (.int dl), .val (.ref b_6)] [(.int (2 : Int32)), (.ref b_6)])) t
      refine XS.iconst X_6.here hx rfl (hb hby at_65) ?_
      show Steps p.tables e below (T_6.setTop (mkF m 66 #[.val (.int p1), .val (.int p2), .val (.int (2 : Int32)), .val (.int (p2 &&& (2147483647 : Int32))), .val (.int dl), .val (.ref b_6)] [(.int (1 : Int32)), (.int (2 : Int32)), (.ref b_6)])) t
      refine XS.isub X_6.here hx rfl (hb hby at_66) rfl ?_
      exact kt
    have vq_8 := V_6
    obtain ⟨c_8, a_8, q_8, s_8, m_8, H_8, G_8⟩ := vq_8
    have hin_8 : ¬ ((1 : Int32) < 0 ∨ c_8.slots.size ≤ ((1 : Int32)).toNatClampNeg) := inb_of s_8 ⟨by decide, by decide⟩
    have hat_8 : c_8.slots[((1 : Int32)).toNatClampNeg]? = some (.int (own_fr (0 : Int32) dl)) := H_8.at hin_8 rfl
    refine own_go (T' := T_6) (g' := (mkF m 68 #[.val (.int p1), .val (.int p2), .val (.int (2 : Int32)), .val (.int (p2 &&& (2147483647 : Int32))), .val (.int dl), .val (.ref b_6)] [(.int (own_fr (0 : Int32) dl))])) (fun t kt => ?_) ?_
    · refine X_6.iaload hx (j := (1 : Int32)) (v := (.int (own_fr (0 : Int32) dl))) a_8.1 (State.isArrayOf_alike hZ.alike a_8.2.1) a_8.2.2 hin_8 hat_8 (g := (mkF m 67 #[.val (.int p1), .val (.int p2), .val (.int (2 : Int32)), .val (.int (p2 &&& (2147483647 : Int32))), .val (.int dl), .val (.ref b_6)] [(.int (1 : Int32)), (.ref b_6)])) rfl rfl (hb hby at_67) _ ?_
      exact kt
    refine own_go (T' := T_6) (g' := (mkF m 84 #[.val (.int p1), .val (.int p2), .val (.int (2 : Int32)), .val (.int (p2 &&& (2147483647 : Int32))), .val (.int dl), .val (.ref b_6)] [(.int (0 : Int32)), (.ref b_6)])) (fun t kt => ?_) ?_
    · show Steps p.tables e below (T_6.setTop (mkF m 68 #[.val (.int p1), .val (.int p2), .val (.int (2 : Int32)), .val (.int (p2 &&& (2147483647 : Int32))), .val (.int dl), .val (.ref b_6)] [(.int (own_fr (0 : Int32) dl))])) t
      refine XS.iconst X_6.here hx rfl (hb hby at_68) ?_
      show Steps p.tables e below (T_6.setTop (mkF m 69 #[.val (.int p1), .val (.int p2), .val (.int (2 : Int32)), .val (.int (p2 &&& (2147483647 : Int32))), .val (.int dl), .val (.ref b_6)] [(.int (1 : Int32)), (.int (own_fr (0 : Int32) dl))])) t
      refine XS.icmpYes X_6.here hx rfl (pc0 := 69) (pc' := 74) rfl (hb hby at_69) rfl (teq (own_one dl hd1 : (own_fr (0 : Int32) dl) = (1 : Int32))).1 (by decide) (by decide) ?_
      show Steps p.tables e below (T_6.setTop (mkF m 74 #[.val (.int p1), .val (.int p2), .val (.int (2 : Int32)), .val (.int (p2 &&& (2147483647 : Int32))), .val (.int dl), .val (.ref b_6)] [])) t
      refine XS.iloadN X_6.here hx rfl (hb hby at_74) rfl ?_
      show Steps p.tables e below (T_6.setTop (mkF m 75 #[.val (.int p1), .val (.int p2), .val (.int (2 : Int32)), .val (.int (p2 &&& (2147483647 : Int32))), .val (.int dl), .val (.ref b_6)] [(.int (2 : Int32))])) t
      refine XS.iconst X_6.here hx rfl (hb hby at_75) ?_
      show Steps p.tables e below (T_6.setTop (mkF m 76 #[.val (.int p1), .val (.int p2), .val (.int (2 : Int32)), .val (.int (p2 &&& (2147483647 : Int32))), .val (.int dl), .val (.ref b_6)] [(.int (2 : Int32)), (.int (2 : Int32))])) t
      refine XS.icmpNo X_6.here hx rfl (hb hby at_76) rfl (flt (by decide : ¬ ((2 : Int32) < (2 : Int32)))).1 ?_
      show Steps p.tables e below (T_6.setTop (mkF m 79 #[.val (.int p1), .val (.int p2), .val (.int (2 : Int32)), .val (.int (p2 &&& (2147483647 : Int32))), .val (.int dl), .val (.ref b_6)] [])) t
      refine XS.aload X_6.here hx rfl (hb hby at_79) rfl rfl ?_
      show Steps p.tables e below (T_6.setTop (mkF m 81 #[.val (.int p1), .val (.int p2), .val (.int (2 : Int32)), .val (.int (p2 &&& (2147483647 : Int32))), .val (.int dl), .val (.ref b_6)] [(.ref b_6)])) t
      refine XS.iloadN X_6.here hx rfl (hb hby at_81) rfl ?_
      show Steps p.tables e below (T_6.setTop (mkF m 82 #[.val (.int p1), .val (.int p2), .val (.int (2 : Int32)), .val (.int (p2 &&& (2147483647 : Int32))), .val (.int dl), .val (.ref b_6)] [(.int (2 : Int32)), (.ref b_6)])) t
      refine XS.iconst X_6.here hx rfl (hb hby at_82) ?_
      show Steps p.tables e below (T_6.setTop (mkF m 83 #[.val (.int p1), .val (.int p2), .val (.int (2 : Int32)), .val (.int (p2 &&& (2147483647 : Int32))), .val (.int dl), .val (.ref b_6)] [(.int (2 : Int32)), (.int (2 : Int32)), (.ref b_6)])) t
      refine XS.isub X_6.here hx rfl (hb hby at_83) rfl ?_
      exact kt
    have vq_9 := V_6
    obtain ⟨c_9, a_9, q_9, s_9, m_9, H_9, G_9⟩ := vq_9
    have hin_9 : ¬ ((0 : Int32) < 0 ∨ c_9.slots.size ≤ ((0 : Int32)).toNatClampNeg) := inb_of s_9 ⟨by decide, by decide⟩
    have hat_9 : c_9.slots[((0 : Int32)).toNatClampNeg]? = some (.int (own_fr (1 : Int32) dl)) := H_9.at hin_9 rfl
    refine own_go (T' := T_6) (g' := (mkF m 85 #[.val (.int p1), .val (.int p2), .val (.int (2 : Int32)), .val (.int (p2 &&& (2147483647 : Int32))), .val (.int dl), .val (.ref b_6)] [(.int (own_fr (1 : Int32) dl))])) (fun t kt => ?_) ?_
    · refine X_6.iaload hx (j := (0 : Int32)) (v := (.int (own_fr (1 : Int32) dl))) a_9.1 (State.isArrayOf_alike hZ.alike a_9.2.1) a_9.2.2 hin_9 hat_9 (g := (mkF m 84 #[.val (.int p1), .val (.int p2), .val (.int (2 : Int32)), .val (.int (p2 &&& (2147483647 : Int32))), .val (.int dl), .val (.ref b_6)] [(.int (0 : Int32)), (.ref b_6)])) rfl rfl (hb hby at_84) _ ?_
      exact kt
    refine own_go (T' := T_6) (g' := (mkF m 90 #[.val (.int p1), .val (.int p2), .val (.int (2 : Int32)), .val (.int (p2 &&& (2147483647 : Int32))), .val (.int dl), .val (.ref b_6)] [(.int (1 : Int32)), (.ref b_6), (.int (own_fr (1 : Int32) dl))])) (fun t kt => ?_) ?_
    · show Steps p.tables e below (T_6.setTop (mkF m 85 #[.val (.int p1), .val (.int p2), .val (.int (2 : Int32)), .val (.int (p2 &&& (2147483647 : Int32))), .val (.int dl), .val (.ref b_6)] [(.int (own_fr (1 : Int32) dl))])) t
      refine XS.aload X_6.here hx rfl (hb hby at_85) rfl rfl ?_
      show Steps p.tables e below (T_6.setTop (mkF m 87 #[.val (.int p1), .val (.int p2), .val (.int (2 : Int32)), .val (.int (p2 &&& (2147483647 : Int32))), .val (.int dl), .val (.ref b_6)] [(.ref b_6), (.int (own_fr (1 : Int32) dl))])) t
      refine XS.iloadN X_6.here hx rfl (hb hby at_87) rfl ?_
      show Steps p.tables e below (T_6.setTop (mkF m 88 #[.val (.int p1), .val (.int p2), .val (.int (2 : Int32)), .val (.int (p2 &&& (2147483647 : Int32))), .val (.int dl), .val (.ref b_6)] [(.int (2 : Int32)), (.ref b_6), (.int (own_fr (1 : Int32) dl))])) t
      refine XS.iconst X_6.here hx rfl (hb hby at_88) ?_
      show Steps p.tables e below (T_6.setTop (mkF m 89 #[.val (.int p1), .val (.int p2), .val (.int (2 : Int32)), .val (.int (p2 &&& (2147483647 : Int32))), .val (.int dl), .val (.ref b_6)] [(.int (1 : Int32)), (.int (2 : Int32)), (.ref b_6), (.int (own_fr (1 : Int32) dl))])) t
      refine XS.isub X_6.here hx rfl (hb hby at_89) rfl ?_
      exact kt
    have vq_10 := V_6
    obtain ⟨c_10, a_10, q_10, s_10, m_10, H_10, G_10⟩ := vq_10
    have hin_10 : ¬ ((1 : Int32) < 0 ∨ c_10.slots.size ≤ ((1 : Int32)).toNatClampNeg) := inb_of s_10 ⟨by decide, by decide⟩
    have hat_10 : c_10.slots[((1 : Int32)).toNatClampNeg]? = some (.int (own_fr (0 : Int32) dl)) := H_10.at hin_10 rfl
    refine own_go (T' := T_6) (g' := (mkF m 91 #[.val (.int p1), .val (.int p2), .val (.int (2 : Int32)), .val (.int (p2 &&& (2147483647 : Int32))), .val (.int dl), .val (.ref b_6)] [(.int (own_fr (0 : Int32) dl)), (.int (own_fr (1 : Int32) dl))])) (fun t kt => ?_) ?_
    · refine X_6.iaload hx (j := (1 : Int32)) (v := (.int (own_fr (0 : Int32) dl))) a_10.1 (State.isArrayOf_alike hZ.alike a_10.2.1) a_10.2.2 hin_10 hat_10 (g := (mkF m 90 #[.val (.int p1), .val (.int p2), .val (.int (2 : Int32)), .val (.int (p2 &&& (2147483647 : Int32))), .val (.int dl), .val (.ref b_6)] [(.int (1 : Int32)), (.ref b_6), (.int (own_fr (1 : Int32) dl))])) rfl rfl (hb hby at_90) _ ?_
      exact kt
    refine own_go (T' := T_6) (g' := (mkF m 146 #[.val (.int p1), .val (.int p2), .val (.int (2 : Int32)), .val (.int (p2 &&& (2147483647 : Int32))), .val (.int dl), .val (.ref b_6)] [(.int (1 : Int32))])) (fun t kt => ?_) ?_
    · show Steps p.tables e below (T_6.setTop (mkF m 91 #[.val (.int p1), .val (.int p2), .val (.int (2 : Int32)), .val (.int (p2 &&& (2147483647 : Int32))), .val (.int dl), .val (.ref b_6)] [(.int (own_fr (0 : Int32) dl)), (.int (own_fr (1 : Int32) dl))])) t
      refine XS.isub X_6.here hx rfl (hb hby at_91) rfl ?_
      show Steps p.tables e below (T_6.setTop (mkF m 92 #[.val (.int p1), .val (.int p2), .val (.int (2 : Int32)), .val (.int (p2 &&& (2147483647 : Int32))), .val (.int dl), .val (.ref b_6)] [(.int ((own_fr (1 : Int32) dl) - (own_fr (0 : Int32) dl)))])) t
      refine XS.iload X_6.here hx rfl (hb hby at_92) rfl ?_
      show Steps p.tables e below (T_6.setTop (mkF m 94 #[.val (.int p1), .val (.int p2), .val (.int (2 : Int32)), .val (.int (p2 &&& (2147483647 : Int32))), .val (.int dl), .val (.ref b_6)] [(.int dl), (.int ((own_fr (1 : Int32) dl) - (own_fr (0 : Int32) dl)))])) t
      refine XS.icmpYes X_6.here hx rfl (pc0 := 94) (pc' := 99) rfl (hb hby at_94) rfl (teq (own_step (0 : Int32) (1 : Int32) dl (by decide) (by decide) hd1 (by show (1 : Int) * dl.toInt ≤ 16777215; omega) : ((own_fr (1 : Int32) dl) - (own_fr (0 : Int32) dl)) = dl)).1 (by decide) (by decide) ?_
      show Steps p.tables e below (T_6.setTop (mkF m 99 #[.val (.int p1), .val (.int p2), .val (.int (2 : Int32)), .val (.int (p2 &&& (2147483647 : Int32))), .val (.int dl), .val (.ref b_6)] [])) t
      refine XS.iloadN X_6.here hx rfl (hb hby at_99) rfl ?_
      show Steps p.tables e below (T_6.setTop (mkF m 100 #[.val (.int p1), .val (.int p2), .val (.int (2 : Int32)), .val (.int (p2 &&& (2147483647 : Int32))), .val (.int dl), .val (.ref b_6)] [(.int (2 : Int32))])) t
      refine XS.iconst X_6.here hx rfl (hb hby at_100) ?_
      show Steps p.tables e below (T_6.setTop (mkF m 101 #[.val (.int p1), .val (.int p2), .val (.int (2 : Int32)), .val (.int (p2 &&& (2147483647 : Int32))), .val (.int dl), .val (.ref b_6)] [(.int (3 : Int32)), (.int (2 : Int32))])) t
      refine XS.icmpYes X_6.here hx rfl (pc0 := 101) (pc' := 124) rfl (hb hby at_101) rfl (tlt (by decide : (2 : Int32) < (3 : Int32))).1 (by decide) (by decide) ?_
      show Steps p.tables e below (T_6.setTop (mkF m 124 #[.val (.int p1), .val (.int p2), .val (.int (2 : Int32)), .val (.int (p2 &&& (2147483647 : Int32))), .val (.int dl), .val (.ref b_6)] [])) t
      refine XS.iloadN X_6.here hx rfl (hb hby at_124) rfl ?_
      show Steps p.tables e below (T_6.setTop (mkF m 125 #[.val (.int p1), .val (.int p2), .val (.int (2 : Int32)), .val (.int (p2 &&& (2147483647 : Int32))), .val (.int dl), .val (.ref b_6)] [(.int (2 : Int32))])) t
      refine XS.iconst X_6.here hx rfl (hb hby at_125) ?_
      show Steps p.tables e below (T_6.setTop (mkF m 126 #[.val (.int p1), .val (.int p2), .val (.int (2 : Int32)), .val (.int (p2 &&& (2147483647 : Int32))), .val (.int dl), .val (.ref b_6)] [(.int (4 : Int32)), (.int (2 : Int32))])) t
      refine XS.icmpYes X_6.here hx rfl (pc0 := 126) (pc' := 145) rfl (hb hby at_126) rfl (tlt (by decide : (2 : Int32) < (4 : Int32))).1 (by decide) (by decide) ?_
      show Steps p.tables e below (T_6.setTop (mkF m 145 #[.val (.int p1), .val (.int p2), .val (.int (2 : Int32)), .val (.int (p2 &&& (2147483647 : Int32))), .val (.int dl), .val (.ref b_6)] [])) t
      refine XS.iconst X_6.here hx rfl (hb hby at_145) ?_
      exact kt
    obtain ⟨fs, hr, hrun, hended, hW, hsame⟩ := X_6.leave (v := some (.int (1 : Int32))) (fun h => by rw [Bd.returns] at h; cases h)
    refine ⟨_, _, ?_, hrun, hended, _, _, rfl, ?_, ⟨_, rfl⟩, hW, hsame.mono (by decide) (by decide)⟩
    · exact retN X_6 hx (t := .boolean) Bd.returns (by simp) (hb hby at_146) hr
    · show Q_rm0 Z _ _ h0 n0 _ T_6.heap _
      exact ⟨rfl, N_6⟩
  · refine own_go (T' := s₁) (g' := (mkF m 39 #[.val (.int p1), .val (.int p2), .val (.int (3 : Int32)), .val (.int (p2 &&& (2147483647 : Int32))), .val (.int ((p2 &&& (2147483647 : Int32)) - ((p2 &&& (2147483647 : Int32)) / (((16777215 : Int32) / (2 : Int32)) + (1 : Int32))) * (((16777215 : Int32) / (2 : Int32)) + (1 : Int32)))), .val (.int ((16777215 : Int32) / (2 : Int32)))] [])) (fun t kt => ?_) ?_
    · show Steps p.tables e below (s₁.setTop (mkF m 7 #[.val (.int p1), .val (.int p2), .val (.int (3 : Int32)), .unset, .unset, .unset] [])) t
      refine XS.iloadN X0.here hx rfl (hb hby at_7) rfl ?_
      show Steps p.tables e below (s₁.setTop (mkF m 8 #[.val (.int p1), .val (.int p2), .val (.int (3 : Int32)), .unset, .unset, .unset] [(.int p2)])) t
      refine X0.ldcInt hx hown (mvT hZ (hw _ (List.mem_of_getElem? (i := 0) rfl))) (g := (mkF m 8 #[.val (.int p1), .val (.int p2), .val (.int (3 : Int32)), .unset, .unset, .unset] [(.int p2)])) rfl (hb hby at_8) _ ?_
      show Steps p.tables e below (s₁.setTop (mkF m 10 #[.val (.int p1), .val (.int p2), .val (.int (3 : Int32)), .unset, .unset, .unset] [(.int (2147483647 : Int32)), (.int p2)])) t
      refine XS.iand X0.here hx rfl (hb hby at_10) rfl ?_
      show Steps p.tables e below (s₁.setTop (mkF m 11 #[.val (.int p1), .val (.int p2), .val (.int (3 : Int32)), .unset, .unset, .unset] [(.int (p2 &&& (2147483647 : Int32)))])) t
      refine XS.istoreN X0.here hx rfl (hb hby at_11) rfl (l' := #[.val (.int p1), .val (.int p2), .val (.int (3 : Int32)), .val (.int (p2 &&& (2147483647 : Int32))), .unset, .unset]) rfl ?_
      show Steps p.tables e below (s₁.setTop (mkF m 12 #[.val (.int p1), .val (.int p2), .val (.int (3 : Int32)), .val (.int (p2 &&& (2147483647 : Int32))), .unset, .unset] [])) t
      refine XS.iloadN X0.here hx rfl (hb hby at_12) rfl ?_
      show Steps p.tables e below (s₁.setTop (mkF m 13 #[.val (.int p1), .val (.int p2), .val (.int (3 : Int32)), .val (.int (p2 &&& (2147483647 : Int32))), .unset, .unset] [(.int (3 : Int32))])) t
      refine XS.iconst X0.here hx rfl (hb hby at_13) ?_
      show Steps p.tables e below (s₁.setTop (mkF m 14 #[.val (.int p1), .val (.int p2), .val (.int (3 : Int32)), .val (.int (p2 &&& (2147483647 : Int32))), .unset, .unset] [(.int (2 : Int32)), (.int (3 : Int32))])) t
      refine XS.icmpNo X0.here hx rfl (hb hby at_14) rfl (flt (by decide : ¬ ((3 : Int32) < (2 : Int32)))).1 ?_
      show Steps p.tables e below (s₁.setTop (mkF m 17 #[.val (.int p1), .val (.int p2), .val (.int (3 : Int32)), .val (.int (p2 &&& (2147483647 : Int32))), .unset, .unset] [])) t
      refine X0.ldcInt hx hown (mvT hZ (hw _ (List.mem_of_getElem? (i := 6) rfl))) (g := (mkF m 17 #[.val (.int p1), .val (.int p2), .val (.int (3 : Int32)), .val (.int (p2 &&& (2147483647 : Int32))), .unset, .unset] [])) rfl (hb hby at_17) _ ?_
      show Steps p.tables e below (s₁.setTop (mkF m 19 #[.val (.int p1), .val (.int p2), .val (.int (3 : Int32)), .val (.int (p2 &&& (2147483647 : Int32))), .unset, .unset] [(.int (16777215 : Int32))])) t
      refine XS.iloadN X0.here hx rfl (hb hby at_19) rfl ?_
      show Steps p.tables e below (s₁.setTop (mkF m 20 #[.val (.int p1), .val (.int p2), .val (.int (3 : Int32)), .val (.int (p2 &&& (2147483647 : Int32))), .unset, .unset] [(.int (3 : Int32)), (.int (16777215 : Int32))])) t
      refine XS.iconst X0.here hx rfl (hb hby at_20) ?_
      show Steps p.tables e below (s₁.setTop (mkF m 21 #[.val (.int p1), .val (.int p2), .val (.int (3 : Int32)), .val (.int (p2 &&& (2147483647 : Int32))), .unset, .unset] [(.int (1 : Int32)), (.int (3 : Int32)), (.int (16777215 : Int32))])) t
      refine XS.isub X0.here hx rfl (hb hby at_21) rfl ?_
      show Steps p.tables e below (s₁.setTop (mkF m 22 #[.val (.int p1), .val (.int p2), .val (.int (3 : Int32)), .val (.int (p2 &&& (2147483647 : Int32))), .unset, .unset] [(.int (2 : Int32)), (.int (16777215 : Int32))])) t
      refine XS.idiv X0.here hx rfl (hb hby at_22) rfl (by decide) ?_
      show Steps p.tables e below (s₁.setTop (mkF m 23 #[.val (.int p1), .val (.int p2), .val (.int (3 : Int32)), .val (.int (p2 &&& (2147483647 : Int32))), .unset, .unset] [(.int ((16777215 : Int32) / (2 : Int32)))])) t
      refine XS.istore X0.here hx rfl (hb hby at_23) rfl (l' := #[.val (.int p1), .val (.int p2), .val (.int (3 : Int32)), .val (.int (p2 &&& (2147483647 : Int32))), .unset, .val (.int ((16777215 : Int32) / (2 : Int32)))]) rfl ?_
      show Steps p.tables e below (s₁.setTop (mkF m 25 #[.val (.int p1), .val (.int p2), .val (.int (3 : Int32)), .val (.int (p2 &&& (2147483647 : Int32))), .unset, .val (.int ((16777215 : Int32) / (2 : Int32)))] [])) t
      refine XS.iloadN X0.here hx rfl (hb hby at_25) rfl ?_
      show Steps p.tables e below (s₁.setTop (mkF m 26 #[.val (.int p1), .val (.int p2), .val (.int (3 : Int32)), .val (.int (p2 &&& (2147483647 : Int32))), .unset, .val (.int ((16777215 : Int32) / (2 : Int32)))] [(.int (p2 &&& (2147483647 : Int32)))])) t
      refine XS.iload X0.here hx rfl (hb hby at_26) rfl ?_
      show Steps p.tables e below (s₁.setTop (mkF m 28 #[.val (.int p1), .val (.int p2), .val (.int (3 : Int32)), .val (.int (p2 &&& (2147483647 : Int32))), .unset, .val (.int ((16777215 : Int32) / (2 : Int32)))] [(.int ((16777215 : Int32) / (2 : Int32))), (.int (p2 &&& (2147483647 : Int32)))])) t
      refine XS.iconst X0.here hx rfl (hb hby at_28) ?_
      show Steps p.tables e below (s₁.setTop (mkF m 29 #[.val (.int p1), .val (.int p2), .val (.int (3 : Int32)), .val (.int (p2 &&& (2147483647 : Int32))), .unset, .val (.int ((16777215 : Int32) / (2 : Int32)))] [(.int (1 : Int32)), (.int ((16777215 : Int32) / (2 : Int32))), (.int (p2 &&& (2147483647 : Int32)))])) t
      refine XS.iadd X0.here hx rfl (hb hby at_29) rfl ?_
      show Steps p.tables e below (s₁.setTop (mkF m 30 #[.val (.int p1), .val (.int p2), .val (.int (3 : Int32)), .val (.int (p2 &&& (2147483647 : Int32))), .unset, .val (.int ((16777215 : Int32) / (2 : Int32)))] [(.int (((16777215 : Int32) / (2 : Int32)) + (1 : Int32))), (.int (p2 &&& (2147483647 : Int32)))])) t
      refine XS.irem X0.here hx rfl (hb hby at_30) rfl (by decide) ?_
      show Steps p.tables e below (s₁.setTop (mkF m 31 #[.val (.int p1), .val (.int p2), .val (.int (3 : Int32)), .val (.int (p2 &&& (2147483647 : Int32))), .unset, .val (.int ((16777215 : Int32) / (2 : Int32)))] [(.int ((p2 &&& (2147483647 : Int32)) - ((p2 &&& (2147483647 : Int32)) / (((16777215 : Int32) / (2 : Int32)) + (1 : Int32))) * (((16777215 : Int32) / (2 : Int32)) + (1 : Int32))))])) t
      refine XS.istore X0.here hx rfl (hb hby at_31) rfl (l' := #[.val (.int p1), .val (.int p2), .val (.int (3 : Int32)), .val (.int (p2 &&& (2147483647 : Int32))), .val (.int ((p2 &&& (2147483647 : Int32)) - ((p2 &&& (2147483647 : Int32)) / (((16777215 : Int32) / (2 : Int32)) + (1 : Int32))) * (((16777215 : Int32) / (2 : Int32)) + (1 : Int32)))), .val (.int ((16777215 : Int32) / (2 : Int32)))]) rfl ?_
      show Steps p.tables e below (s₁.setTop (mkF m 33 #[.val (.int p1), .val (.int p2), .val (.int (3 : Int32)), .val (.int (p2 &&& (2147483647 : Int32))), .val (.int ((p2 &&& (2147483647 : Int32)) - ((p2 &&& (2147483647 : Int32)) / (((16777215 : Int32) / (2 : Int32)) + (1 : Int32))) * (((16777215 : Int32) / (2 : Int32)) + (1 : Int32)))), .val (.int ((16777215 : Int32) / (2 : Int32)))] [])) t
      refine XS.goto X0.here hx rfl (pc0 := 33) (pc' := 39) rfl (hb hby at_33) (by decide) (by decide) ?_
      exact kt
    have hd1 := (own_dl p2 (((16777215 : Int32) / (2 : Int32)) + (1 : Int32)) 8388608 (by decide) (by decide)).1
    have hd2 := (own_dl p2 (((16777215 : Int32) / (2 : Int32)) + (1 : Int32)) 8388608 (by decide) (by decide)).2
    generalize ((p2 &&& (2147483647 : Int32)) - ((p2 &&& (2147483647 : Int32)) / (((16777215 : Int32) / (2 : Int32)) + (1 : Int32))) * (((16777215 : Int32) / (2 : Int32)) + (1 : Int32))) = dl at hd1 hd2 ⊢
    have hd0 : ¬ (dl < (0 : Int32)) := by rw [Int32.lt_iff_toInt_lt]; have : (0 : Int32).toInt = 0 := rfl; omega
    refine own_go (T' := s₁) (g' := (mkF m 42 #[.val (.int p1), .val (.int p2), .val (.int (3 : Int32)), .val (.int (p2 &&& (2147483647 : Int32))), .val (.int dl), .val (.int ((16777215 : Int32) / (2 : Int32)))] [(.int dl), (.int (3 : Int32))])) (fun t kt => ?_) ?_
    · show Steps p.tables e below (s₁.setTop (mkF m 39 #[.val (.int p1), .val (.int p2), .val (.int (3 : Int32)), .val (.int (p2 &&& (2147483647 : Int32))), .val (.int dl), .val (.int ((16777215 : Int32) / (2 : Int32)))] [])) t
      refine XS.iloadN X0.here hx rfl (hb hby at_39) rfl ?_
      show Steps p.tables e below (s₁.setTop (mkF m 40 #[.val (.int p1), .val (.int p2), .val (.int (3 : Int32)), .val (.int (p2 &&& (2147483647 : Int32))), .val (.int dl), .val (.int ((16777215 : Int32) / (2 : Int32)))] [(.int (3 : Int32))])) t
      refine XS.iload X0.here hx rfl (hb hby at_40) rfl ?_
      exact kt
    obtain ⟨_, _, ⟨T_11, L_11, k_11, n_11⟩, -, X_11, ⟨Lc_11, hQ_11, l_11, y_11, z_11⟩, st_11⟩ := Jvm.LawKit.callS X0 hx (y := (⟨"com/example/orrery/orrery/Program", "deltaFreqs", "(II)[I"⟩ : MethodName)) hown (mvT hZ (hw _ (List.mem_of_getElem? (i := 1) rfl))) (mvT hZ (hw _ (List.mem_of_getElem? (i := 2) rfl))) (mvT hZ (hw _ (List.mem_of_getElem? (i := 3) rfl))) (mvT hZ (hw _ (List.mem_of_getElem? (i := 4) rfl))) (by decide) (backOf (W := 0) (rd3 l Z a0 hw [] dl  h0 n0 Z0 hd0 hd1 (by omega)) hZ (hw _ (List.mem_of_getElem? (i := 4) rfl)) (hw _ (List.mem_of_getElem? (i := 3) rfl)) (by decide) (by decide)) (g := (mkF m 42 #[.val (.int p1), .val (.int p2), .val (.int (3 : Int32)), .val (.int (p2 &&& (2147483647 : Int32))), .val (.int dl), .val (.int ((16777215 : Int32) / (2 : Int32)))] [(.int dl), (.int (3 : Int32))])) rfl (by rw [hml]; rfl) (argsL := [(.int (3 : Int32)), (.int dl)]) (rest := []) (lenOf pd_0 rfl) rfl (by show 2 * 0 + _ ≤ _; exact Nat.le_of_eq rfl) (hb hby at_42) (fun _ _ => ⟨rfl, e0, (by decide : 0 + 1 ≤ _), (by decide : 0 + 3 ≤ _)⟩)
    dsimp only [Pt.U, Pt.locs, Pt.cells, Pt.slots] at X_11 l_11 y_11 z_11 st_11 hQ_11
    subst l_11 y_11 z_11
    obtain ⟨b_11, kA_11, rfl, N_11q, K_11, sz_11, V_11⟩ := hQ_11
    have N_11 := Fr.app N0 N_11q
    have g_b_11 : n0 ≤ b_11 := Nat.le_trans Z0 sz_11
    have Z_11 : n0 ≤ T_11.heap.size := Nat.le_trans Z0 K_11.1
    refine own_go (g' := (mkF m 45 #[.val (.int p1), .val (.int p2), .val (.int (3 : Int32)), .val (.int (p2 &&& (2147483647 : Int32))), .val (.int dl), .val (.int ((16777215 : Int32) / (2 : Int32)))] [(.ref b_11)])) st_11 ?_
    refine own_go (T' := T_11) (g' := (mkF m 49 #[.val (.int p1), .val (.int p2), .val (.int (3 : Int32)), .val (.int (p2 &&& (2147483647 : Int32))), .val (.int dl), .val (.ref b_11)] [(.ref b_11)])) (fun t kt => ?_) ?_
    · show Steps p.tables e below (T_11.setTop (mkF m 45 #[.val (.int p1), .val (.int p2), .val (.int (3 : Int32)), .val (.int (p2 &&& (2147483647 : Int32))), .val (.int dl), .val (.int ((16777215 : Int32) / (2 : Int32)))] [(.ref b_11)])) t
      refine XS.astore X_11.here hx rfl (hb hby at_45) rfl rfl (l' := #[.val (.int p1), .val (.int p2), .val (.int (3 : Int32)), .val (.int (p2 &&& (2147483647 : Int32))), .val (.int dl), .val (.ref b_11)]) rfl ?_
      show Steps p.tables e below (T_11.setTop (mkF m 47 #[.val (.int p1), .val (.int p2), .val (.int (3 : Int32)), .val (.int (p2 &&& (2147483647 : Int32))), .val (.int dl), .val (.ref b_11)] [])) t
      refine XS.aload X_11.here hx rfl (hb hby at_47) rfl rfl ?_
      exact kt
    have vq_12 := V_11
    obtain ⟨c_12, a_12, -, s_12, m_12, -, -⟩ := vq_12
    refine own_go (T' := T_11) (g' := (mkF m 50 #[.val (.int p1), .val (.int p2), .val (.int (3 : Int32)), .val (.int (p2 &&& (2147483647 : Int32))), .val (.int dl), .val (.ref b_11)] [(.int (3 : Int32))])) (fun t kt => ?_) ?_
    · refine X_11.arraylength hx a_12.1 (State.isArrayOf_alike hZ.alike a_12.2.1) (g := (mkF m 49 #[.val (.int p1), .val (.int p2), .val (.int (3 : Int32)), .val (.int (p2 &&& (2147483647 : Int32))), .val (.int dl), .val (.ref b_11)] [(.ref b_11)])) rfl rfl (hb hby at_49) _ ?_
      rw [len_of s_12 m_12]
      exact kt
    refine own_go (T' := T_11) (g' := (mkF m 67 #[.val (.int p1), .val (.int p2), .val (.int (3 : Int32)), .val (.int (p2 &&& (2147483647 : Int32))), .val (.int dl), .val (.ref b_11)] [(.int (2 : Int32)), (.ref b_11)])) (fun t kt => ?_) ?_
    · show Steps p.tables e below (T_11.setTop (mkF m 50 #[.val (.int p1), .val (.int p2), .val (.int (3 : Int32)), .val (.int (p2 &&& (2147483647 : Int32))), .val (.int dl), .val (.ref b_11)] [(.int (3 : Int32))])) t
      refine XS.iloadN X_11.here hx rfl (hb hby at_50) rfl ?_
      show Steps p.tables e below (T_11.setTop (mkF m 51 #[.val (.int p1), .val (.int p2), .val (.int (3 : Int32)), .val (.int (p2 &&& (2147483647 : Int32))), .val (.int dl), .val (.ref b_11)] [(.int (3 : Int32)), (.int (3 : Int32))])) t
      refine XS.icmpYes X_11.here hx rfl (pc0 := 51) (pc' := 56) rfl (hb hby at_51) rfl (teq (by decide : (3 : Int32) = (3 : Int32))).1 (by decide) (by decide) ?_
      show Steps p.tables e below (T_11.setTop (mkF m 56 #[.val (.int p1), .val (.int p2), .val (.int (3 : Int32)), .val (.int (p2 &&& (2147483647 : Int32))), .val (.int dl), .val (.ref b_11)] [])) t
      refine XS.iloadN X_11.here hx rfl (hb hby at_56) rfl ?_
      show Steps p.tables e below (T_11.setTop (mkF m 57 #[.val (.int p1), .val (.int p2), .val (.int (3 : Int32)), .val (.int (p2 &&& (2147483647 : Int32))), .val (.int dl), .val (.ref b_11)] [(.int (3 : Int32))])) t
      refine XS.ifYes X_11.here hx rfl (pc0 := 57) (pc' := 62) rfl (hb hby at_57) rfl ((if0 _ _).trans (feq (by decide : ¬ ((3 : Int32) = (0 : Int32)))).2) (by decide) (by decide) ?_
      show Steps p.tables e below (T_11.setTop (mkF m 62 #[.val (.int p1), .val (.int p2), .val (.int (3 : Int32)), .val (.int (p2 &&& (2147483647 : Int32))), .val (.int dl), .val (.ref b_11)] [])) t
      refine XS.aload X_11.here hx rfl (hb hby at_62) rfl rfl ?_
      show Steps p.tables e below (T_11.setTop (mkF m 64 #[.val (.int p1), .val (.int p2), .val (.int (3 : Int32)), .val (.int (p2 &&& (2147483647 : Int32))), .val (.int dl), .val (.ref b_11)] [(.ref b_11)])) t
      refine XS.iloadN X_11.here hx rfl (hb hby at_64) rfl ?_
      show Steps p.tables e below (T_11.setTop (mkF m 65 #[.val (.int p1), .val (.int p2), .val (.int (3 : Int32)), .val (.int (p2 &&& (2147483647 : Int32))), .val (.int dl), .val (.ref b_11)] [(.int (3 : Int32)), (.ref b_11)])) t
      refine XS.iconst X_11.here hx rfl (hb hby at_65) ?_
      show Steps p.tables e below (T_11.setTop (mkF m 66 #[.val (.int p1), .val (.int p2), .val (.int (3 : Int32)), .val (.int (p2 &&& (2147483647 : Int32))), .val (.int dl), .val (.ref b_11)] [(.int (1 : Int32)), (.int (3 : Int32)), (.ref b_11)])) t
      refine XS.isub X_11.here hx rfl (hb hby at_66) rfl ?_
      exact kt
    have vq_13 := V_11
    obtain ⟨c_13, a_13, q_13, s_13, m_13, H_13, G_13⟩ := vq_13
    have hin_13 : ¬ ((2 : Int32) < 0 ∨ c_13.slots.size ≤ ((2 : Int32)).toNatClampNeg) := inb_of s_13 ⟨by decide, by decide⟩
    have hat_13 : c_13.slots[((2 : Int32)).toNatClampNeg]? = some (.int (own_fr (0 : Int32) dl)) := H_13.at hin_13 rfl
    refine own_go (T' := T_11) (g' := (mkF m 68 #[.val (.int p1), .val (.int p2), .val (.int (3 : Int32)), .val (.int (p2 &&& (2147483647 : Int32))), .val (.int dl), .val (.ref b_11)] [(.int (own_fr (0 : Int32) dl))])) (fun t kt => ?_) ?_
    · refine X_11.iaload hx (j := (2 : Int32)) (v := (.int (own_fr (0 : Int32) dl))) a_13.1 (State.isArrayOf_alike hZ.alike a_13.2.1) a_13.2.2 hin_13 hat_13 (g := (mkF m 67 #[.val (.int p1), .val (.int p2), .val (.int (3 : Int32)), .val (.int (p2 &&& (2147483647 : Int32))), .val (.int dl), .val (.ref b_11)] [(.int (2 : Int32)), (.ref b_11)])) rfl rfl (hb hby at_67) _ ?_
      exact kt
    refine own_go (T' := T_11) (g' := (mkF m 84 #[.val (.int p1), .val (.int p2), .val (.int (3 : Int32)), .val (.int (p2 &&& (2147483647 : Int32))), .val (.int dl), .val (.ref b_11)] [(.int (1 : Int32)), (.ref b_11)])) (fun t kt => ?_) ?_
    · show Steps p.tables e below (T_11.setTop (mkF m 68 #[.val (.int p1), .val (.int p2), .val (.int (3 : Int32)), .val (.int (p2 &&& (2147483647 : Int32))), .val (.int dl), .val (.ref b_11)] [(.int (own_fr (0 : Int32) dl))])) t
      refine XS.iconst X_11.here hx rfl (hb hby at_68) ?_
      show Steps p.tables e below (T_11.setTop (mkF m 69 #[.val (.int p1), .val (.int p2), .val (.int (3 : Int32)), .val (.int (p2 &&& (2147483647 : Int32))), .val (.int dl), .val (.ref b_11)] [(.int (1 : Int32)), (.int (own_fr (0 : Int32) dl))])) t
      refine XS.icmpYes X_11.here hx rfl (pc0 := 69) (pc' := 74) rfl (hb hby at_69) rfl (teq (own_one dl hd1 : (own_fr (0 : Int32) dl) = (1 : Int32))).1 (by decide) (by decide) ?_
      show Steps p.tables e below (T_11.setTop (mkF m 74 #[.val (.int p1), .val (.int p2), .val (.int (3 : Int32)), .val (.int (p2 &&& (2147483647 : Int32))), .val (.int dl), .val (.ref b_11)] [])) t
      refine XS.iloadN X_11.here hx rfl (hb hby at_74) rfl ?_
      show Steps p.tables e below (T_11.setTop (mkF m 75 #[.val (.int p1), .val (.int p2), .val (.int (3 : Int32)), .val (.int (p2 &&& (2147483647 : Int32))), .val (.int dl), .val (.ref b_11)] [(.int (3 : Int32))])) t
      refine XS.iconst X_11.here hx rfl (hb hby at_75) ?_
      show Steps p.tables e below (T_11.setTop (mkF m 76 #[.val (.int p1), .val (.int p2), .val (.int (3 : Int32)), .val (.int (p2 &&& (2147483647 : Int32))), .val (.int dl), .val (.ref b_11)] [(.int (2 : Int32)), (.int (3 : Int32))])) t
      refine XS.icmpNo X_11.here hx rfl (hb hby at_76) rfl (flt (by decide : ¬ ((3 : Int32) < (2 : Int32)))).1 ?_
      show Steps p.tables e below (T_11.setTop (mkF m 79 #[.val (.int p1), .val (.int p2), .val (.int (3 : Int32)), .val (.int (p2 &&& (2147483647 : Int32))), .val (.int dl), .val (.ref b_11)] [])) t
      refine XS.aload X_11.here hx rfl (hb hby at_79) rfl rfl ?_
      show Steps p.tables e below (T_11.setTop (mkF m 81 #[.val (.int p1), .val (.int p2), .val (.int (3 : Int32)), .val (.int (p2 &&& (2147483647 : Int32))), .val (.int dl), .val (.ref b_11)] [(.ref b_11)])) t
      refine XS.iloadN X_11.here hx rfl (hb hby at_81) rfl ?_
      show Steps p.tables e below (T_11.setTop (mkF m 82 #[.val (.int p1), .val (.int p2), .val (.int (3 : Int32)), .val (.int (p2 &&& (2147483647 : Int32))), .val (.int dl), .val (.ref b_11)] [(.int (3 : Int32)), (.ref b_11)])) t
      refine XS.iconst X_11.here hx rfl (hb hby at_82) ?_
      show Steps p.tables e below (T_11.setTop (mkF m 83 #[.val (.int p1), .val (.int p2), .val (.int (3 : Int32)), .val (.int (p2 &&& (2147483647 : Int32))), .val (.int dl), .val (.ref b_11)] [(.int (2 : Int32)), (.int (3 : Int32)), (.ref b_11)])) t
      refine XS.isub X_11.here hx rfl (hb hby at_83) rfl ?_
      exact kt
    have vq_14 := V_11
    obtain ⟨c_14, a_14, q_14, s_14, m_14, H_14, G_14⟩ := vq_14
    have hin_14 : ¬ ((1 : Int32) < 0 ∨ c_14.slots.size ≤ ((1 : Int32)).toNatClampNeg) := inb_of s_14 ⟨by decide, by decide⟩
    have hat_14 : c_14.slots[((1 : Int32)).toNatClampNeg]? = some (.int (own_fr (1 : Int32) dl)) := H_14.at hin_14 rfl
    refine own_go (T' := T_11) (g' := (mkF m 85 #[.val (.int p1), .val (.int p2), .val (.int (3 : Int32)), .val (.int (p2 &&& (2147483647 : Int32))), .val (.int dl), .val (.ref b_11)] [(.int (own_fr (1 : Int32) dl))])) (fun t kt => ?_) ?_
    · refine X_11.iaload hx (j := (1 : Int32)) (v := (.int (own_fr (1 : Int32) dl))) a_14.1 (State.isArrayOf_alike hZ.alike a_14.2.1) a_14.2.2 hin_14 hat_14 (g := (mkF m 84 #[.val (.int p1), .val (.int p2), .val (.int (3 : Int32)), .val (.int (p2 &&& (2147483647 : Int32))), .val (.int dl), .val (.ref b_11)] [(.int (1 : Int32)), (.ref b_11)])) rfl rfl (hb hby at_84) _ ?_
      exact kt
    refine own_go (T' := T_11) (g' := (mkF m 90 #[.val (.int p1), .val (.int p2), .val (.int (3 : Int32)), .val (.int (p2 &&& (2147483647 : Int32))), .val (.int dl), .val (.ref b_11)] [(.int (2 : Int32)), (.ref b_11), (.int (own_fr (1 : Int32) dl))])) (fun t kt => ?_) ?_
    · show Steps p.tables e below (T_11.setTop (mkF m 85 #[.val (.int p1), .val (.int p2), .val (.int (3 : Int32)), .val (.int (p2 &&& (2147483647 : Int32))), .val (.int dl), .val (.ref b_11)] [(.int (own_fr (1 : Int32) dl))])) t
      refine XS.aload X_11.here hx rfl (hb hby at_85) rfl rfl ?_
      show Steps p.tables e below (T_11.setTop (mkF m 87 #[.val (.int p1), .val (.int p2), .val (.int (3 : Int32)), .val (.int (p2 &&& (2147483647 : Int32))), .val (.int dl), .val (.ref b_11)] [(.ref b_11), (.int (own_fr (1 : Int32) dl))])) t
      refine XS.iloadN X_11.here hx rfl (hb hby at_87) rfl ?_
      show Steps p.tables e below (T_11.setTop (mkF m 88 #[.val (.int p1), .val (.int p2), .val (.int (3 : Int32)), .val (.int (p2 &&& (2147483647 : Int32))), .val (.int dl), .val (.ref b_11)] [(.int (3 : Int32)), (.ref b_11), (.int (own_fr (1 : Int32) dl))])) t
      refine XS.iconst X_11.here hx rfl (hb hby at_88) ?_
      show Steps p.tables e below (T_11.setTop (mkF m 89 #[.val (.int p1), .val (.int p2), .val (.int (3 : Int32)), .val (.int (p2 &&& (2147483647 : Int32))), .val (.int dl), .val (.ref b_11)] [(.int (1 : Int32)), (.int (3 : Int32)), (.ref b_11), (.int (own_fr (1 : Int32) dl))])) t
      refine XS.isub X_11.here hx rfl (hb hby at_89) rfl ?_
      exact kt
    have vq_15 := V_11
    obtain ⟨c_15, a_15, q_15, s_15, m_15, H_15, G_15⟩ := vq_15
    have hin_15 : ¬ ((2 : Int32) < 0 ∨ c_15.slots.size ≤ ((2 : Int32)).toNatClampNeg) := inb_of s_15 ⟨by decide, by decide⟩
    have hat_15 : c_15.slots[((2 : Int32)).toNatClampNeg]? = some (.int (own_fr (0 : Int32) dl)) := H_15.at hin_15 rfl
    refine own_go (T' := T_11) (g' := (mkF m 91 #[.val (.int p1), .val (.int p2), .val (.int (3 : Int32)), .val (.int (p2 &&& (2147483647 : Int32))), .val (.int dl), .val (.ref b_11)] [(.int (own_fr (0 : Int32) dl)), (.int (own_fr (1 : Int32) dl))])) (fun t kt => ?_) ?_
    · refine X_11.iaload hx (j := (2 : Int32)) (v := (.int (own_fr (0 : Int32) dl))) a_15.1 (State.isArrayOf_alike hZ.alike a_15.2.1) a_15.2.2 hin_15 hat_15 (g := (mkF m 90 #[.val (.int p1), .val (.int p2), .val (.int (3 : Int32)), .val (.int (p2 &&& (2147483647 : Int32))), .val (.int dl), .val (.ref b_11)] [(.int (2 : Int32)), (.ref b_11), (.int (own_fr (1 : Int32) dl))])) rfl rfl (hb hby at_90) _ ?_
      exact kt
    refine own_go (T' := T_11) (g' := (mkF m 109 #[.val (.int p1), .val (.int p2), .val (.int (3 : Int32)), .val (.int (p2 &&& (2147483647 : Int32))), .val (.int dl), .val (.ref b_11)] [(.int (0 : Int32)), (.ref b_11)])) (fun t kt => ?_) ?_
    · show Steps p.tables e below (T_11.setTop (mkF m 91 #[.val (.int p1), .val (.int p2), .val (.int (3 : Int32)), .val (.int (p2 &&& (2147483647 : Int32))), .val (.int dl), .val (.ref b_11)] [(.int (own_fr (0 : Int32) dl)), (.int (own_fr (1 : Int32) dl))])) t
      refine XS.isub X_11.here hx rfl (hb hby at_91) rfl ?_
      show Steps p.tables e below (T_11.setTop (mkF m 92 #[.val (.int p1), .val (.int p2), .val (.int (3 : Int32)), .val (.int (p2 &&& (2147483647 : Int32))), .val (.int dl), .val (.ref b_11)] [(.int ((own_fr (1 : Int32) dl) - (own_fr (0 : Int32) dl)))])) t
      refine XS.iload X_11.here hx rfl (hb hby at_92) rfl ?_
      show Steps p.tables e below (T_11.setTop (mkF m 94 #[.val (.int p1), .val (.int p2), .val (.int (3 : Int32)), .val (.int (p2 &&& (2147483647 : Int32))), .val (.int dl), .val (.ref b_11)] [(.int dl), (.int ((own_fr (1 : Int32) dl) - (own_fr (0 : Int32) dl)))])) t
      refine XS.icmpYes X_11.here hx rfl (pc0 := 94) (pc' := 99) rfl (hb hby at_94) rfl (teq (own_step (0 : Int32) (1 : Int32) dl (by decide) (by decide) hd1 (by show (1 : Int) * dl.toInt ≤ 16777215; omega) : ((own_fr (1 : Int32) dl) - (own_fr (0 : Int32) dl)) = dl)).1 (by decide) (by decide) ?_
      show Steps p.tables e below (T_11.setTop (mkF m 99 #[.val (.int p1), .val (.int p2), .val (.int (3 : Int32)), .val (.int (p2 &&& (2147483647 : Int32))), .val (.int dl), .val (.ref b_11)] [])) t
      refine XS.iloadN X_11.here hx rfl (hb hby at_99) rfl ?_
      show Steps p.tables e below (T_11.setTop (mkF m 100 #[.val (.int p1), .val (.int p2), .val (.int (3 : Int32)), .val (.int (p2 &&& (2147483647 : Int32))), .val (.int dl), .val (.ref b_11)] [(.int (3 : Int32))])) t
      refine XS.iconst X_11.here hx rfl (hb hby at_100) ?_
      show Steps p.tables e below (T_11.setTop (mkF m 101 #[.val (.int p1), .val (.int p2), .val (.int (3 : Int32)), .val (.int (p2 &&& (2147483647 : Int32))), .val (.int dl), .val (.ref b_11)] [(.int (3 : Int32)), (.int (3 : Int32))])) t
      refine XS.icmpNo X_11.here hx rfl (hb hby at_101) rfl (flt (by decide : ¬ ((3 : Int32) < (3 : Int32)))).1 ?_
      show Steps p.tables e below (T_11.setTop (mkF m 104 #[.val (.int p1), .val (.int p2), .val (.int (3 : Int32)), .val (.int (p2 &&& (2147483647 : Int32))), .val (.int dl), .val (.ref b_11)] [])) t
      refine XS.aload X_11.here hx rfl (hb hby at_104) rfl rfl ?_
      show Steps p.tables e below (T_11.setTop (mkF m 106 #[.val (.int p1), .val (.int p2), .val (.int (3 : Int32)), .val (.int (p2 &&& (2147483647 : Int32))), .val (.int dl), .val (.ref b_11)] [(.ref b_11)])) t
      refine XS.iloadN X_11.here hx rfl (hb hby at_106) rfl ?_
      show Steps p.tables e below (T_11.setTop (mkF m 107 #[.val (.int p1), .val (.int p2), .val (.int (3 : Int32)), .val (.int (p2 &&& (2147483647 : Int32))), .val (.int dl), .val (.ref b_11)] [(.int (3 : Int32)), (.ref b_11)])) t
      refine XS.iconst X_11.here hx rfl (hb hby at_107) ?_
      show Steps p.tables e below (T_11.setTop (mkF m 108 #[.val (.int p1), .val (.int p2), .val (.int (3 : Int32)), .val (.int (p2 &&& (2147483647 : Int32))), .val (.int dl), .val (.ref b_11)] [(.int (3 : Int32)), (.int (3 : Int32)), (.ref b_11)])) t
      refine XS.isub X_11.here hx rfl (hb hby at_108) rfl ?_
      exact kt
    have vq_16 := V_11
    obtain ⟨c_16, a_16, q_16, s_16, m_16, H_16, G_16⟩ := vq_16
    have hin_16 : ¬ ((0 : Int32) < 0 ∨ c_16.slots.size ≤ ((0 : Int32)).toNatClampNeg) := inb_of s_16 ⟨by decide, by decide⟩
    have hat_16 : c_16.slots[((0 : Int32)).toNatClampNeg]? = some (.int (own_fr (2 : Int32) dl)) := H_16.at hin_16 rfl
    refine own_go (T' := T_11) (g' := (mkF m 110 #[.val (.int p1), .val (.int p2), .val (.int (3 : Int32)), .val (.int (p2 &&& (2147483647 : Int32))), .val (.int dl), .val (.ref b_11)] [(.int (own_fr (2 : Int32) dl))])) (fun t kt => ?_) ?_
    · refine X_11.iaload hx (j := (0 : Int32)) (v := (.int (own_fr (2 : Int32) dl))) a_16.1 (State.isArrayOf_alike hZ.alike a_16.2.1) a_16.2.2 hin_16 hat_16 (g := (mkF m 109 #[.val (.int p1), .val (.int p2), .val (.int (3 : Int32)), .val (.int (p2 &&& (2147483647 : Int32))), .val (.int dl), .val (.ref b_11)] [(.int (0 : Int32)), (.ref b_11)])) rfl rfl (hb hby at_109) _ ?_
      exact kt
    refine own_go (T' := T_11) (g' := (mkF m 115 #[.val (.int p1), .val (.int p2), .val (.int (3 : Int32)), .val (.int (p2 &&& (2147483647 : Int32))), .val (.int dl), .val (.ref b_11)] [(.int (1 : Int32)), (.ref b_11), (.int (own_fr (2 : Int32) dl))])) (fun t kt => ?_) ?_
    · show Steps p.tables e below (T_11.setTop (mkF m 110 #[.val (.int p1), .val (.int p2), .val (.int (3 : Int32)), .val (.int (p2 &&& (2147483647 : Int32))), .val (.int dl), .val (.ref b_11)] [(.int (own_fr (2 : Int32) dl))])) t
      refine XS.aload X_11.here hx rfl (hb hby at_110) rfl rfl ?_
      show Steps p.tables e below (T_11.setTop (mkF m 112 #[.val (.int p1), .val (.int p2), .val (.int (3 : Int32)), .val (.int (p2 &&& (2147483647 : Int32))), .val (.int dl), .val (.ref b_11)] [(.ref b_11), (.int (own_fr (2 : Int32) dl))])) t
      refine XS.iloadN X_11.here hx rfl (hb hby at_112) rfl ?_
      show Steps p.tables e below (T_11.setTop (mkF m 113 #[.val (.int p1), .val (.int p2), .val (.int (3 : Int32)), .val (.int (p2 &&& (2147483647 : Int32))), .val (.int dl), .val (.ref b_11)] [(.int (3 : Int32)), (.ref b_11), (.int (own_fr (2 : Int32) dl))])) t
      refine XS.iconst X_11.here hx rfl (hb hby at_113) ?_
      show Steps p.tables e below (T_11.setTop (mkF m 114 #[.val (.int p1), .val (.int p2), .val (.int (3 : Int32)), .val (.int (p2 &&& (2147483647 : Int32))), .val (.int dl), .val (.ref b_11)] [(.int (2 : Int32)), (.int (3 : Int32)), (.ref b_11), (.int (own_fr (2 : Int32) dl))])) t
      refine XS.isub X_11.here hx rfl (hb hby at_114) rfl ?_
      exact kt
    have vq_17 := V_11
    obtain ⟨c_17, a_17, q_17, s_17, m_17, H_17, G_17⟩ := vq_17
    have hin_17 : ¬ ((1 : Int32) < 0 ∨ c_17.slots.size ≤ ((1 : Int32)).toNatClampNeg) := inb_of s_17 ⟨by decide, by decide⟩
    have hat_17 : c_17.slots[((1 : Int32)).toNatClampNeg]? = some (.int (own_fr (1 : Int32) dl)) := H_17.at hin_17 rfl
    refine own_go (T' := T_11) (g' := (mkF m 116 #[.val (.int p1), .val (.int p2), .val (.int (3 : Int32)), .val (.int (p2 &&& (2147483647 : Int32))), .val (.int dl), .val (.ref b_11)] [(.int (own_fr (1 : Int32) dl)), (.int (own_fr (2 : Int32) dl))])) (fun t kt => ?_) ?_
    · refine X_11.iaload hx (j := (1 : Int32)) (v := (.int (own_fr (1 : Int32) dl))) a_17.1 (State.isArrayOf_alike hZ.alike a_17.2.1) a_17.2.2 hin_17 hat_17 (g := (mkF m 115 #[.val (.int p1), .val (.int p2), .val (.int (3 : Int32)), .val (.int (p2 &&& (2147483647 : Int32))), .val (.int dl), .val (.ref b_11)] [(.int (1 : Int32)), (.ref b_11), (.int (own_fr (2 : Int32) dl))])) rfl rfl (hb hby at_115) _ ?_
      exact kt
    refine own_go (T' := T_11) (g' := (mkF m 146 #[.val (.int p1), .val (.int p2), .val (.int (3 : Int32)), .val (.int (p2 &&& (2147483647 : Int32))), .val (.int dl), .val (.ref b_11)] [(.int (1 : Int32))])) (fun t kt => ?_) ?_
    · show Steps p.tables e below (T_11.setTop (mkF m 116 #[.val (.int p1), .val (.int p2), .val (.int (3 : Int32)), .val (.int (p2 &&& (2147483647 : Int32))), .val (.int dl), .val (.ref b_11)] [(.int (own_fr (1 : Int32) dl)), (.int (own_fr (2 : Int32) dl))])) t
      refine XS.isub X_11.here hx rfl (hb hby at_116) rfl ?_
      show Steps p.tables e below (T_11.setTop (mkF m 117 #[.val (.int p1), .val (.int p2), .val (.int (3 : Int32)), .val (.int (p2 &&& (2147483647 : Int32))), .val (.int dl), .val (.ref b_11)] [(.int ((own_fr (2 : Int32) dl) - (own_fr (1 : Int32) dl)))])) t
      refine XS.iload X_11.here hx rfl (hb hby at_117) rfl ?_
      show Steps p.tables e below (T_11.setTop (mkF m 119 #[.val (.int p1), .val (.int p2), .val (.int (3 : Int32)), .val (.int (p2 &&& (2147483647 : Int32))), .val (.int dl), .val (.ref b_11)] [(.int dl), (.int ((own_fr (2 : Int32) dl) - (own_fr (1 : Int32) dl)))])) t
      refine XS.icmpYes X_11.here hx rfl (pc0 := 119) (pc' := 124) rfl (hb hby at_119) rfl (teq (own_step (1 : Int32) (2 : Int32) dl (by decide) (by decide) hd1 (by show (2 : Int) * dl.toInt ≤ 16777215; omega) : ((own_fr (2 : Int32) dl) - (own_fr (1 : Int32) dl)) = dl)).1 (by decide) (by decide) ?_
      show Steps p.tables e below (T_11.setTop (mkF m 124 #[.val (.int p1), .val (.int p2), .val (.int (3 : Int32)), .val (.int (p2 &&& (2147483647 : Int32))), .val (.int dl), .val (.ref b_11)] [])) t
      refine XS.iloadN X_11.here hx rfl (hb hby at_124) rfl ?_
      show Steps p.tables e below (T_11.setTop (mkF m 125 #[.val (.int p1), .val (.int p2), .val (.int (3 : Int32)), .val (.int (p2 &&& (2147483647 : Int32))), .val (.int dl), .val (.ref b_11)] [(.int (3 : Int32))])) t
      refine XS.iconst X_11.here hx rfl (hb hby at_125) ?_
      show Steps p.tables e below (T_11.setTop (mkF m 126 #[.val (.int p1), .val (.int p2), .val (.int (3 : Int32)), .val (.int (p2 &&& (2147483647 : Int32))), .val (.int dl), .val (.ref b_11)] [(.int (4 : Int32)), (.int (3 : Int32))])) t
      refine XS.icmpYes X_11.here hx rfl (pc0 := 126) (pc' := 145) rfl (hb hby at_126) rfl (tlt (by decide : (3 : Int32) < (4 : Int32))).1 (by decide) (by decide) ?_
      show Steps p.tables e below (T_11.setTop (mkF m 145 #[.val (.int p1), .val (.int p2), .val (.int (3 : Int32)), .val (.int (p2 &&& (2147483647 : Int32))), .val (.int dl), .val (.ref b_11)] [])) t
      refine XS.iconst X_11.here hx rfl (hb hby at_145) ?_
      exact kt
    obtain ⟨fs, hr, hrun, hended, hW, hsame⟩ := X_11.leave (v := some (.int (1 : Int32))) (fun h => by rw [Bd.returns] at h; cases h)
    refine ⟨_, _, ?_, hrun, hended, _, _, rfl, ?_, ⟨_, rfl⟩, hW, hsame.mono (by decide) (by decide)⟩
    · exact retN X_11 hx (t := .boolean) Bd.returns (by simp) (hb hby at_146) hr
    · show Q_rm0 Z _ _ h0 n0 _ T_11.heap _
      exact ⟨rfl, N_11⟩
  · refine own_go (T' := s₁) (g' := (mkF m 39 #[.val (.int p1), .val (.int p2), .val (.int (4 : Int32)), .val (.int (p2 &&& (2147483647 : Int32))), .val (.int ((p2 &&& (2147483647 : Int32)) - ((p2 &&& (2147483647 : Int32)) / (((16777215 : Int32) / (3 : Int32)) + (1 : Int32))) * (((16777215 : Int32) / (3 : Int32)) + (1 : Int32)))), .val (.int ((16777215 : Int32) / (3 : Int32)))] [])) (fun t kt => ?_) ?_
    · show Steps p.tables e below (s₁.setTop (mkF m 7 #[.val (.int p1), .val (.int p2), .val (.int (4 : Int32)), .unset, .unset, .unset] [])) t
      refine XS.iloadN X0.here hx rfl (hb hby at_7) rfl ?_
      show Steps p.tables e below (s₁.setTop (mkF m 8 #[.val (.int p1), .val (.int p2), .val (.int (4 : Int32)), .unset, .unset, .unset] [(.int p2)])) t
      refine X0.ldcInt hx hown (mvT hZ (hw _ (List.mem_of_getElem? (i := 0) rfl))) (g := (mkF m 8 #[.val (.int p1), .val (.int p2), .val (.int (4 : Int32)), .unset, .unset, .unset] [(.int p2)])) rfl (hb hby at_8) _ ?_
      show Steps p.tables e below (s₁.setTop (mkF m 10 #[.val (.int p1), .val (.int p2), .val (.int (4 : Int32)), .unset, .unset, .unset] [(.int (2147483647 : Int32)), (.int p2)])) t
      refine XS.iand X0.here hx rfl (hb hby at_10) rfl ?_
      show Steps p.tables e below (s₁.setTop (mkF m 11 #[.val (.int p1), .val (.int p2), .val (.int (4 : Int32)), .unset, .unset, .unset] [(.int (p2 &&& (2147483647 : Int32)))])) t
      refine XS.istoreN X0.here hx rfl (hb hby at_11) rfl (l' := #[.val (.int p1), .val (.int p2), .val (.int (4 : Int32)), .val (.int (p2 &&& (2147483647 : Int32))), .unset, .unset]) rfl ?_
      show Steps p.tables e below (s₁.setTop (mkF m 12 #[.val (.int p1), .val (.int p2), .val (.int (4 : Int32)), .val (.int (p2 &&& (2147483647 : Int32))), .unset, .unset] [])) t
      refine XS.iloadN X0.here hx rfl (hb hby at_12) rfl ?_
      show Steps p.tables e below (s₁.setTop (mkF m 13 #[.val (.int p1), .val (.int p2), .val (.int (4 : Int32)), .val (.int (p2 &&& (2147483647 : Int32))), .unset, .unset] [(.int (4 : Int32))])) t
      refine XS.iconst X0.here hx rfl (hb hby at_13) ?_
      show Steps p.tables e below (s₁.setTop (mkF m 14 #[.val (.int p1), .val (.int p2), .val (.int (4 : Int32)), .val (.int (p2 &&& (2147483647 : Int32))), .unset, .unset] [(.int (2 : Int32)), (.int (4 : Int32))])) t
      refine XS.icmpNo X0.here hx rfl (hb hby at_14) rfl (flt (by decide : ¬ ((4 : Int32) < (2 : Int32)))).1 ?_
      show Steps p.tables e below (s₁.setTop (mkF m 17 #[.val (.int p1), .val (.int p2), .val (.int (4 : Int32)), .val (.int (p2 &&& (2147483647 : Int32))), .unset, .unset] [])) t
      refine X0.ldcInt hx hown (mvT hZ (hw _ (List.mem_of_getElem? (i := 6) rfl))) (g := (mkF m 17 #[.val (.int p1), .val (.int p2), .val (.int (4 : Int32)), .val (.int (p2 &&& (2147483647 : Int32))), .unset, .unset] [])) rfl (hb hby at_17) _ ?_
      show Steps p.tables e below (s₁.setTop (mkF m 19 #[.val (.int p1), .val (.int p2), .val (.int (4 : Int32)), .val (.int (p2 &&& (2147483647 : Int32))), .unset, .unset] [(.int (16777215 : Int32))])) t
      refine XS.iloadN X0.here hx rfl (hb hby at_19) rfl ?_
      show Steps p.tables e below (s₁.setTop (mkF m 20 #[.val (.int p1), .val (.int p2), .val (.int (4 : Int32)), .val (.int (p2 &&& (2147483647 : Int32))), .unset, .unset] [(.int (4 : Int32)), (.int (16777215 : Int32))])) t
      refine XS.iconst X0.here hx rfl (hb hby at_20) ?_
      show Steps p.tables e below (s₁.setTop (mkF m 21 #[.val (.int p1), .val (.int p2), .val (.int (4 : Int32)), .val (.int (p2 &&& (2147483647 : Int32))), .unset, .unset] [(.int (1 : Int32)), (.int (4 : Int32)), (.int (16777215 : Int32))])) t
      refine XS.isub X0.here hx rfl (hb hby at_21) rfl ?_
      show Steps p.tables e below (s₁.setTop (mkF m 22 #[.val (.int p1), .val (.int p2), .val (.int (4 : Int32)), .val (.int (p2 &&& (2147483647 : Int32))), .unset, .unset] [(.int (3 : Int32)), (.int (16777215 : Int32))])) t
      refine XS.idiv X0.here hx rfl (hb hby at_22) rfl (by decide) ?_
      show Steps p.tables e below (s₁.setTop (mkF m 23 #[.val (.int p1), .val (.int p2), .val (.int (4 : Int32)), .val (.int (p2 &&& (2147483647 : Int32))), .unset, .unset] [(.int ((16777215 : Int32) / (3 : Int32)))])) t
      refine XS.istore X0.here hx rfl (hb hby at_23) rfl (l' := #[.val (.int p1), .val (.int p2), .val (.int (4 : Int32)), .val (.int (p2 &&& (2147483647 : Int32))), .unset, .val (.int ((16777215 : Int32) / (3 : Int32)))]) rfl ?_
      show Steps p.tables e below (s₁.setTop (mkF m 25 #[.val (.int p1), .val (.int p2), .val (.int (4 : Int32)), .val (.int (p2 &&& (2147483647 : Int32))), .unset, .val (.int ((16777215 : Int32) / (3 : Int32)))] [])) t
      refine XS.iloadN X0.here hx rfl (hb hby at_25) rfl ?_
      show Steps p.tables e below (s₁.setTop (mkF m 26 #[.val (.int p1), .val (.int p2), .val (.int (4 : Int32)), .val (.int (p2 &&& (2147483647 : Int32))), .unset, .val (.int ((16777215 : Int32) / (3 : Int32)))] [(.int (p2 &&& (2147483647 : Int32)))])) t
      refine XS.iload X0.here hx rfl (hb hby at_26) rfl ?_
      show Steps p.tables e below (s₁.setTop (mkF m 28 #[.val (.int p1), .val (.int p2), .val (.int (4 : Int32)), .val (.int (p2 &&& (2147483647 : Int32))), .unset, .val (.int ((16777215 : Int32) / (3 : Int32)))] [(.int ((16777215 : Int32) / (3 : Int32))), (.int (p2 &&& (2147483647 : Int32)))])) t
      refine XS.iconst X0.here hx rfl (hb hby at_28) ?_
      show Steps p.tables e below (s₁.setTop (mkF m 29 #[.val (.int p1), .val (.int p2), .val (.int (4 : Int32)), .val (.int (p2 &&& (2147483647 : Int32))), .unset, .val (.int ((16777215 : Int32) / (3 : Int32)))] [(.int (1 : Int32)), (.int ((16777215 : Int32) / (3 : Int32))), (.int (p2 &&& (2147483647 : Int32)))])) t
      refine XS.iadd X0.here hx rfl (hb hby at_29) rfl ?_
      show Steps p.tables e below (s₁.setTop (mkF m 30 #[.val (.int p1), .val (.int p2), .val (.int (4 : Int32)), .val (.int (p2 &&& (2147483647 : Int32))), .unset, .val (.int ((16777215 : Int32) / (3 : Int32)))] [(.int (((16777215 : Int32) / (3 : Int32)) + (1 : Int32))), (.int (p2 &&& (2147483647 : Int32)))])) t
      refine XS.irem X0.here hx rfl (hb hby at_30) rfl (by decide) ?_
      show Steps p.tables e below (s₁.setTop (mkF m 31 #[.val (.int p1), .val (.int p2), .val (.int (4 : Int32)), .val (.int (p2 &&& (2147483647 : Int32))), .unset, .val (.int ((16777215 : Int32) / (3 : Int32)))] [(.int ((p2 &&& (2147483647 : Int32)) - ((p2 &&& (2147483647 : Int32)) / (((16777215 : Int32) / (3 : Int32)) + (1 : Int32))) * (((16777215 : Int32) / (3 : Int32)) + (1 : Int32))))])) t
      refine XS.istore X0.here hx rfl (hb hby at_31) rfl (l' := #[.val (.int p1), .val (.int p2), .val (.int (4 : Int32)), .val (.int (p2 &&& (2147483647 : Int32))), .val (.int ((p2 &&& (2147483647 : Int32)) - ((p2 &&& (2147483647 : Int32)) / (((16777215 : Int32) / (3 : Int32)) + (1 : Int32))) * (((16777215 : Int32) / (3 : Int32)) + (1 : Int32)))), .val (.int ((16777215 : Int32) / (3 : Int32)))]) rfl ?_
      show Steps p.tables e below (s₁.setTop (mkF m 33 #[.val (.int p1), .val (.int p2), .val (.int (4 : Int32)), .val (.int (p2 &&& (2147483647 : Int32))), .val (.int ((p2 &&& (2147483647 : Int32)) - ((p2 &&& (2147483647 : Int32)) / (((16777215 : Int32) / (3 : Int32)) + (1 : Int32))) * (((16777215 : Int32) / (3 : Int32)) + (1 : Int32)))), .val (.int ((16777215 : Int32) / (3 : Int32)))] [])) t
      refine XS.goto X0.here hx rfl (pc0 := 33) (pc' := 39) rfl (hb hby at_33) (by decide) (by decide) ?_
      exact kt
    have hd1 := (own_dl p2 (((16777215 : Int32) / (3 : Int32)) + (1 : Int32)) 5592406 (by decide) (by decide)).1
    have hd2 := (own_dl p2 (((16777215 : Int32) / (3 : Int32)) + (1 : Int32)) 5592406 (by decide) (by decide)).2
    generalize ((p2 &&& (2147483647 : Int32)) - ((p2 &&& (2147483647 : Int32)) / (((16777215 : Int32) / (3 : Int32)) + (1 : Int32))) * (((16777215 : Int32) / (3 : Int32)) + (1 : Int32))) = dl at hd1 hd2 ⊢
    have hd0 : ¬ (dl < (0 : Int32)) := by rw [Int32.lt_iff_toInt_lt]; have : (0 : Int32).toInt = 0 := rfl; omega
    refine own_go (T' := s₁) (g' := (mkF m 42 #[.val (.int p1), .val (.int p2), .val (.int (4 : Int32)), .val (.int (p2 &&& (2147483647 : Int32))), .val (.int dl), .val (.int ((16777215 : Int32) / (3 : Int32)))] [(.int dl), (.int (4 : Int32))])) (fun t kt => ?_) ?_
    · show Steps p.tables e below (s₁.setTop (mkF m 39 #[.val (.int p1), .val (.int p2), .val (.int (4 : Int32)), .val (.int (p2 &&& (2147483647 : Int32))), .val (.int dl), .val (.int ((16777215 : Int32) / (3 : Int32)))] [])) t
      refine XS.iloadN X0.here hx rfl (hb hby at_39) rfl ?_
      show Steps p.tables e below (s₁.setTop (mkF m 40 #[.val (.int p1), .val (.int p2), .val (.int (4 : Int32)), .val (.int (p2 &&& (2147483647 : Int32))), .val (.int dl), .val (.int ((16777215 : Int32) / (3 : Int32)))] [(.int (4 : Int32))])) t
      refine XS.iload X0.here hx rfl (hb hby at_40) rfl ?_
      exact kt
    obtain ⟨_, _, ⟨T_18, L_18, k_18, n_18⟩, -, X_18, ⟨Lc_18, hQ_18, l_18, y_18, z_18⟩, st_18⟩ := Jvm.LawKit.callS X0 hx (y := (⟨"com/example/orrery/orrery/Program", "deltaFreqs", "(II)[I"⟩ : MethodName)) hown (mvT hZ (hw _ (List.mem_of_getElem? (i := 1) rfl))) (mvT hZ (hw _ (List.mem_of_getElem? (i := 2) rfl))) (mvT hZ (hw _ (List.mem_of_getElem? (i := 3) rfl))) (mvT hZ (hw _ (List.mem_of_getElem? (i := 4) rfl))) (by decide) (backOf (W := 0) (rd4 l Z a0 hw [] dl  h0 n0 Z0 hd0 hd1 (by omega)) hZ (hw _ (List.mem_of_getElem? (i := 4) rfl)) (hw _ (List.mem_of_getElem? (i := 3) rfl)) (by decide) (by decide)) (g := (mkF m 42 #[.val (.int p1), .val (.int p2), .val (.int (4 : Int32)), .val (.int (p2 &&& (2147483647 : Int32))), .val (.int dl), .val (.int ((16777215 : Int32) / (3 : Int32)))] [(.int dl), (.int (4 : Int32))])) rfl (by rw [hml]; rfl) (argsL := [(.int (4 : Int32)), (.int dl)]) (rest := []) (lenOf pd_0 rfl) rfl (by show 2 * 0 + _ ≤ _; exact Nat.le_of_eq rfl) (hb hby at_42) (fun _ _ => ⟨rfl, e0, (by decide : 0 + 1 ≤ _), (by decide : 0 + 4 ≤ _)⟩)
    dsimp only [Pt.U, Pt.locs, Pt.cells, Pt.slots] at X_18 l_18 y_18 z_18 st_18 hQ_18
    subst l_18 y_18 z_18
    obtain ⟨b_18, kA_18, rfl, N_18q, K_18, sz_18, V_18⟩ := hQ_18
    have N_18 := Fr.app N0 N_18q
    have g_b_18 : n0 ≤ b_18 := Nat.le_trans Z0 sz_18
    have Z_18 : n0 ≤ T_18.heap.size := Nat.le_trans Z0 K_18.1
    refine own_go (g' := (mkF m 45 #[.val (.int p1), .val (.int p2), .val (.int (4 : Int32)), .val (.int (p2 &&& (2147483647 : Int32))), .val (.int dl), .val (.int ((16777215 : Int32) / (3 : Int32)))] [(.ref b_18)])) st_18 ?_
    refine own_go (T' := T_18) (g' := (mkF m 49 #[.val (.int p1), .val (.int p2), .val (.int (4 : Int32)), .val (.int (p2 &&& (2147483647 : Int32))), .val (.int dl), .val (.ref b_18)] [(.ref b_18)])) (fun t kt => ?_) ?_
    · show Steps p.tables e below (T_18.setTop (mkF m 45 #[.val (.int p1), .val (.int p2), .val (.int (4 : Int32)), .val (.int (p2 &&& (2147483647 : Int32))), .val (.int dl), .val (.int ((16777215 : Int32) / (3 : Int32)))] [(.ref b_18)])) t
      refine XS.astore X_18.here hx rfl (hb hby at_45) rfl rfl (l' := #[.val (.int p1), .val (.int p2), .val (.int (4 : Int32)), .val (.int (p2 &&& (2147483647 : Int32))), .val (.int dl), .val (.ref b_18)]) rfl ?_
      show Steps p.tables e below (T_18.setTop (mkF m 47 #[.val (.int p1), .val (.int p2), .val (.int (4 : Int32)), .val (.int (p2 &&& (2147483647 : Int32))), .val (.int dl), .val (.ref b_18)] [])) t
      refine XS.aload X_18.here hx rfl (hb hby at_47) rfl rfl ?_
      exact kt
    have vq_19 := V_18
    obtain ⟨c_19, a_19, -, s_19, m_19, -, -⟩ := vq_19
    refine own_go (T' := T_18) (g' := (mkF m 50 #[.val (.int p1), .val (.int p2), .val (.int (4 : Int32)), .val (.int (p2 &&& (2147483647 : Int32))), .val (.int dl), .val (.ref b_18)] [(.int (4 : Int32))])) (fun t kt => ?_) ?_
    · refine X_18.arraylength hx a_19.1 (State.isArrayOf_alike hZ.alike a_19.2.1) (g := (mkF m 49 #[.val (.int p1), .val (.int p2), .val (.int (4 : Int32)), .val (.int (p2 &&& (2147483647 : Int32))), .val (.int dl), .val (.ref b_18)] [(.ref b_18)])) rfl rfl (hb hby at_49) _ ?_
      rw [len_of s_19 m_19]
      exact kt
    refine own_go (T' := T_18) (g' := (mkF m 67 #[.val (.int p1), .val (.int p2), .val (.int (4 : Int32)), .val (.int (p2 &&& (2147483647 : Int32))), .val (.int dl), .val (.ref b_18)] [(.int (3 : Int32)), (.ref b_18)])) (fun t kt => ?_) ?_
    · show Steps p.tables e below (T_18.setTop (mkF m 50 #[.val (.int p1), .val (.int p2), .val (.int (4 : Int32)), .val (.int (p2 &&& (2147483647 : Int32))), .val (.int dl), .val (.ref b_18)] [(.int (4 : Int32))])) t
      refine XS.iloadN X_18.here hx rfl (hb hby at_50) rfl ?_
      show Steps p.tables e below (T_18.setTop (mkF m 51 #[.val (.int p1), .val (.int p2), .val (.int (4 : Int32)), .val (.int (p2 &&& (2147483647 : Int32))), .val (.int dl), .val (.ref b_18)] [(.int (4 : Int32)), (.int (4 : Int32))])) t
      refine XS.icmpYes X_18.here hx rfl (pc0 := 51) (pc' := 56) rfl (hb hby at_51) rfl (teq (by decide : (4 : Int32) = (4 : Int32))).1 (by decide) (by decide) ?_
      show Steps p.tables e below (T_18.setTop (mkF m 56 #[.val (.int p1), .val (.int p2), .val (.int (4 : Int32)), .val (.int (p2 &&& (2147483647 : Int32))), .val (.int dl), .val (.ref b_18)] [])) t
      refine XS.iloadN X_18.here hx rfl (hb hby at_56) rfl ?_
      show Steps p.tables e below (T_18.setTop (mkF m 57 #[.val (.int p1), .val (.int p2), .val (.int (4 : Int32)), .val (.int (p2 &&& (2147483647 : Int32))), .val (.int dl), .val (.ref b_18)] [(.int (4 : Int32))])) t
      refine XS.ifYes X_18.here hx rfl (pc0 := 57) (pc' := 62) rfl (hb hby at_57) rfl ((if0 _ _).trans (feq (by decide : ¬ ((4 : Int32) = (0 : Int32)))).2) (by decide) (by decide) ?_
      show Steps p.tables e below (T_18.setTop (mkF m 62 #[.val (.int p1), .val (.int p2), .val (.int (4 : Int32)), .val (.int (p2 &&& (2147483647 : Int32))), .val (.int dl), .val (.ref b_18)] [])) t
      refine XS.aload X_18.here hx rfl (hb hby at_62) rfl rfl ?_
      show Steps p.tables e below (T_18.setTop (mkF m 64 #[.val (.int p1), .val (.int p2), .val (.int (4 : Int32)), .val (.int (p2 &&& (2147483647 : Int32))), .val (.int dl), .val (.ref b_18)] [(.ref b_18)])) t
      refine XS.iloadN X_18.here hx rfl (hb hby at_64) rfl ?_
      show Steps p.tables e below (T_18.setTop (mkF m 65 #[.val (.int p1), .val (.int p2), .val (.int (4 : Int32)), .val (.int (p2 &&& (2147483647 : Int32))), .val (.int dl), .val (.ref b_18)] [(.int (4 : Int32)), (.ref b_18)])) t
      refine XS.iconst X_18.here hx rfl (hb hby at_65) ?_
      show Steps p.tables e below (T_18.setTop (mkF m 66 #[.val (.int p1), .val (.int p2), .val (.int (4 : Int32)), .val (.int (p2 &&& (2147483647 : Int32))), .val (.int dl), .val (.ref b_18)] [(.int (1 : Int32)), (.int (4 : Int32)), (.ref b_18)])) t
      refine XS.isub X_18.here hx rfl (hb hby at_66) rfl ?_
      exact kt
    have vq_20 := V_18
    obtain ⟨c_20, a_20, q_20, s_20, m_20, H_20, G_20⟩ := vq_20
    have hin_20 : ¬ ((3 : Int32) < 0 ∨ c_20.slots.size ≤ ((3 : Int32)).toNatClampNeg) := inb_of s_20 ⟨by decide, by decide⟩
    have hat_20 : c_20.slots[((3 : Int32)).toNatClampNeg]? = some (.int (own_fr (0 : Int32) dl)) := H_20.at hin_20 rfl
    refine own_go (T' := T_18) (g' := (mkF m 68 #[.val (.int p1), .val (.int p2), .val (.int (4 : Int32)), .val (.int (p2 &&& (2147483647 : Int32))), .val (.int dl), .val (.ref b_18)] [(.int (own_fr (0 : Int32) dl))])) (fun t kt => ?_) ?_
    · refine X_18.iaload hx (j := (3 : Int32)) (v := (.int (own_fr (0 : Int32) dl))) a_20.1 (State.isArrayOf_alike hZ.alike a_20.2.1) a_20.2.2 hin_20 hat_20 (g := (mkF m 67 #[.val (.int p1), .val (.int p2), .val (.int (4 : Int32)), .val (.int (p2 &&& (2147483647 : Int32))), .val (.int dl), .val (.ref b_18)] [(.int (3 : Int32)), (.ref b_18)])) rfl rfl (hb hby at_67) _ ?_
      exact kt
    refine own_go (T' := T_18) (g' := (mkF m 84 #[.val (.int p1), .val (.int p2), .val (.int (4 : Int32)), .val (.int (p2 &&& (2147483647 : Int32))), .val (.int dl), .val (.ref b_18)] [(.int (2 : Int32)), (.ref b_18)])) (fun t kt => ?_) ?_
    · show Steps p.tables e below (T_18.setTop (mkF m 68 #[.val (.int p1), .val (.int p2), .val (.int (4 : Int32)), .val (.int (p2 &&& (2147483647 : Int32))), .val (.int dl), .val (.ref b_18)] [(.int (own_fr (0 : Int32) dl))])) t
      refine XS.iconst X_18.here hx rfl (hb hby at_68) ?_
      show Steps p.tables e below (T_18.setTop (mkF m 69 #[.val (.int p1), .val (.int p2), .val (.int (4 : Int32)), .val (.int (p2 &&& (2147483647 : Int32))), .val (.int dl), .val (.ref b_18)] [(.int (1 : Int32)), (.int (own_fr (0 : Int32) dl))])) t
      refine XS.icmpYes X_18.here hx rfl (pc0 := 69) (pc' := 74) rfl (hb hby at_69) rfl (teq (own_one dl hd1 : (own_fr (0 : Int32) dl) = (1 : Int32))).1 (by decide) (by decide) ?_
      show Steps p.tables e below (T_18.setTop (mkF m 74 #[.val (.int p1), .val (.int p2), .val (.int (4 : Int32)), .val (.int (p2 &&& (2147483647 : Int32))), .val (.int dl), .val (.ref b_18)] [])) t
      refine XS.iloadN X_18.here hx rfl (hb hby at_74) rfl ?_
      show Steps p.tables e below (T_18.setTop (mkF m 75 #[.val (.int p1), .val (.int p2), .val (.int (4 : Int32)), .val (.int (p2 &&& (2147483647 : Int32))), .val (.int dl), .val (.ref b_18)] [(.int (4 : Int32))])) t
      refine XS.iconst X_18.here hx rfl (hb hby at_75) ?_
      show Steps p.tables e below (T_18.setTop (mkF m 76 #[.val (.int p1), .val (.int p2), .val (.int (4 : Int32)), .val (.int (p2 &&& (2147483647 : Int32))), .val (.int dl), .val (.ref b_18)] [(.int (2 : Int32)), (.int (4 : Int32))])) t
      refine XS.icmpNo X_18.here hx rfl (hb hby at_76) rfl (flt (by decide : ¬ ((4 : Int32) < (2 : Int32)))).1 ?_
      show Steps p.tables e below (T_18.setTop (mkF m 79 #[.val (.int p1), .val (.int p2), .val (.int (4 : Int32)), .val (.int (p2 &&& (2147483647 : Int32))), .val (.int dl), .val (.ref b_18)] [])) t
      refine XS.aload X_18.here hx rfl (hb hby at_79) rfl rfl ?_
      show Steps p.tables e below (T_18.setTop (mkF m 81 #[.val (.int p1), .val (.int p2), .val (.int (4 : Int32)), .val (.int (p2 &&& (2147483647 : Int32))), .val (.int dl), .val (.ref b_18)] [(.ref b_18)])) t
      refine XS.iloadN X_18.here hx rfl (hb hby at_81) rfl ?_
      show Steps p.tables e below (T_18.setTop (mkF m 82 #[.val (.int p1), .val (.int p2), .val (.int (4 : Int32)), .val (.int (p2 &&& (2147483647 : Int32))), .val (.int dl), .val (.ref b_18)] [(.int (4 : Int32)), (.ref b_18)])) t
      refine XS.iconst X_18.here hx rfl (hb hby at_82) ?_
      show Steps p.tables e below (T_18.setTop (mkF m 83 #[.val (.int p1), .val (.int p2), .val (.int (4 : Int32)), .val (.int (p2 &&& (2147483647 : Int32))), .val (.int dl), .val (.ref b_18)] [(.int (2 : Int32)), (.int (4 : Int32)), (.ref b_18)])) t
      refine XS.isub X_18.here hx rfl (hb hby at_83) rfl ?_
      exact kt
    have vq_21 := V_18
    obtain ⟨c_21, a_21, q_21, s_21, m_21, H_21, G_21⟩ := vq_21
    have hin_21 : ¬ ((2 : Int32) < 0 ∨ c_21.slots.size ≤ ((2 : Int32)).toNatClampNeg) := inb_of s_21 ⟨by decide, by decide⟩
    have hat_21 : c_21.slots[((2 : Int32)).toNatClampNeg]? = some (.int (own_fr (1 : Int32) dl)) := H_21.at hin_21 rfl
    refine own_go (T' := T_18) (g' := (mkF m 85 #[.val (.int p1), .val (.int p2), .val (.int (4 : Int32)), .val (.int (p2 &&& (2147483647 : Int32))), .val (.int dl), .val (.ref b_18)] [(.int (own_fr (1 : Int32) dl))])) (fun t kt => ?_) ?_
    · refine X_18.iaload hx (j := (2 : Int32)) (v := (.int (own_fr (1 : Int32) dl))) a_21.1 (State.isArrayOf_alike hZ.alike a_21.2.1) a_21.2.2 hin_21 hat_21 (g := (mkF m 84 #[.val (.int p1), .val (.int p2), .val (.int (4 : Int32)), .val (.int (p2 &&& (2147483647 : Int32))), .val (.int dl), .val (.ref b_18)] [(.int (2 : Int32)), (.ref b_18)])) rfl rfl (hb hby at_84) _ ?_
      exact kt
    refine own_go (T' := T_18) (g' := (mkF m 90 #[.val (.int p1), .val (.int p2), .val (.int (4 : Int32)), .val (.int (p2 &&& (2147483647 : Int32))), .val (.int dl), .val (.ref b_18)] [(.int (3 : Int32)), (.ref b_18), (.int (own_fr (1 : Int32) dl))])) (fun t kt => ?_) ?_
    · show Steps p.tables e below (T_18.setTop (mkF m 85 #[.val (.int p1), .val (.int p2), .val (.int (4 : Int32)), .val (.int (p2 &&& (2147483647 : Int32))), .val (.int dl), .val (.ref b_18)] [(.int (own_fr (1 : Int32) dl))])) t
      refine XS.aload X_18.here hx rfl (hb hby at_85) rfl rfl ?_
      show Steps p.tables e below (T_18.setTop (mkF m 87 #[.val (.int p1), .val (.int p2), .val (.int (4 : Int32)), .val (.int (p2 &&& (2147483647 : Int32))), .val (.int dl), .val (.ref b_18)] [(.ref b_18), (.int (own_fr (1 : Int32) dl))])) t
      refine XS.iloadN X_18.here hx rfl (hb hby at_87) rfl ?_
      show Steps p.tables e below (T_18.setTop (mkF m 88 #[.val (.int p1), .val (.int p2), .val (.int (4 : Int32)), .val (.int (p2 &&& (2147483647 : Int32))), .val (.int dl), .val (.ref b_18)] [(.int (4 : Int32)), (.ref b_18), (.int (own_fr (1 : Int32) dl))])) t
      refine XS.iconst X_18.here hx rfl (hb hby at_88) ?_
      show Steps p.tables e below (T_18.setTop (mkF m 89 #[.val (.int p1), .val (.int p2), .val (.int (4 : Int32)), .val (.int (p2 &&& (2147483647 : Int32))), .val (.int dl), .val (.ref b_18)] [(.int (1 : Int32)), (.int (4 : Int32)), (.ref b_18), (.int (own_fr (1 : Int32) dl))])) t
      refine XS.isub X_18.here hx rfl (hb hby at_89) rfl ?_
      exact kt
    have vq_22 := V_18
    obtain ⟨c_22, a_22, q_22, s_22, m_22, H_22, G_22⟩ := vq_22
    have hin_22 : ¬ ((3 : Int32) < 0 ∨ c_22.slots.size ≤ ((3 : Int32)).toNatClampNeg) := inb_of s_22 ⟨by decide, by decide⟩
    have hat_22 : c_22.slots[((3 : Int32)).toNatClampNeg]? = some (.int (own_fr (0 : Int32) dl)) := H_22.at hin_22 rfl
    refine own_go (T' := T_18) (g' := (mkF m 91 #[.val (.int p1), .val (.int p2), .val (.int (4 : Int32)), .val (.int (p2 &&& (2147483647 : Int32))), .val (.int dl), .val (.ref b_18)] [(.int (own_fr (0 : Int32) dl)), (.int (own_fr (1 : Int32) dl))])) (fun t kt => ?_) ?_
    · refine X_18.iaload hx (j := (3 : Int32)) (v := (.int (own_fr (0 : Int32) dl))) a_22.1 (State.isArrayOf_alike hZ.alike a_22.2.1) a_22.2.2 hin_22 hat_22 (g := (mkF m 90 #[.val (.int p1), .val (.int p2), .val (.int (4 : Int32)), .val (.int (p2 &&& (2147483647 : Int32))), .val (.int dl), .val (.ref b_18)] [(.int (3 : Int32)), (.ref b_18), (.int (own_fr (1 : Int32) dl))])) rfl rfl (hb hby at_90) _ ?_
      exact kt
    refine own_go (T' := T_18) (g' := (mkF m 109 #[.val (.int p1), .val (.int p2), .val (.int (4 : Int32)), .val (.int (p2 &&& (2147483647 : Int32))), .val (.int dl), .val (.ref b_18)] [(.int (1 : Int32)), (.ref b_18)])) (fun t kt => ?_) ?_
    · show Steps p.tables e below (T_18.setTop (mkF m 91 #[.val (.int p1), .val (.int p2), .val (.int (4 : Int32)), .val (.int (p2 &&& (2147483647 : Int32))), .val (.int dl), .val (.ref b_18)] [(.int (own_fr (0 : Int32) dl)), (.int (own_fr (1 : Int32) dl))])) t
      refine XS.isub X_18.here hx rfl (hb hby at_91) rfl ?_
      show Steps p.tables e below (T_18.setTop (mkF m 92 #[.val (.int p1), .val (.int p2), .val (.int (4 : Int32)), .val (.int (p2 &&& (2147483647 : Int32))), .val (.int dl), .val (.ref b_18)] [(.int ((own_fr (1 : Int32) dl) - (own_fr (0 : Int32) dl)))])) t
      refine XS.iload X_18.here hx rfl (hb hby at_92) rfl ?_
      show Steps p.tables e below (T_18.setTop (mkF m 94 #[.val (.int p1), .val (.int p2), .val (.int (4 : Int32)), .val (.int (p2 &&& (2147483647 : Int32))), .val (.int dl), .val (.ref b_18)] [(.int dl), (.int ((own_fr (1 : Int32) dl) - (own_fr (0 : Int32) dl)))])) t
      refine XS.icmpYes X_18.here hx rfl (pc0 := 94) (pc' := 99) rfl (hb hby at_94) rfl (teq (own_step (0 : Int32) (1 : Int32) dl (by decide) (by decide) hd1 (by show (1 : Int) * dl.toInt ≤ 16777215; omega) : ((own_fr (1 : Int32) dl) - (own_fr (0 : Int32) dl)) = dl)).1 (by decide) (by decide) ?_
      show Steps p.tables e below (T_18.setTop (mkF m 99 #[.val (.int p1), .val (.int p2), .val (.int (4 : Int32)), .val (.int (p2 &&& (2147483647 : Int32))), .val (.int dl), .val (.ref b_18)] [])) t
      refine XS.iloadN X_18.here hx rfl (hb hby at_99) rfl ?_
      show Steps p.tables e below (T_18.setTop (mkF m 100 #[.val (.int p1), .val (.int p2), .val (.int (4 : Int32)), .val (.int (p2 &&& (2147483647 : Int32))), .val (.int dl), .val (.ref b_18)] [(.int (4 : Int32))])) t
      refine XS.iconst X_18.here hx rfl (hb hby at_100) ?_
      show Steps p.tables e below (T_18.setTop (mkF m 101 #[.val (.int p1), .val (.int p2), .val (.int (4 : Int32)), .val (.int (p2 &&& (2147483647 : Int32))), .val (.int dl), .val (.ref b_18)] [(.int (3 : Int32)), (.int (4 : Int32))])) t
      refine XS.icmpNo X_18.here hx rfl (hb hby at_101) rfl (flt (by decide : ¬ ((4 : Int32) < (3 : Int32)))).1 ?_
      show Steps p.tables e below (T_18.setTop (mkF m 104 #[.val (.int p1), .val (.int p2), .val (.int (4 : Int32)), .val (.int (p2 &&& (2147483647 : Int32))), .val (.int dl), .val (.ref b_18)] [])) t
      refine XS.aload X_18.here hx rfl (hb hby at_104) rfl rfl ?_
      show Steps p.tables e below (T_18.setTop (mkF m 106 #[.val (.int p1), .val (.int p2), .val (.int (4 : Int32)), .val (.int (p2 &&& (2147483647 : Int32))), .val (.int dl), .val (.ref b_18)] [(.ref b_18)])) t
      refine XS.iloadN X_18.here hx rfl (hb hby at_106) rfl ?_
      show Steps p.tables e below (T_18.setTop (mkF m 107 #[.val (.int p1), .val (.int p2), .val (.int (4 : Int32)), .val (.int (p2 &&& (2147483647 : Int32))), .val (.int dl), .val (.ref b_18)] [(.int (4 : Int32)), (.ref b_18)])) t
      refine XS.iconst X_18.here hx rfl (hb hby at_107) ?_
      show Steps p.tables e below (T_18.setTop (mkF m 108 #[.val (.int p1), .val (.int p2), .val (.int (4 : Int32)), .val (.int (p2 &&& (2147483647 : Int32))), .val (.int dl), .val (.ref b_18)] [(.int (3 : Int32)), (.int (4 : Int32)), (.ref b_18)])) t
      refine XS.isub X_18.here hx rfl (hb hby at_108) rfl ?_
      exact kt
    have vq_23 := V_18
    obtain ⟨c_23, a_23, q_23, s_23, m_23, H_23, G_23⟩ := vq_23
    have hin_23 : ¬ ((1 : Int32) < 0 ∨ c_23.slots.size ≤ ((1 : Int32)).toNatClampNeg) := inb_of s_23 ⟨by decide, by decide⟩
    have hat_23 : c_23.slots[((1 : Int32)).toNatClampNeg]? = some (.int (own_fr (2 : Int32) dl)) := H_23.at hin_23 rfl
    refine own_go (T' := T_18) (g' := (mkF m 110 #[.val (.int p1), .val (.int p2), .val (.int (4 : Int32)), .val (.int (p2 &&& (2147483647 : Int32))), .val (.int dl), .val (.ref b_18)] [(.int (own_fr (2 : Int32) dl))])) (fun t kt => ?_) ?_
    · refine X_18.iaload hx (j := (1 : Int32)) (v := (.int (own_fr (2 : Int32) dl))) a_23.1 (State.isArrayOf_alike hZ.alike a_23.2.1) a_23.2.2 hin_23 hat_23 (g := (mkF m 109 #[.val (.int p1), .val (.int p2), .val (.int (4 : Int32)), .val (.int (p2 &&& (2147483647 : Int32))), .val (.int dl), .val (.ref b_18)] [(.int (1 : Int32)), (.ref b_18)])) rfl rfl (hb hby at_109) _ ?_
      exact kt
    refine own_go (T' := T_18) (g' := (mkF m 115 #[.val (.int p1), .val (.int p2), .val (.int (4 : Int32)), .val (.int (p2 &&& (2147483647 : Int32))), .val (.int dl), .val (.ref b_18)] [(.int (2 : Int32)), (.ref b_18), (.int (own_fr (2 : Int32) dl))])) (fun t kt => ?_) ?_
    · show Steps p.tables e below (T_18.setTop (mkF m 110 #[.val (.int p1), .val (.int p2), .val (.int (4 : Int32)), .val (.int (p2 &&& (2147483647 : Int32))), .val (.int dl), .val (.ref b_18)] [(.int (own_fr (2 : Int32) dl))])) t
      refine XS.aload X_18.here hx rfl (hb hby at_110) rfl rfl ?_
      show Steps p.tables e below (T_18.setTop (mkF m 112 #[.val (.int p1), .val (.int p2), .val (.int (4 : Int32)), .val (.int (p2 &&& (2147483647 : Int32))), .val (.int dl), .val (.ref b_18)] [(.ref b_18), (.int (own_fr (2 : Int32) dl))])) t
      refine XS.iloadN X_18.here hx rfl (hb hby at_112) rfl ?_
      show Steps p.tables e below (T_18.setTop (mkF m 113 #[.val (.int p1), .val (.int p2), .val (.int (4 : Int32)), .val (.int (p2 &&& (2147483647 : Int32))), .val (.int dl), .val (.ref b_18)] [(.int (4 : Int32)), (.ref b_18), (.int (own_fr (2 : Int32) dl))])) t
      refine XS.iconst X_18.here hx rfl (hb hby at_113) ?_
      show Steps p.tables e below (T_18.setTop (mkF m 114 #[.val (.int p1), .val (.int p2), .val (.int (4 : Int32)), .val (.int (p2 &&& (2147483647 : Int32))), .val (.int dl), .val (.ref b_18)] [(.int (2 : Int32)), (.int (4 : Int32)), (.ref b_18), (.int (own_fr (2 : Int32) dl))])) t
      refine XS.isub X_18.here hx rfl (hb hby at_114) rfl ?_
      exact kt
    have vq_24 := V_18
    obtain ⟨c_24, a_24, q_24, s_24, m_24, H_24, G_24⟩ := vq_24
    have hin_24 : ¬ ((2 : Int32) < 0 ∨ c_24.slots.size ≤ ((2 : Int32)).toNatClampNeg) := inb_of s_24 ⟨by decide, by decide⟩
    have hat_24 : c_24.slots[((2 : Int32)).toNatClampNeg]? = some (.int (own_fr (1 : Int32) dl)) := H_24.at hin_24 rfl
    refine own_go (T' := T_18) (g' := (mkF m 116 #[.val (.int p1), .val (.int p2), .val (.int (4 : Int32)), .val (.int (p2 &&& (2147483647 : Int32))), .val (.int dl), .val (.ref b_18)] [(.int (own_fr (1 : Int32) dl)), (.int (own_fr (2 : Int32) dl))])) (fun t kt => ?_) ?_
    · refine X_18.iaload hx (j := (2 : Int32)) (v := (.int (own_fr (1 : Int32) dl))) a_24.1 (State.isArrayOf_alike hZ.alike a_24.2.1) a_24.2.2 hin_24 hat_24 (g := (mkF m 115 #[.val (.int p1), .val (.int p2), .val (.int (4 : Int32)), .val (.int (p2 &&& (2147483647 : Int32))), .val (.int dl), .val (.ref b_18)] [(.int (2 : Int32)), (.ref b_18), (.int (own_fr (2 : Int32) dl))])) rfl rfl (hb hby at_115) _ ?_
      exact kt
    refine own_go (T' := T_18) (g' := (mkF m 132 #[.val (.int p1), .val (.int p2), .val (.int (4 : Int32)), .val (.int (p2 &&& (2147483647 : Int32))), .val (.int dl), .val (.ref b_18)] [(.int (0 : Int32)), (.ref b_18)])) (fun t kt => ?_) ?_
    · show Steps p.tables e below (T_18.setTop (mkF m 116 #[.val (.int p1), .val (.int p2), .val (.int (4 : Int32)), .val (.int (p2 &&& (2147483647 : Int32))), .val (.int dl), .val (.ref b_18)] [(.int (own_fr (1 : Int32) dl)), (.int (own_fr (2 : Int32) dl))])) t
      refine XS.isub X_18.here hx rfl (hb hby at_116) rfl ?_
      show Steps p.tables e below (T_18.setTop (mkF m 117 #[.val (.int p1), .val (.int p2), .val (.int (4 : Int32)), .val (.int (p2 &&& (2147483647 : Int32))), .val (.int dl), .val (.ref b_18)] [(.int ((own_fr (2 : Int32) dl) - (own_fr (1 : Int32) dl)))])) t
      refine XS.iload X_18.here hx rfl (hb hby at_117) rfl ?_
      show Steps p.tables e below (T_18.setTop (mkF m 119 #[.val (.int p1), .val (.int p2), .val (.int (4 : Int32)), .val (.int (p2 &&& (2147483647 : Int32))), .val (.int dl), .val (.ref b_18)] [(.int dl), (.int ((own_fr (2 : Int32) dl) - (own_fr (1 : Int32) dl)))])) t
      refine XS.icmpYes X_18.here hx rfl (pc0 := 119) (pc' := 124) rfl (hb hby at_119) rfl (teq (own_step (1 : Int32) (2 : Int32) dl (by decide) (by decide) hd1 (by show (2 : Int) * dl.toInt ≤ 16777215; omega) : ((own_fr (2 : Int32) dl) - (own_fr (1 : Int32) dl)) = dl)).1 (by decide) (by decide) ?_
      show Steps p.tables e below (T_18.setTop (mkF m 124 #[.val (.int p1), .val (.int p2), .val (.int (4 : Int32)), .val (.int (p2 &&& (2147483647 : Int32))), .val (.int dl), .val (.ref b_18)] [])) t
      refine XS.iloadN X_18.here hx rfl (hb hby at_124) rfl ?_
      show Steps p.tables e below (T_18.setTop (mkF m 125 #[.val (.int p1), .val (.int p2), .val (.int (4 : Int32)), .val (.int (p2 &&& (2147483647 : Int32))), .val (.int dl), .val (.ref b_18)] [(.int (4 : Int32))])) t
      refine XS.iconst X_18.here hx rfl (hb hby at_125) ?_
      show Steps p.tables e below (T_18.setTop (mkF m 126 #[.val (.int p1), .val (.int p2), .val (.int (4 : Int32)), .val (.int (p2 &&& (2147483647 : Int32))), .val (.int dl), .val (.ref b_18)] [(.int (4 : Int32)), (.int (4 : Int32))])) t
      refine XS.icmpNo X_18.here hx rfl (hb hby at_126) rfl (flt (by decide : ¬ ((4 : Int32) < (4 : Int32)))).1 ?_
      show Steps p.tables e below (T_18.setTop (mkF m 129 #[.val (.int p1), .val (.int p2), .val (.int (4 : Int32)), .val (.int (p2 &&& (2147483647 : Int32))), .val (.int dl), .val (.ref b_18)] [])) t
      refine XS.aload X_18.here hx rfl (hb hby at_129) rfl rfl ?_
      show Steps p.tables e below (T_18.setTop (mkF m 131 #[.val (.int p1), .val (.int p2), .val (.int (4 : Int32)), .val (.int (p2 &&& (2147483647 : Int32))), .val (.int dl), .val (.ref b_18)] [(.ref b_18)])) t
      refine XS.iconst X_18.here hx rfl (hb hby at_131) ?_
      exact kt
    have vq_25 := V_18
    obtain ⟨c_25, a_25, q_25, s_25, m_25, H_25, G_25⟩ := vq_25
    have hin_25 : ¬ ((0 : Int32) < 0 ∨ c_25.slots.size ≤ ((0 : Int32)).toNatClampNeg) := inb_of s_25 ⟨by decide, by decide⟩
    have hat_25 : c_25.slots[((0 : Int32)).toNatClampNeg]? = some (.int (own_fr (3 : Int32) dl)) := H_25.at hin_25 rfl
    refine own_go (T' := T_18) (g' := (mkF m 133 #[.val (.int p1), .val (.int p2), .val (.int (4 : Int32)), .val (.int (p2 &&& (2147483647 : Int32))), .val (.int dl), .val (.ref b_18)] [(.int (own_fr (3 : Int32) dl))])) (fun t kt => ?_) ?_
    · refine X_18.iaload hx (j := (0 : Int32)) (v := (.int (own_fr (3 : Int32) dl))) a_25.1 (State.isArrayOf_alike hZ.alike a_25.2.1) a_25.2.2 hin_25 hat_25 (g := (mkF m 132 #[.val (.int p1), .val (.int p2), .val (.int (4 : Int32)), .val (.int (p2 &&& (2147483647 : Int32))), .val (.int dl), .val (.ref b_18)] [(.int (0 : Int32)), (.ref b_18)])) rfl rfl (hb hby at_132) _ ?_
      exact kt
    refine own_go (T' := T_18) (g' := (mkF m 136 #[.val (.int p1), .val (.int p2), .val (.int (4 : Int32)), .val (.int (p2 &&& (2147483647 : Int32))), .val (.int dl), .val (.ref b_18)] [(.int (1 : Int32)), (.ref b_18), (.int (own_fr (3 : Int32) dl))])) (fun t kt => ?_) ?_
    · show Steps p.tables e below (T_18.setTop (mkF m 133 #[.val (.int p1), .val (.int p2), .val (.int (4 : Int32)), .val (.int (p2 &&& (2147483647 : Int32))), .val (.int dl), .val (.ref b_18)] [(.int (own_fr (3 : Int32) dl))])) t
      refine XS.aload X_18.here hx rfl (hb hby at_133) rfl rfl ?_
      show Steps p.tables e below (T_18.setTop (mkF m 135 #[.val (.int p1), .val (.int p2), .val (.int (4 : Int32)), .val (.int (p2 &&& (2147483647 : Int32))), .val (.int dl), .val (.ref b_18)] [(.ref b_18), (.int (own_fr (3 : Int32) dl))])) t
      refine XS.iconst X_18.here hx rfl (hb hby at_135) ?_
      exact kt
    have vq_26 := V_18
    obtain ⟨c_26, a_26, q_26, s_26, m_26, H_26, G_26⟩ := vq_26
    have hin_26 : ¬ ((1 : Int32) < 0 ∨ c_26.slots.size ≤ ((1 : Int32)).toNatClampNeg) := inb_of s_26 ⟨by decide, by decide⟩
    have hat_26 : c_26.slots[((1 : Int32)).toNatClampNeg]? = some (.int (own_fr (2 : Int32) dl)) := H_26.at hin_26 rfl
    refine own_go (T' := T_18) (g' := (mkF m 137 #[.val (.int p1), .val (.int p2), .val (.int (4 : Int32)), .val (.int (p2 &&& (2147483647 : Int32))), .val (.int dl), .val (.ref b_18)] [(.int (own_fr (2 : Int32) dl)), (.int (own_fr (3 : Int32) dl))])) (fun t kt => ?_) ?_
    · refine X_18.iaload hx (j := (1 : Int32)) (v := (.int (own_fr (2 : Int32) dl))) a_26.1 (State.isArrayOf_alike hZ.alike a_26.2.1) a_26.2.2 hin_26 hat_26 (g := (mkF m 136 #[.val (.int p1), .val (.int p2), .val (.int (4 : Int32)), .val (.int (p2 &&& (2147483647 : Int32))), .val (.int dl), .val (.ref b_18)] [(.int (1 : Int32)), (.ref b_18), (.int (own_fr (3 : Int32) dl))])) rfl rfl (hb hby at_136) _ ?_
      exact kt
    refine own_go (T' := T_18) (g' := (mkF m 146 #[.val (.int p1), .val (.int p2), .val (.int (4 : Int32)), .val (.int (p2 &&& (2147483647 : Int32))), .val (.int dl), .val (.ref b_18)] [(.int (1 : Int32))])) (fun t kt => ?_) ?_
    · show Steps p.tables e below (T_18.setTop (mkF m 137 #[.val (.int p1), .val (.int p2), .val (.int (4 : Int32)), .val (.int (p2 &&& (2147483647 : Int32))), .val (.int dl), .val (.ref b_18)] [(.int (own_fr (2 : Int32) dl)), (.int (own_fr (3 : Int32) dl))])) t
      refine XS.isub X_18.here hx rfl (hb hby at_137) rfl ?_
      show Steps p.tables e below (T_18.setTop (mkF m 138 #[.val (.int p1), .val (.int p2), .val (.int (4 : Int32)), .val (.int (p2 &&& (2147483647 : Int32))), .val (.int dl), .val (.ref b_18)] [(.int ((own_fr (3 : Int32) dl) - (own_fr (2 : Int32) dl)))])) t
      refine XS.iload X_18.here hx rfl (hb hby at_138) rfl ?_
      show Steps p.tables e below (T_18.setTop (mkF m 140 #[.val (.int p1), .val (.int p2), .val (.int (4 : Int32)), .val (.int (p2 &&& (2147483647 : Int32))), .val (.int dl), .val (.ref b_18)] [(.int dl), (.int ((own_fr (3 : Int32) dl) - (own_fr (2 : Int32) dl)))])) t
      refine XS.icmpYes X_18.here hx rfl (pc0 := 140) (pc' := 145) rfl (hb hby at_140) rfl (teq (own_step (2 : Int32) (3 : Int32) dl (by decide) (by decide) hd1 (by show (3 : Int) * dl.toInt ≤ 16777215; omega) : ((own_fr (3 : Int32) dl) - (own_fr (2 : Int32) dl)) = dl)).1 (by decide) (by decide) ?_
      show Steps p.tables e below (T_18.setTop (mkF m 145 #[.val (.int p1), .val (.int p2), .val (.int (4 : Int32)), .val (.int (p2 &&& (2147483647 : Int32))), .val (.int dl), .val (.ref b_18)] [])) t
      refine XS.iconst X_18.here hx rfl (hb hby at_145) ?_
      exact kt
    obtain ⟨fs, hr, hrun, hended, hW, hsame⟩ := X_18.leave (v := some (.int (1 : Int32))) (fun h => by rw [Bd.returns] at h; cases h)
    refine ⟨_, _, ?_, hrun, hended, _, _, rfl, ?_, ⟨_, rfl⟩, hW, hsame.mono (by decide) (by decide)⟩
    · exact retN X_18 hx (t := .boolean) Bd.returns (by simp) (hb hby at_146) hr
    · show Q_rm0 Z _ _ h0 n0 _ T_18.heap _
      exact ⟨rfl, N_18⟩
set_option maxRecDepth 65536 in
set_option maxHeartbeats 40000000 in
theorem comes_1 {Post : Tables → Env → Array Value → State → Outcome → State → Prop} (hpost : ∀ tb e args s v u, (limb_1_1.after args s (.returned v) u = true ∧ limb_1_2.after args s (.returned v) u = true ∧ True) → FrameEnd s (.returned v) u (Jvm.fieldLocs frame_1_writes args s ++ Jvm.arrayLocs frame_1_arrays args s ++ Jvm.staticLocs frame_1_statics s) 16 128 → Post tb e args s (.returned v) u) :
    ArmFor flags0 classFile x code maxLocals ret World_1 tables_1 room_1 Calls_1 rest_1 Pre_1 Post := by
  intro l hfl _ _ p e ha hc hk s m args below hf hA hF happ hP
  obtain ⟨hcalls, hrest, hpre⟩ := hP
  obtain ⟨-, -, -, hnamed, -, -, -, hat⟩ := (Spec.applies_iff hf).mp happ
  obtain ⟨hg, hn⟩ := and_e (Cond.before_iff.mp (show (Jvm.Cond.and given_1 narrow_1).before args s = true from hpre))
  obtain ⟨u0, v0⟩ := and_e hg
  obtain ⟨u1, v1⟩ := and_e v0
  obtain ⟨w0, w1, rfl⟩ : ∃ w0 w1 : Value, args = #[w0, w1] := by
    have hs : args.size = 2 := by simpa [Cond.value, given_1] using u0
    obtain ⟨L⟩ := args
    match L, hs with
    | [w0, w1], _ => exact ⟨w0, w1, rfl⟩
  have hw := fun d (hd : d ∈ tables_1) => atoms_spec (ws := Jvm.Cond.code x code maxLocals ret :: tables_1) hat d (List.mem_cons_of_mem _ hd)
  obtain ⟨i0, ei0⟩ := is_v u1
  obtain rfl : w0 = (.int i0) := Option.some.inj ei0
  obtain ⟨i1, ei1⟩ := is_v v1
  obtain rfl : w1 = (.int i1) := Option.some.inj ei1
  obtain ⟨n, o, h1, h2, h3, _, L, rfl, ⟨rfl, N⟩, hq⟩ := rm0 l s _ hw tables_1 i0 i1  s.heap s.heap.size (Nat.le_refl _)  p e ha hc hk s m _ below hf ((Spec.applies_iff_loose hf).mp happ).1 ⟨rfl, State.Warmed39.refl s, rfl⟩ trivial
  refine ⟨n, _, h1, h2, h3, hpost _ _ _ _ _ _ ⟨Cond.after_iff.mpr rfl, Cond.after_iff.mpr (eq_i res_at (Term.int_eval (1)) rfl), trivial⟩ ⟨hq.1, hq.2.1, (hq.2.2.sift fun y hy => Or.inr (N y hy)).mono (by decide) (by decide)⟩⟩
theorem main_1_1 : Claimed_1_1 := comes_1 fun _ _ _ _ _ _ h hF => ⟨h.1, hF⟩
theorem main_1_2 : Claimed_1_2 := comes_1 fun _ _ _ _ _ _ h hF => ⟨h.2.1, hF⟩
end Jvm.Pilot.@@N@@
namespace Jvm.Pilot.@@N@@
open Jvm Jvm.ClassFile Sem Op Lib Jvm.Free Jvm.Stand Jvm.Pilot.@@N@@.Jvm.D
/-! MADE BY PROGRAM (witnessworld.py) out of the Statement's table words and the real class files: 9 classes; the members and pool entries that the words name. The judged class is class 1, her method 1. -/
namespace start1
open Jvm.ClassFile
def u (s : String) : CpInfo := .utf8 (stringToUtf16 s)
/-- a pool by its gaps: so many unusable entries, then the entry; so many at the end -/
def gap : Nat → List CpInfo → List CpInfo
  | 0, r => r
  | n + 1, r => .unusable :: gap n r
def poolList (es : List (Nat × CpInfo)) (last : Nat) : List CpInfo := es.foldr (fun e r => gap e.1 (e.2 :: r)) (gap last [])
def pool (es : List (Nat × CpInfo)) (last : Nat) : Array CpInfo := ⟨poolList es last⟩
def fileOf (pool : Array CpInfo) (this : Nat) (attrs : Array Attribute := #[]) (ms : Array MethodInfo := #[]) (fl : Nat := 33) (sup : Nat := 0) (ifs : Array Nat := #[]) (fds : Array FieldInfo := #[]) : ClassFile where
  minorVersion := 0
  majorVersion := 65
  constantPool := pool
  accessFlags := fl
  thisClass := this
  superClass := sup
  interfaces := ifs
  fields := fds
  methods := ms
  attributes := attrs
def plain (name : String) (sup : Option ClassId) : Class where
  name := name
  kind := .ordinary
  loader := none
  accessFlags := 33
  super := sup
  interfaces := #[]
  cf := none
  fields := #[]
  methods := #[]
  instanceTypes := #[]
  staticTypes := #[]
  resolved := #[]
  callSites := []
  init := .initialized
  statics := none
  mirror := none

def pool0 : Array CpInfo := pool [(5, u "<init>"), (0, u "()V"), (1, .class_ 10), (1, u "java/lang/Object")] 113

def k0m0 : Method := { name := "<init>", desc := "()V", sig := { parameters := [], returnType := none }, accessFlags := 1, code := none }
/-- java/lang/Object -/
def k0 : Class := { plain "java/lang/Object" none with
  accessFlags := 33
  interfaces := #[]
  cf := some (fileOf pool0 8 #[] #[{ accessFlags := 1, nameIndex := 5, descriptorIndex := 6, attributes := #[] }] 33 0 #[] #[])
  fields := #[]
  methods := #[k0m0]
  instanceTypes := #[]
  staticTypes := #[]
  resolved := Array.replicate 124 none
  statics := none }

def pool1 : Array CpInfo := pool [(2, .class_ 4), (1, u "java/lang/Object"), (0, u "<init>"), (0, u "()V"), (0, .integer 2147483647), (0, .class_ 9), (0, u "com/example/orrery/orrery/Program"), (0, .integer 16777215), (0, .methodref 8 12), (0, .nameAndType 13 14), (0, u "deltaFreqs"), (0, u "(II)[I"), (0, .class_ 16), (0, u "com/example/orrery/orrery/ProgramDeltaFreqsPinLaw"), (2, u "law"), (0, u "(II)Z")] 5

def k1m0 : Method := { name := "<init>", desc := "()V", sig := { parameters := [], returnType := none }, accessFlags := 1, code := none }
def k1c1 : Code := { maxStack := 4, maxLocals := 6, code := code, exceptionTable := #[], attributes := #[] }
def k1m1 : Method := { name := "law", desc := "(II)Z", sig := { parameters := [.int, .int], returnType := some .boolean }, accessFlags := 9, code := some k1c1 }
/-- com/example/orrery/orrery/ProgramDeltaFreqsPinLaw -/
def k1 : Class := { plain "com/example/orrery/orrery/ProgramDeltaFreqsPinLaw" (some 0) with
  accessFlags := 49
  interfaces := #[]
  cf := some (fileOf pool1 15 #[] #[{ accessFlags := 1, nameIndex := 5, descriptorIndex := 6, attributes := #[] }, { accessFlags := 9, nameIndex := 19, descriptorIndex := 20, attributes := #[] }] 49 2 #[] #[])
  fields := #[]
  methods := #[k1m0, k1m1]
  instanceTypes := #[]
  staticTypes := #[]
  resolved := Array.replicate 26 none
  statics := none }

def pool2 : Array CpInfo := pool [(2, .class_ 4), (1, u "java/lang/Object"), (3, .class_ 10), (1, u "com/example/orrery/orrery/Program"), (0, u "pages"), (0, u "[I"), (2, u "disks"), (2, u "pageCount"), (0, u "I"), (2, u "sizes"), (2, u "freqs"), (8, u "unusedSlots"), (2, u "slotsByPage"), (2, u "slotsFrom"), (18, .long 16777216), (144, u "NO_PAGE"), (2, u "NO_DISK"), (1, u "MAX_PERIOD"), (0, u "WAIT_DECIMALS"), (8, u "deltaFreqs"), (0, u "(II)[I")] 50

def k2c0 : Code := { maxStack := 4, maxLocals := 6, code := prog_25_method_3_code, exceptionTable := #[], attributes := #[] }
def k2m0 : Method := { name := "deltaFreqs", desc := "(II)[I", sig := { parameters := [.int, .int], returnType := some (.array .int) }, accessFlags := 8, code := some k2c0 }
/-- com/example/orrery/orrery/Program -/
def k2 : Class := { plain "com/example/orrery/orrery/Program" (some 0) with
  accessFlags := 48
  interfaces := #[]
  cf := some (fileOf pool2 8 #[] #[{ accessFlags := 8, nameIndex := 219, descriptorIndex := 220, attributes := #[] }] 48 2 #[] #[{ accessFlags := 24, nameIndex := 204, descriptorIndex := 19, attributes := #[] }, { accessFlags := 24, nameIndex := 207, descriptorIndex := 19, attributes := #[] }, { accessFlags := 24, nameIndex := 209, descriptorIndex := 19, attributes := #[] }, { accessFlags := 24, nameIndex := 210, descriptorIndex := 19, attributes := #[] }, { accessFlags := 18, nameIndex := 11, descriptorIndex := 12, attributes := #[] }, { accessFlags := 18, nameIndex := 15, descriptorIndex := 12, attributes := #[] }, { accessFlags := 18, nameIndex := 18, descriptorIndex := 19, attributes := #[] }, { accessFlags := 18, nameIndex := 22, descriptorIndex := 12, attributes := #[] }, { accessFlags := 18, nameIndex := 25, descriptorIndex := 12, attributes := #[] }, { accessFlags := 18, nameIndex := 34, descriptorIndex := 19, attributes := #[] }, { accessFlags := 18, nameIndex := 37, descriptorIndex := 12, attributes := #[] }, { accessFlags := 18, nameIndex := 40, descriptorIndex := 12, attributes := #[] }])
  fields := #[{ name := "NO_PAGE", type := .int, accessFlags := 24, slot := 0, constantValue := 0 }, { name := "NO_DISK", type := .int, accessFlags := 24, slot := 1, constantValue := 0 }, { name := "MAX_PERIOD", type := .int, accessFlags := 24, slot := 2, constantValue := 0 }, { name := "WAIT_DECIMALS", type := .int, accessFlags := 24, slot := 3, constantValue := 0 }, { name := "pages", type := (.array .int), accessFlags := 18, slot := 0, constantValue := 0 }, { name := "disks", type := (.array .int), accessFlags := 18, slot := 1, constantValue := 0 }, { name := "pageCount", type := .int, accessFlags := 18, slot := 2, constantValue := 0 }, { name := "sizes", type := (.array .int), accessFlags := 18, slot := 3, constantValue := 0 }, { name := "freqs", type := (.array .int), accessFlags := 18, slot := 4, constantValue := 0 }, { name := "unusedSlots", type := .int, accessFlags := 18, slot := 5, constantValue := 0 }, { name := "slotsByPage", type := (.array .int), accessFlags := 18, slot := 6, constantValue := 0 }, { name := "slotsFrom", type := (.array .int), accessFlags := 18, slot := 7, constantValue := 0 }]
  methods := #[k2m0]
  instanceTypes := #[(.array .int), (.array .int), .int, (.array .int), (.array .int), .int, (.array .int), (.array .int)]
  staticTypes := #[.int, .int, .int, .int]
  resolved := Array.replicate 271 none
  statics := none }

def pool3 : Array CpInfo := pool [(1, u "java/lang/Cloneable"), (0, .class_ 1), (0, u "java/lang/Object"), (0, .class_ 3)] 3

/-- java/lang/Cloneable -/
def k3 : Class := { plain "java/lang/Cloneable" (some 0) with
  accessFlags := 1537
  interfaces := #[]
  cf := some (fileOf pool3 2 #[] #[] 1537 4 #[] #[])
  fields := #[]
  methods := #[]
  instanceTypes := #[]
  staticTypes := #[]
  resolved := Array.replicate 8 none
  statics := none }

def pool4 : Array CpInfo := pool [(1, u "java/io/Serializable"), (0, .class_ 1), (0, u "java/lang/Object"), (0, .class_ 3)] 3

/-- java/io/Serializable -/
def k4 : Class := { plain "java/io/Serializable" (some 0) with
  accessFlags := 1537
  interfaces := #[]
  cf := some (fileOf pool4 2 #[] #[] 1537 4 #[] #[])
  fields := #[]
  methods := #[]
  instanceTypes := #[]
  staticTypes := #[]
  resolved := Array.replicate 8 none
  statics := none }

/-- the primitive byte -/
def k5 : Class := { plain "byte" none with kind := .primitive 'B', accessFlags := 0x411 }
/-- [B -/
def k6 : Class := { plain "[B" (some 0) with kind := .array 5 .byte, interfaces := #[3, 4], accessFlags := 1041 }

/-- the primitive int -/
def k7 : Class := { plain "int" none with kind := .primitive 'I', accessFlags := 0x411 }
/-- [I -/
def k8 : Class := { plain "[I" (some 0) with kind := .array 7 .int, interfaces := #[3, 4], accessFlags := 1041 }

def heap : Heap := #[]
def classes : Array Class := #[k0, k1, k2, k3, k4, k5, k6, k7, k8]
def interned : List (Array UInt16 × Addr) := []
def slotsUsed : Nat := 0
def theMethod : MethodId := ⟨1, 1⟩
def args0 : Array Value := #[.int 5, .int 6]
def aboutOver (below : List Frame) : State where
  vm := { classes := classes, interned := interned.toArray }
  heap := heap
  slotsUsed := slotsUsed
  threads := #[{ frames := .invoking theMethod args0 :: below }]
def below0 : List Frame := [.native { method := ⟨0, 0⟩, args := #[] }]
def about1 : State := aboutOver below0
def p0 : Program := .bare "" "" ""
def e0 : Env := launch0.env 0 0 0
theorem w_frames : about1.frames = Frame.invoking theMethod args0 :: below0 := rfl
set_option maxRecDepth 65536 in
theorem w_args : argsFit about1.vm theMethod args0 = true := by decide +kernel
set_option maxRecDepth 65536 in
theorem w_heap : heapFits about1 = true := by decide +kernel
set_option maxRecDepth 65536 in
theorem w_runnable : about1.curStatus? = some .runnable := by decide +kernel
set_option maxRecDepth 65536 in
theorem w_alone : about1.alone = true := by decide +kernel
set_option maxRecDepth 65536 in
theorem w_named : about1.methodNamed? x = some theMethod := by decide +kernel
set_option maxRecDepth 65536 in
theorem w_hears : about1.hears theMethod below0 = true := by decide +kernel
set_option maxRecDepth 65536 in
theorem w_ripe : about1.ripe theMethod args0 below0 = true := by decide +kernel
theorem w_running : about1.status = .running := rfl
set_option maxRecDepth 65536 in
theorem w_room : about1.hasRoom e0.platform room_1 = true :=
  launch0.hasRoom_least _ room_1 (by decide +kernel) (by decide +kernel) (by decide +kernel) (by decide +kernel) (by decide +kernel) (by decide +kernel)
theorem allAtoms_all (ts : List Jvm.Cond) (a : Array Jvm.Value) (st : Jvm.State) : (allAtoms ts).before a st = ts.all (fun c => c.before a st) := by
  induction ts with
  | nil => rfl
  | cons c t ih =>
    show (Jvm.Cond.and c (allAtoms t)).before a st = _
    rw [Jvm.Cond.before_and, ih, List.all_cons]
def words1 : List Jvm.Cond := Jvm.Cond.code x code maxLocals ret :: tables_1
/-- a 'code' word, met by the world's own term for the bytes: nothing is compared byte by byte -/
theorem code_word {y : MethodName} {bytes : ByteArray} {mx : Nat} {rt : Option FieldType} {a : Array Value} {s : State} {m : MethodId} {meth : Method} {c : Code} (h1 : s.methodNamed? y = some m) (h2 : s.vm.method? m = some meth) (h3 : meth.code = some c) (h4 : c.code = bytes)
    (h5 : (c.maxLocals == mx && c.exceptionTable.isEmpty && decide (c.maxStack ≤ mostOperands) && decide (meth.sig.returnType = rt) && !meth.locks && decide (parseMethodDescriptor y.desc = some meth.sig)) = true) : (Jvm.Cond.code y bytes mx rt).before a s = true := by
  simp only [Bool.and_eq_true, beq_iff_eq, Bool.not_eq_true', decide_eq_true_eq] at h5
  obtain ⟨⟨⟨⟨⟨g1, g2⟩, g3⟩, g4⟩, g5⟩, g6⟩ := h5
  simp [Cond.before, Cond.holds, Cond.value, h1, h2, h3, h4, g1, g2, g3, g4, g5, g6]
def isCode : Jvm.Cond → Bool
  | .code _ _ _ _ => true
  | _ => false
theorem all_split {L : List Jvm.Cond} {P : Jvm.Cond → Bool} (h1 : L.all (fun c => isCode c || P c) = true) (h2 : ∀ c ∈ L.filter isCode, P c = true) : L.all P = true := by
  refine List.all_eq_true.mpr fun c hc => ?_
  have h := List.all_eq_true.mp h1 c hc
  rcases Bool.eq_false_or_eq_true (isCode c) with hi | hi
  · exact h2 c (List.mem_filter.mpr ⟨hc, hi⟩)
  · simpa [hi] using h
set_option maxRecDepth 65536 in
theorem w_c0 : (Jvm.Cond.code x code maxLocals ret).before args0 about1 = true := code_word (m := ⟨1, 1⟩) (meth := k1m1) (c := k1c1) (by decide +kernel) rfl rfl rfl (by decide +kernel)
set_option maxRecDepth 65536 in
theorem w_c1 : (Jvm.Cond.code ({ cls := "com/example/orrery/orrery/Program", name := "deltaFreqs", desc := "(II)[I" } : Jvm.MethodName) prog_25_method_3_code (6 : Nat) (Option.some (Jvm.ClassFile.FieldType.array Jvm.ClassFile.FieldType.int))).before args0 about1 = true := code_word (m := ⟨2, 0⟩) (meth := k2m0) (c := k2c0) (by decide +kernel) rfl rfl rfl (by decide +kernel)
def codes1 : List Jvm.Cond := [Jvm.Cond.code x code maxLocals ret, Jvm.Cond.code ({ cls := "com/example/orrery/orrery/Program", name := "deltaFreqs", desc := "(II)[I" } : Jvm.MethodName) prog_25_method_3_code (6 : Nat) (Option.some (Jvm.ClassFile.FieldType.array Jvm.ClassFile.FieldType.int))]
set_option maxRecDepth 65536 in
theorem codes_eq : words1.filter isCode = codes1 := rfl
theorem w_codes : ∀ c ∈ words1.filter isCode, c.before args0 about1 = true := by
  rw [codes_eq]
  intro c hc
  simp only [codes1, List.mem_cons, List.not_mem_nil, or_false] at hc
  rcases hc with rfl | rfl
  · exact w_c0
  · exact w_c1
set_option maxRecDepth 65536 in
theorem w_t1 : words1.all (fun c => isCode c || c.before args0 about1) = true := by decide +kernel
theorem w_tables : (allAtoms (Jvm.Cond.code x code maxLocals ret :: tables_1)).before args0 about1 = true := by
  rw [allAtoms_all]
  show words1.all (fun c => c.before args0 about1) = true
  refine all_split ?_ w_codes
  rw [w_t1]
set_option maxRecDepth 65536 in
theorem w_case : (Jvm.Cond.and given_1 narrow_1).before args0 about1 = true := by decide +kernel
theorem w_applies : (headSpec (Jvm.Cond.code x code maxLocals ret :: tables_1) room_1).applies x e0.platform about1 = true :=
  (Spec.applies_iff w_frames).mpr ⟨w_running, w_runnable, w_alone, w_named, w_hears, w_ripe, w_room, w_tables⟩
theorem atStart : AtStart classFile x code maxLocals ret World_1 tables_1 room_1 Calls_1 rest_1 Pre_1 launch0 p0 e0 about1 theMethod args0 below0 :=
  ⟨lists_1, trivial, launch0.admits_env _ _ _, launch0.least_env, fairChoices_fair.cas, fairChoices_fair.clock, w_frames, w_args, w_heap, w_applies, trivial, trivial, w_case⟩
end start1
theorem witness_1 : WitnessClaimed_1 := ⟨start1.p0, start1.e0, start1.about1, start1.theMethod, start1.args0, start1.below0, start1.atStart⟩
end Jvm.Pilot.@@N@@
