import JvmDerived
import JvmDerived.Pilot.@@N@@Statement
import JvmDerived.Pilot.@@N@@Code
set_option linter.unusedVariables false
set_option linter.unusedSimpArgs false
namespace Jvm.RoadKit
open Sem ClassFile Op Lib Jvm.Stand Jvm.Free Jvm.LawKit
section New
variable {p : Program} {l : Launch} {e : Env} {R : Room} {s : State} {m : MethodId} {args : Array Value} {below : List Frame} {meth : Method} {c : Code} {T : State} {locs : List Loc} {cells slots : Nat}
theorem retI (X : Stand p l e R s m args below meth c T locs cells slots) (hx : p.tables.exec = Jvm.exec) {pc : Nat} {Ls : Array Slot} {z : Int32} {rest : List Value} (hret : meth.sig.returnType = some .int) (hd : decode c.code pc = .ok (.ireturn, 1)) {fs : List Frame}
    (hl : ∀ (f : JFrame) (acts : List Action), f.method = m → f.locked = none → f.entered = [] → (doReturn e (T.setTop f) acts (some (.int z))).1 = T.setFrames fs) : Steps p.tables e below (T.setTop (mkF m pc Ls (.int z :: rest))) (T.setFrames fs) := by
  have hm' : T.vm.method? m = some meth := X.method'
  have hn : narrow .int (.int z) = .int z := rfl
  show Steps p.tables e below (T.setTop { method := m, pc := pc, locals := Ls, stack := _ :: rest, locked := none }) _
  jvm_step X.here [X.here.top, hx, hd, hm', hret, hn]
  first | (intro acts; rw [hl _ acts rfl rfl rfl]) | rw [hl _ _ rfl rfl rfl]
  exact Steps.refl _
end New
end Jvm.RoadKit
namespace Jvm.Pilot.@@N@@
open Jvm Jvm.ClassFile Sem Op Lib Jvm.Free Jvm.Stand Jvm.LawKit Jvm.RoadKit Bundle Jvm.Pilot.@@N@@.Jvm.D
theorem own_go {tb : Tables} {e : Env} {below : List Frame} {T T' : State} {g g' : JFrame} {P : State → Outcome → Prop} (st : ∀ t, Steps tb e below (T'.setTop g') t → Steps tb e below (T.setTop g) t) (k : ∃ s₂ o, Steps tb e below (T'.setTop g') s₂ ∧ P s₂ o) : ∃ s₂ o, Steps tb e below (T.setTop g) s₂ ∧ P s₂ o := by
  obtain ⟨s₂, o, h, r⟩ := k
  exact ⟨s₂, o, st _ h, r⟩
theorem own_mvM {Z s : State} {a0 args : Array Value} {own host : String} {index : Nat} {y : MethodName} (hZ : Z.Warmed39 s.vm) (w : (Jvm.Cond.methodLinkNest own index y host).before a0 Z = true) : (Jvm.Cond.methodLinkNest own index y host).before args s = true := (Cond.methodLinkNest_wide hZ w :)
theorem own_getR {p : Program} {l : Launch} {e : Env} {R : Room} {s : State} {m : MethodId} {args : Array Value} {below : List Frame} {meth : Method} {c : Code} {T : State} {locs : List Loc} {cells slots : Nat} {Z : State} {a0 : Array Value} {h : Heap} (X : Stand p l e R s m args below meth c T locs cells slots) (hx : p.tables.exec = Jvm.exec) (hZ : Z.Warmed39 s.vm) {own O n d : String} {index : Nat} (hown : s.vm.findClass own = some m.cls) (w : (Jvm.Cond.fieldRef own index O n d).before a0 Z = true) (eT : T.heap = h) {a : Addr} {v : Value} (F : Fld Z h a O n d v) {g : JFrame} (hg : g.method = m) {rest : List Value} (hs : g.stack = .ref a :: rest) (hd : decode c.code g.pc = .ok (.getfield index, 3)) :
    ∀ target, Steps p.tables e below (T.setTop { g with pc := g.pc + 3, stack := v :: rest }) target → Steps p.tables e below (T.setTop g) target := by
  intro target kt
  obtain ⟨cell, cf, k, i, f, h1, h2, h3, h4, -, -, h7⟩ := F
  have hT : Z.Warmed39 T.vm := wtrans hZ X.warmed
  have w' := Cond.fieldRef_warmed39 hT w
  have hf : (Z.setVm T.vm).vm.findClass own = some m.cls := by
    show T.vm.findClass own = some m.cls
    rw [X.warmed.alike.findClass]; exact hown
  obtain ⟨c', k', i', f', q1, q2⟩ := Cond.fieldRef_spec hf w'
  obtain ⟨k'', q3, -⟩ := State.fieldFound?_setVm (s := Z) hT.alike h2
  cases q1.symm.trans q3
  exact (X.getfieldR hx hg q2 h3 hs (by rw [eT]; exact h1) h4 h7 hd (Steps.refl _)).trans kt
theorem pn_1 : plainName "com/example/repco/repco/service/TransitionGraph$Builder" = true := by first | (simp [plainName, overriddenIn]; done) | decide +kernel
theorem ef_1 (m : MethodId) (x0 : Addr) : entryFrame m #[(.ref x0)] 1 = mkF m 0 #[.val (.ref x0)] [] := by first | (simp [entryFrame, mkF, argsToLocals, Value.category]; done) | rfl
def Q_rbi (Z : State) (a1 : Addr) (h0 : Heap) (n0 : Nat) (v : Option Value) (h : Heap) (L : List Loc) : Prop := ∃ x1 x2 x3 k1 k2 k3, v = none ∧ Fr n0 L ∧ Keep h0 h [a1] ∧ h0.size ≤ x1 ∧ h0.size ≤ x2 ∧ h0.size ≤ x3 ∧ x1 ≠ x2 ∧ x1 ≠ x3 ∧ x2 ≠ x3 ∧ Fld Z h a1 "com/example/repco/repco/service/TransitionGraph$Builder" "first" "[I" (.ref x1) ∧ Fld Z h a1 "com/example/repco/repco/service/TransitionGraph$Builder" "labels" "[I" (.ref x2) ∧ Fld Z h a1 "com/example/repco/repco/service/TransitionGraph$Builder" "targets" "[I" (.ref x3) ∧ Fld Z h a1 "com/example/repco/repco/service/TransitionGraph$Builder" "size" "I" (.int (0 : Int32)) ∧ Fld Z h a1 "com/example/repco/repco/service/TransitionGraph$Builder" "nodes" "I" (.int (0 : Int32)) ∧ Arv Z h x1 k1 .int (16 : Int32) [(.int (0 : Int32)), (.int (0 : Int32)), (.int (0 : Int32)), (.int (0 : Int32)), (.int (0 : Int32)), (.int (0 : Int32)), (.int (0 : Int32)), (.int (0 : Int32)), (.int (0 : Int32)), (.int (0 : Int32)), (.int (0 : Int32)), (.int (0 : Int32)), (.int (0 : Int32)), (.int (0 : Int32)), (.int (0 : Int32)), (.int (0 : Int32))] (.int (0 : Int32)) ∧ Arv Z h x2 k2 .int (16 : Int32) [(.int (0 : Int32)), (.int (0 : Int32)), (.int (0 : Int32)), (.int (0 : Int32)), (.int (0 : Int32)), (.int (0 : Int32)), (.int (0 : Int32)), (.int (0 : Int32)), (.int (0 : Int32)), (.int (0 : Int32)), (.int (0 : Int32)), (.int (0 : Int32)), (.int (0 : Int32)), (.int (0 : Int32)), (.int (0 : Int32)), (.int (0 : Int32))] (.int (0 : Int32)) ∧ Arv Z h x3 k3 .int (16 : Int32) [(.int (0 : Int32)), (.int (0 : Int32)), (.int (0 : Int32)), (.int (0 : Int32)), (.int (0 : Int32)), (.int (0 : Int32)), (.int (0 : Int32)), (.int (0 : Int32)), (.int (0 : Int32)), (.int (0 : Int32)), (.int (0 : Int32)), (.int (0 : Int32)), (.int (0 : Int32)), (.int (0 : Int32)), (.int (0 : Int32)), (.int (0 : Int32))] (.int (0 : Int32))
theorem d1_0 : decode prog_57_method_1_code 0 = .ok (.aload_n 0, 1) := by decide +kernel
theorem d1_1 : decode prog_57_method_1_code 1 = .ok (.invokespecial 1, 3) := by decide +kernel
theorem d1_4 : decode prog_57_method_1_code 4 = .ok (.aload_n 0, 1) := by decide +kernel
theorem d1_5 : decode prog_57_method_1_code 5 = .ok (.bipush 16, 2) := by decide +kernel
theorem d1_7 : decode prog_57_method_1_code 7 = .ok (.newarray .int, 2) := by decide +kernel
theorem d1_9 : decode prog_57_method_1_code 9 = .ok (.putfield 7, 3) := by decide +kernel
theorem d1_12 : decode prog_57_method_1_code 12 = .ok (.aload_n 0, 1) := by decide +kernel
theorem d1_13 : decode prog_57_method_1_code 13 = .ok (.bipush 16, 2) := by decide +kernel
theorem d1_15 : decode prog_57_method_1_code 15 = .ok (.newarray .int, 2) := by decide +kernel
theorem d1_17 : decode prog_57_method_1_code 17 = .ok (.putfield 13, 3) := by decide +kernel
theorem d1_20 : decode prog_57_method_1_code 20 = .ok (.aload_n 0, 1) := by decide +kernel
theorem d1_21 : decode prog_57_method_1_code 21 = .ok (.bipush 16, 2) := by decide +kernel
theorem d1_23 : decode prog_57_method_1_code 23 = .ok (.newarray .int, 2) := by decide +kernel
theorem d1_25 : decode prog_57_method_1_code 25 = .ok (.putfield 16, 3) := by decide +kernel
theorem d1_28 : decode prog_57_method_1_code 28 = .ok (.return_, 1) := by decide +kernel
set_option maxRecDepth 65536 in
set_option maxHeartbeats 40000000 in
theorem rbi (l : Launch) (Z : State) (a0 : Array Value) (hw : ∀ d ∈ tables_1, d.before a0 Z = true) (ws : List Jvm.Cond) (a1 : Addr) (h0 : Heap) (n0 : Nat) (Z0 : n0 ≤ h0.size) (E_a1 : Exa Z h0 a1 "com/example/repco/repco/service/TransitionGraph$Builder") (F1 : Fld Z h0 a1 "com/example/repco/repco/service/TransitionGraph$Builder" "first" "[I" .null) (F2 : Fld Z h0 a1 "com/example/repco/repco/service/TransitionGraph$Builder" "labels" "[I" .null) (F3 : Fld Z h0 a1 "com/example/repco/repco/service/TransitionGraph$Builder" "targets" "[I" .null) (F4 : Fld Z h0 a1 "com/example/repco/repco/service/TransitionGraph$Builder" "size" "I" (.int (0 : Int32))) (F5 : Fld Z h0 a1 "com/example/repco/repco/service/TransitionGraph$Builder" "nodes" "I" (.int (0 : Int32))) (g_a1 : n0 ≤ a1) :
    MetFree l (⟨"com/example/repco/repco/service/TransitionGraph$Builder", "<init>", "()V"⟩ : MethodName) (head1 (Jvm.Cond.code (⟨"com/example/repco/repco/service/TransitionGraph$Builder", "<init>", "()V"⟩ : MethodName) prog_57_method_1_code 1 none :: ws) ({ frames := 1, cells := 3, slots := 48, locals := 12 } : Room)) (fun a U => a = #[(.ref a1)] ∧ Z.Warmed39 U.vm ∧ U.heap = h0) (fun _ _ _ _ _ => True) (fun _ U o U' => ∃ v L, o = .returned v ∧ Q_rbi Z a1 h0 n0 v U'.heap L ∧ FrameEnd U o U' L ({ frames := 1, cells := 3, slots := 48, locals := 12 } : Room).cells ({ frames := 1, cells := 3, slots := 48, locals := 12 } : Room).slots) := by
  refine MetFree.of_bodySF (plainFor_of_name pn_1) hisR ?_
  intro p e s m args below meth c s₁ Bd hml0 hP hK
  obtain ⟨rfl, hZ, hh⟩ := hP
  have hx := Bd.exec
  have hby := Bd.bytes
  have hml : c.maxLocals = 1 := hml0
  have hown : s.vm.findClass "com/example/repco/repco/service/TransitionGraph$Builder" = some m.cls := findClass_of_methodNamed Bd.named
  have hnm := (name_of_methodNamed Bd.named Bd.method).1
  have X0 : Stand p l e ({ frames := 1, cells := 3, slots := 48, locals := 12 } : Room) s m #[(.ref a1)] below meth c s₁ [] 0 0 := Stand.of_body Bd
  have e0 : s₁.heap = h0 := by rw [← hh, Bd.state]; rfl
  have N0 := Fr.nil n0
  refine own_go (g' := (mkF m 0 #[.val (.ref a1)] [])) (fun t k => castTop (ef_1 m (a1)) k) ?_
  refine own_go (T' := s₁) (g' := (mkF m 1 #[.val (.ref a1)] [(.ref a1)])) (fun t kt => ?_) ?_
  · show Steps p.tables e below (s₁.setTop (mkF m 0 #[.val (.ref a1)] [])) t
    refine XS.aloadN X0.here hx rfl (hb hby d1_0) rfl rfl ?_
    exact kt
  obtain ⟨T_1, X_1, e_1, st_1⟩ := initO X0 hx hZ hown (hw _ (List.mem_of_getElem? (i := 6) rfl)) (hw _ (List.mem_of_getElem? (i := 7) rfl)) (hw _ (List.mem_of_getElem? (i := 8) rfl)) e0 (g := (mkF m 1 #[.val (.ref a1)] [(.ref a1)])) rfl (by rw [hml]; rfl) rfl (hb hby d1_1) (by decide) (W := 0) (by show 2 * 0 + _ ≤ _; exact Nat.le_of_eq rfl) (by decide)
  refine own_go (g' := (mkF m 4 #[.val (.ref a1)] [])) st_1 ?_
  refine own_go (T' := T_1) (g' := (mkF m 7 #[.val (.ref a1)] [(.int (16 : Int32)), (.ref a1)])) (fun t kt => ?_) ?_
  · show Steps p.tables e below (T_1.setTop (mkF m 4 #[.val (.ref a1)] [])) t
    refine XS.aloadN X_1.here hx rfl (hb hby d1_4) rfl rfl ?_
    show Steps p.tables e below (T_1.setTop (mkF m 5 #[.val (.ref a1)] [(.ref a1)])) t
    refine XS.bipush X_1.here hx rfl (hb hby d1_5) ?_
    exact kt
  obtain ⟨T_2, h_2, k_2, X_2, e_2, E_2, A_2, B_2, st_2⟩ := newPE X_1 hx hZ (hw _ (List.mem_of_getElem? (i := 9) rfl)) e_1 (g := (mkF m 7 #[.val (.ref a1)] [(.int (16 : Int32)), (.ref a1)])) rfl (hb hby d1_7) rfl (by decide) (cap := 16) (by decide) (by decide) (by decide) (by decide) (ad := "[I") (by decide)
  obtain ⟨b_2, g_2⟩ : ∃ z, z = h0.size := ⟨_, rfl⟩
  rw [← g_2] at A_2 B_2 st_2
  have ne_a1_b_2 : a1 ≠ b_2 := Nat.ne_of_lt (Nat.lt_of_lt_of_le E_a1.lt (Nat.le_of_eq g_2.symm))
  have g_b_2 : n0 ≤ b_2 := Nat.le_trans Z0 (Nat.le_of_eq g_2.symm)
  have sz_b_2 : h0.size ≤ b_2 := Nat.le_trans (Keep.refl h0 [a1]).1 (Nat.le_of_eq g_2.symm)
  have Z_2 : n0 ≤ h_2.size := Nat.le_trans Z0 E_2.1
  have kk_2 : Keep h0 h_2 [a1] := (Keep.refl h0 [a1]).ext E_2
  have V_2 : Arv Z h_2 b_2 k_2 .int (16 : Int32) [(.int (0 : Int32)), (.int (0 : Int32)), (.int (0 : Int32)), (.int (0 : Int32)), (.int (0 : Int32)), (.int (0 : Int32)), (.int (0 : Int32)), (.int (0 : Int32)), (.int (0 : Int32)), (.int (0 : Int32)), (.int (0 : Int32)), (.int (0 : Int32)), (.int (0 : Int32)), (.int (0 : Int32)), (.int (0 : Int32)), (.int (0 : Int32))] (.int (0 : Int32)) := (Arv.new A_2 (by decide)).pad (pad_rep [] (.int (0 : Int32)) 16)
  refine own_go (g' := (mkF m 9 #[.val (.ref a1)] [(.ref b_2), (.ref a1)])) st_2 ?_
  have f_4 := (E_a1.ext E_2)
  have f_5 := (F1.ext E_2)
  obtain ⟨T_3, h_3, X_3, e_3, W_3, st_3⟩ := putF X_2 hx hZ hown (host := "") (Or.inl (hw _ (List.mem_of_getElem? (i := 10) rfl))) Via.refl e_2 f_5 f_4 (Or.inl (hw _ (List.mem_of_getElem? (i := 11) rfl))) (hw _ (List.mem_of_getElem? (i := 1) rfl)) (ty := (.array .int)) (by decide) rfl rfl (g := (mkF m 9 #[.val (.ref a1)] [(.ref b_2), (.ref a1)])) rfl rfl (hb hby d1_9)
  have Fw_3 := f_5.same W_3
  have Z_3 : n0 ≤ h_3.size := Nat.le_trans Z_2 (Keep.of_wr W_3).1
  have kk_3 : Keep h0 h_3 [a1] := kk_2.wr W_3 (Or.inl (List.mem_of_getElem? (i := 0) rfl))
  have N_3 := Fr.snoc X_3 N0 g_a1
  refine own_go (g' := (mkF m 12 #[.val (.ref a1)] [])) st_3 ?_
  refine own_go (T' := T_3) (g' := (mkF m 15 #[.val (.ref a1)] [(.int (16 : Int32)), (.ref a1)])) (fun t kt => ?_) ?_
  · show Steps p.tables e below (T_3.setTop (mkF m 12 #[.val (.ref a1)] [])) t
    refine XS.aloadN X_3.here hx rfl (hb hby d1_12) rfl rfl ?_
    show Steps p.tables e below (T_3.setTop (mkF m 13 #[.val (.ref a1)] [(.ref a1)])) t
    refine XS.bipush X_3.here hx rfl (hb hby d1_13) ?_
    exact kt
  obtain ⟨T_6, h_6, k_6, X_6, e_6, E_6, A_6, B_6, st_6⟩ := newPE X_3 hx hZ (hw _ (List.mem_of_getElem? (i := 9) rfl)) e_3 (g := (mkF m 15 #[.val (.ref a1)] [(.int (16 : Int32)), (.ref a1)])) rfl (hb hby d1_15) rfl (by decide) (cap := 16) (by decide) (by decide) (by decide) (by decide) (ad := "[I") (by decide)
  obtain ⟨b_6, g_6⟩ : ∃ z, z = h_3.size := ⟨_, rfl⟩
  rw [← g_6] at A_6 B_6 st_6
  have f_7 := (f_4.wr W_3)
  have ne_a1_b_6 : a1 ≠ b_6 := Nat.ne_of_lt (Nat.lt_of_lt_of_le f_7.lt (Nat.le_of_eq g_6.symm))
  have f_8 := (B_2.wr W_3)
  have ne_b_2_b_6 : b_2 ≠ b_6 := Nat.ne_of_lt (Nat.lt_of_lt_of_le f_8.lt (Nat.le_of_eq g_6.symm))
  have g_b_6 : n0 ≤ b_6 := Nat.le_trans Z_3 (Nat.le_of_eq g_6.symm)
  have sz_b_6 : h0.size ≤ b_6 := Nat.le_trans kk_3.1 (Nat.le_of_eq g_6.symm)
  have Z_6 : n0 ≤ h_6.size := Nat.le_trans Z_3 E_6.1
  have kk_6 : Keep h0 h_6 [a1] := kk_3.ext E_6
  have V_6 : Arv Z h_6 b_6 k_6 .int (16 : Int32) [(.int (0 : Int32)), (.int (0 : Int32)), (.int (0 : Int32)), (.int (0 : Int32)), (.int (0 : Int32)), (.int (0 : Int32)), (.int (0 : Int32)), (.int (0 : Int32)), (.int (0 : Int32)), (.int (0 : Int32)), (.int (0 : Int32)), (.int (0 : Int32)), (.int (0 : Int32)), (.int (0 : Int32)), (.int (0 : Int32)), (.int (0 : Int32))] (.int (0 : Int32)) := (Arv.new A_6 (by decide)).pad (pad_rep [] (.int (0 : Int32)) 16)
  refine own_go (g' := (mkF m 17 #[.val (.ref a1)] [(.ref b_6), (.ref a1)])) st_6 ?_
  have f_10 := (f_7.ext E_6)
  have f_11 := (((F2.ext E_2).other W_3 (Or.inr (slot_ne (Or.inl (hw _ (List.mem_of_getElem? (i := 13) rfl))) (Or.inl (hw _ (List.mem_of_getElem? (i := 11) rfl))) (by decide) (t := (.array .int)) (t' := (.array .int)) (by decide) (by decide)))).ext E_6)
  obtain ⟨T_9, h_9, X_9, e_9, W_9, st_9⟩ := putF X_6 hx hZ hown (host := "") (Or.inl (hw _ (List.mem_of_getElem? (i := 12) rfl))) Via.refl e_6 f_11 f_10 (Or.inl (hw _ (List.mem_of_getElem? (i := 13) rfl))) (hw _ (List.mem_of_getElem? (i := 1) rfl)) (ty := (.array .int)) (by decide) rfl rfl (g := (mkF m 17 #[.val (.ref a1)] [(.ref b_6), (.ref a1)])) rfl rfl (hb hby d1_17)
  have Fw_9 := f_11.same W_9
  have Z_9 : n0 ≤ h_9.size := Nat.le_trans Z_6 (Keep.of_wr W_9).1
  have kk_9 : Keep h0 h_9 [a1] := kk_6.wr W_9 (Or.inl (List.mem_of_getElem? (i := 0) rfl))
  have N_9 := Fr.snoc X_9 N_3 g_a1
  refine own_go (g' := (mkF m 20 #[.val (.ref a1)] [])) st_9 ?_
  refine own_go (T' := T_9) (g' := (mkF m 23 #[.val (.ref a1)] [(.int (16 : Int32)), (.ref a1)])) (fun t kt => ?_) ?_
  · show Steps p.tables e below (T_9.setTop (mkF m 20 #[.val (.ref a1)] [])) t
    refine XS.aloadN X_9.here hx rfl (hb hby d1_20) rfl rfl ?_
    show Steps p.tables e below (T_9.setTop (mkF m 21 #[.val (.ref a1)] [(.ref a1)])) t
    refine XS.bipush X_9.here hx rfl (hb hby d1_21) ?_
    exact kt
  obtain ⟨T_12, h_12, k_12, X_12, e_12, E_12, A_12, B_12, st_12⟩ := newPE X_9 hx hZ (hw _ (List.mem_of_getElem? (i := 9) rfl)) e_9 (g := (mkF m 23 #[.val (.ref a1)] [(.int (16 : Int32)), (.ref a1)])) rfl (hb hby d1_23) rfl (by decide) (cap := 16) (by decide) (by decide) (by decide) (by decide) (ad := "[I") (by decide)
  obtain ⟨b_12, g_12⟩ : ∃ z, z = h_9.size := ⟨_, rfl⟩
  rw [← g_12] at A_12 B_12 st_12
  have f_13 := (f_10.wr W_9)
  have ne_a1_b_12 : a1 ≠ b_12 := Nat.ne_of_lt (Nat.lt_of_lt_of_le f_13.lt (Nat.le_of_eq g_12.symm))
  have f_14 := ((f_8.ext E_6).wr W_9)
  have ne_b_2_b_12 : b_2 ≠ b_12 := Nat.ne_of_lt (Nat.lt_of_lt_of_le f_14.lt (Nat.le_of_eq g_12.symm))
  have f_15 := (B_6.wr W_9)
  have ne_b_6_b_12 : b_6 ≠ b_12 := Nat.ne_of_lt (Nat.lt_of_lt_of_le f_15.lt (Nat.le_of_eq g_12.symm))
  have g_b_12 : n0 ≤ b_12 := Nat.le_trans Z_9 (Nat.le_of_eq g_12.symm)
  have sz_b_12 : h0.size ≤ b_12 := Nat.le_trans kk_9.1 (Nat.le_of_eq g_12.symm)
  have Z_12 : n0 ≤ h_12.size := Nat.le_trans Z_9 E_12.1
  have kk_12 : Keep h0 h_12 [a1] := kk_9.ext E_12
  have V_12 : Arv Z h_12 b_12 k_12 .int (16 : Int32) [(.int (0 : Int32)), (.int (0 : Int32)), (.int (0 : Int32)), (.int (0 : Int32)), (.int (0 : Int32)), (.int (0 : Int32)), (.int (0 : Int32)), (.int (0 : Int32)), (.int (0 : Int32)), (.int (0 : Int32)), (.int (0 : Int32)), (.int (0 : Int32)), (.int (0 : Int32)), (.int (0 : Int32)), (.int (0 : Int32)), (.int (0 : Int32))] (.int (0 : Int32)) := (Arv.new A_12 (by decide)).pad (pad_rep [] (.int (0 : Int32)) 16)
  refine own_go (g' := (mkF m 25 #[.val (.ref a1)] [(.ref b_12), (.ref a1)])) st_12 ?_
  have f_17 := (f_13.ext E_12)
  have f_18 := (((((F3.ext E_2).other W_3 (Or.inr (slot_ne (Or.inl (hw _ (List.mem_of_getElem? (i := 15) rfl))) (Or.inl (hw _ (List.mem_of_getElem? (i := 11) rfl))) (by decide) (t := (.array .int)) (t' := (.array .int)) (by decide) (by decide)))).ext E_6).other W_9 (Or.inr (slot_ne (Or.inl (hw _ (List.mem_of_getElem? (i := 15) rfl))) (Or.inl (hw _ (List.mem_of_getElem? (i := 13) rfl))) (by decide) (t := (.array .int)) (t' := (.array .int)) (by decide) (by decide)))).ext E_12)
  obtain ⟨T_16, h_16, X_16, e_16, W_16, st_16⟩ := putF X_12 hx hZ hown (host := "") (Or.inl (hw _ (List.mem_of_getElem? (i := 14) rfl))) Via.refl e_12 f_18 f_17 (Or.inl (hw _ (List.mem_of_getElem? (i := 15) rfl))) (hw _ (List.mem_of_getElem? (i := 1) rfl)) (ty := (.array .int)) (by decide) rfl rfl (g := (mkF m 25 #[.val (.ref a1)] [(.ref b_12), (.ref a1)])) rfl rfl (hb hby d1_25)
  have Fw_16 := f_18.same W_16
  have Z_16 : n0 ≤ h_16.size := Nat.le_trans Z_12 (Keep.of_wr W_16).1
  have kk_16 : Keep h0 h_16 [a1] := kk_12.wr W_16 (Or.inl (List.mem_of_getElem? (i := 0) rfl))
  have N_16 := Fr.snoc X_16 N_9 g_a1
  refine own_go (g' := (mkF m 28 #[.val (.ref a1)] [])) st_16 ?_
  have f_19 := ((((Fw_3.ext E_6).other W_9 (Or.inr (slot_ne (Or.inl (hw _ (List.mem_of_getElem? (i := 11) rfl))) (Or.inl (hw _ (List.mem_of_getElem? (i := 13) rfl))) (by decide) (t := (.array .int)) (t' := (.array .int)) (by decide) (by decide)))).ext E_12).other W_16 (Or.inr (slot_ne (Or.inl (hw _ (List.mem_of_getElem? (i := 11) rfl))) (Or.inl (hw _ (List.mem_of_getElem? (i := 15) rfl))) (by decide) (t := (.array .int)) (t' := (.array .int)) (by decide) (by decide))))
  have f_20 := ((Fw_9.ext E_12).other W_16 (Or.inr (slot_ne (Or.inl (hw _ (List.mem_of_getElem? (i := 13) rfl))) (Or.inl (hw _ (List.mem_of_getElem? (i := 15) rfl))) (by decide) (t := (.array .int)) (t' := (.array .int)) (by decide) (by decide))))
  have f_21 := ((((((F4.ext E_2).other W_3 (Or.inr (slot_ne (Or.inl (hw _ (List.mem_of_getElem? (i := 22) rfl))) (Or.inl (hw _ (List.mem_of_getElem? (i := 11) rfl))) (by decide) (t := .int) (t' := (.array .int)) (by decide) (by decide)))).ext E_6).other W_9 (Or.inr (slot_ne (Or.inl (hw _ (List.mem_of_getElem? (i := 22) rfl))) (Or.inl (hw _ (List.mem_of_getElem? (i := 13) rfl))) (by decide) (t := .int) (t' := (.array .int)) (by decide) (by decide)))).ext E_12).other W_16 (Or.inr (slot_ne (Or.inl (hw _ (List.mem_of_getElem? (i := 22) rfl))) (Or.inl (hw _ (List.mem_of_getElem? (i := 15) rfl))) (by decide) (t := .int) (t' := (.array .int)) (by decide) (by decide))))
  have f_22 := ((((((F5.ext E_2).other W_3 (Or.inr (slot_ne (Or.inl (hw _ (List.mem_of_getElem? (i := 65) rfl))) (Or.inl (hw _ (List.mem_of_getElem? (i := 11) rfl))) (by decide) (t := .int) (t' := (.array .int)) (by decide) (by decide)))).ext E_6).other W_9 (Or.inr (slot_ne (Or.inl (hw _ (List.mem_of_getElem? (i := 65) rfl))) (Or.inl (hw _ (List.mem_of_getElem? (i := 13) rfl))) (by decide) (t := .int) (t' := (.array .int)) (by decide) (by decide)))).ext E_12).other W_16 (Or.inr (slot_ne (Or.inl (hw _ (List.mem_of_getElem? (i := 65) rfl))) (Or.inl (hw _ (List.mem_of_getElem? (i := 15) rfl))) (by decide) (t := .int) (t' := (.array .int)) (by decide) (by decide))))
  have f_23 := (((((V_2.other W_3 (Ne.symm ne_a1_b_2)).ext E_6).other W_9 (Ne.symm ne_a1_b_2)).ext E_12).other W_16 (Ne.symm ne_a1_b_2))
  have f_24 := (((V_6.other W_9 (Ne.symm ne_a1_b_6)).ext E_12).other W_16 (Ne.symm ne_a1_b_6))
  have f_25 := (V_12.other W_16 (Ne.symm ne_a1_b_12))
  obtain ⟨fs, hr, hrun, hended, hW, hsame⟩ := X_16.leave (v := none) (fun _ => rfl)
  refine ⟨_, _, ?_, hrun, hended, _, _, rfl, ?_, ⟨_, rfl⟩, hW, hsame.mono (by decide) (by decide)⟩
  · exact X_16.returnOut hx Bd.returns (hb hby d1_28) hr
  · show Q_rbi Z _ h0 n0 _ T_16.heap _
    rw [e_16]
    exact ⟨_, _, _, _, _, _, rfl, N_16, kk_16, sz_b_2, sz_b_6, sz_b_12, ne_b_2_b_6, ne_b_2_b_12, ne_b_6_b_12, f_19, f_20, Fw_16, f_21, f_22, f_23, f_24, f_25⟩
theorem pn_3 : plainName "com/example/repco/repco/service/TransitionGraph$Builder" = true := by first | (simp [plainName, overriddenIn]; done) | decide +kernel
theorem ef_3 (m : MethodId) (x0 : Addr) (x1 : Int32) (x2 : Int32) : entryFrame m #[(.ref x0), (.int x1), (.int x2)] 3 = mkF m 0 #[.val (.ref x0), .val (.int x1), .val (.int x2)] [] := by first | (simp [entryFrame, mkF, argsToLocals, Value.category]; done) | rfl
def Q_radd0 (Z : State) (a1 : Addr) (p2 : Int32) (p3 : Int32) (x1 : Addr) (x2 : Addr) (x3 : Addr) (k2 : ClassId) (k3 : ClassId) (vl : List Value) (vt : List Value) (h0 : Heap) (n0 : Nat) (v : Option Value) (h : Heap) (L : List Loc) : Prop := v = none ∧ Fr n0 L ∧ Keep h0 h [a1, x2, x3] ∧ Fld Z h a1 "com/example/repco/repco/service/TransitionGraph$Builder" "first" "[I" (.ref x1) ∧ Fld Z h a1 "com/example/repco/repco/service/TransitionGraph$Builder" "labels" "[I" (.ref x2) ∧ Fld Z h a1 "com/example/repco/repco/service/TransitionGraph$Builder" "targets" "[I" (.ref x3) ∧ Fld Z h a1 "com/example/repco/repco/service/TransitionGraph$Builder" "size" "I" (.int (1 : Int32)) ∧ Fld Z h a1 "com/example/repco/repco/service/TransitionGraph$Builder" "nodes" "I" (.int (0 : Int32)) ∧ Arv Z h x2 k2 .int (16 : Int32) (vl.set 0 (.int p2)) (.int (0 : Int32)) ∧ Arv Z h x3 k3 .int (16 : Int32) (vt.set 0 (.int p3)) (.int (0 : Int32))
theorem d3_0 : decode prog_57_method_3_code 0 = .ok (.aload_n 0, 1) := by decide +kernel
theorem d3_1 : decode prog_57_method_3_code 1 = .ok (.getfield 29, 3) := by decide +kernel
theorem d3_4 : decode prog_57_method_3_code 4 = .ok (.aload_n 0, 1) := by decide +kernel
theorem d3_5 : decode prog_57_method_3_code 5 = .ok (.getfield 13, 3) := by decide +kernel
theorem d3_8 : decode prog_57_method_3_code 8 = .ok (.arraylength, 1) := by decide +kernel
theorem d3_9 : decode prog_57_method_3_code 9 = .ok (.if_icmp .ne 37, 3) := by decide +kernel
theorem d3_46 : decode prog_57_method_3_code 46 = .ok (.aload_n 0, 1) := by decide +kernel
theorem d3_47 : decode prog_57_method_3_code 47 = .ok (.getfield 13, 3) := by decide +kernel
theorem d3_50 : decode prog_57_method_3_code 50 = .ok (.aload_n 0, 1) := by decide +kernel
theorem d3_51 : decode prog_57_method_3_code 51 = .ok (.getfield 29, 3) := by decide +kernel
theorem d3_54 : decode prog_57_method_3_code 54 = .ok (.iload_n 1, 1) := by decide +kernel
theorem d3_55 : decode prog_57_method_3_code 55 = .ok (.iastore, 1) := by decide +kernel
theorem d3_56 : decode prog_57_method_3_code 56 = .ok (.aload_n 0, 1) := by decide +kernel
theorem d3_57 : decode prog_57_method_3_code 57 = .ok (.getfield 16, 3) := by decide +kernel
theorem d3_60 : decode prog_57_method_3_code 60 = .ok (.aload_n 0, 1) := by decide +kernel
theorem d3_61 : decode prog_57_method_3_code 61 = .ok (.getfield 29, 3) := by decide +kernel
theorem d3_64 : decode prog_57_method_3_code 64 = .ok (.iload_n 2, 1) := by decide +kernel
theorem d3_65 : decode prog_57_method_3_code 65 = .ok (.iastore, 1) := by decide +kernel
theorem d3_66 : decode prog_57_method_3_code 66 = .ok (.aload_n 0, 1) := by decide +kernel
theorem d3_67 : decode prog_57_method_3_code 67 = .ok (.dup, 1) := by decide +kernel
theorem d3_68 : decode prog_57_method_3_code 68 = .ok (.getfield 29, 3) := by decide +kernel
theorem d3_71 : decode prog_57_method_3_code 71 = .ok (.iconst 1, 1) := by decide +kernel
theorem d3_72 : decode prog_57_method_3_code 72 = .ok (.iadd, 1) := by decide +kernel
theorem d3_73 : decode prog_57_method_3_code 73 = .ok (.putfield 29, 3) := by decide +kernel
theorem d3_76 : decode prog_57_method_3_code 76 = .ok (.return_, 1) := by decide +kernel
set_option maxRecDepth 65536 in
set_option maxHeartbeats 40000000 in
theorem radd0 (l : Launch) (Z : State) (a0 : Array Value) (hw : ∀ d ∈ tables_1, d.before a0 Z = true) (ws : List Jvm.Cond) (a1 : Addr) (p2 : Int32) (p3 : Int32) (x1 : Addr) (x2 : Addr) (x3 : Addr) (k2 : ClassId) (k3 : ClassId) (vl : List Value) (vt : List Value) (h0 : Heap) (n0 : Nat) (Z0 : n0 ≤ h0.size) (E_a1 : Exa Z h0 a1 "com/example/repco/repco/service/TransitionGraph$Builder") (F1 : Fld Z h0 a1 "com/example/repco/repco/service/TransitionGraph$Builder" "first" "[I" (.ref x1)) (F2 : Fld Z h0 a1 "com/example/repco/repco/service/TransitionGraph$Builder" "labels" "[I" (.ref x2)) (F3 : Fld Z h0 a1 "com/example/repco/repco/service/TransitionGraph$Builder" "targets" "[I" (.ref x3)) (F4 : Fld Z h0 a1 "com/example/repco/repco/service/TransitionGraph$Builder" "size" "I" (.int (0 : Int32))) (F5 : Fld Z h0 a1 "com/example/repco/repco/service/TransitionGraph$Builder" "nodes" "I" (.int (0 : Int32))) (V2 : Arv Z h0 x2 k2 .int (16 : Int32) vl (.int (0 : Int32))) (V3 : Arv Z h0 x3 k3 .int (16 : Int32) vt (.int (0 : Int32))) (g_a1 : n0 ≤ a1) (g_x2 : n0 ≤ x2) (g_x3 : n0 ≤ x3) (na2 : a1 ≠ x2) (na3 : a1 ≠ x3) (n23 : x2 ≠ x3) (l2 : vl.length = 16) (l3 : vt.length = 16) :
    MetFree l (⟨"com/example/repco/repco/service/TransitionGraph$Builder", "add", "(II)V"⟩ : MethodName) (head1 (Jvm.Cond.code (⟨"com/example/repco/repco/service/TransitionGraph$Builder", "add", "(II)V"⟩ : MethodName) prog_57_method_3_code 3 none :: ws) ({ frames := 0, cells := 0, slots := 0, locals := 0 } : Room)) (fun a U => a = #[(.ref a1), (.int p2), (.int p3)] ∧ Z.Warmed39 U.vm ∧ U.heap = h0) (fun _ _ _ _ _ => True) (fun _ U o U' => ∃ v L, o = .returned v ∧ Q_radd0 Z a1 p2 p3 x1 x2 x3 k2 k3 vl vt h0 n0 v U'.heap L ∧ FrameEnd U o U' L ({ frames := 0, cells := 0, slots := 0, locals := 0 } : Room).cells ({ frames := 0, cells := 0, slots := 0, locals := 0 } : Room).slots) := by
  refine MetFree.of_bodySF (plainFor_of_name pn_3) hisR ?_
  intro p e s m args below meth c s₁ Bd hml0 hP hK
  obtain ⟨rfl, hZ, hh⟩ := hP
  have hx := Bd.exec
  have hby := Bd.bytes
  have hml : c.maxLocals = 3 := hml0
  have hown : s.vm.findClass "com/example/repco/repco/service/TransitionGraph$Builder" = some m.cls := findClass_of_methodNamed Bd.named
  have hnm := (name_of_methodNamed Bd.named Bd.method).1
  have X0 : Stand p l e ({ frames := 0, cells := 0, slots := 0, locals := 0 } : Room) s m #[(.ref a1), (.int p2), (.int p3)] below meth c s₁ [] 0 0 := Stand.of_body Bd
  have e0 : s₁.heap = h0 := by rw [← hh, Bd.state]; rfl
  have N0 := Fr.nil n0
  refine own_go (g' := (mkF m 0 #[.val (.ref a1), .val (.int p2), .val (.int p3)] [])) (fun t k => castTop (ef_3 m (a1) (p2) (p3)) k) ?_
  refine own_go (T' := s₁) (g' := (mkF m 1 #[.val (.ref a1), .val (.int p2), .val (.int p3)] [(.ref a1)])) (fun t kt => ?_) ?_
  · show Steps p.tables e below (s₁.setTop (mkF m 0 #[.val (.ref a1), .val (.int p2), .val (.int p3)] [])) t
    refine XS.aloadN X0.here hx rfl (hb hby d3_0) rfl rfl ?_
    exact kt
  obtain ⟨T_1, X_1, e_1, st_1⟩ := getF X0 hx hZ hown (host := "") (Or.inl (hw _ (List.mem_of_getElem? (i := 21) rfl))) Via.refl e0 F4 (g := (mkF m 1 #[.val (.ref a1), .val (.int p2), .val (.int p3)] [(.ref a1)])) rfl rfl (hb hby d3_1)
  refine own_go (g' := (mkF m 4 #[.val (.ref a1), .val (.int p2), .val (.int p3)] [(.int (0 : Int32))])) st_1 ?_
  refine own_go (T' := T_1) (g' := (mkF m 5 #[.val (.ref a1), .val (.int p2), .val (.int p3)] [(.ref a1), (.int (0 : Int32))])) (fun t kt => ?_) ?_
  · show Steps p.tables e below (T_1.setTop (mkF m 4 #[.val (.ref a1), .val (.int p2), .val (.int p3)] [(.int (0 : Int32))])) t
    refine XS.aloadN X_1.here hx rfl (hb hby d3_4) rfl rfl ?_
    exact kt
  obtain ⟨T_2, X_2, e_2, st_2⟩ := getF X_1 hx hZ hown (host := "") (Or.inl (hw _ (List.mem_of_getElem? (i := 12) rfl))) Via.refl e_1 F2 (g := (mkF m 5 #[.val (.ref a1), .val (.int p2), .val (.int p3)] [(.ref a1), (.int (0 : Int32))])) rfl rfl (hb hby d3_5)
  refine own_go (g' := (mkF m 8 #[.val (.ref a1), .val (.int p2), .val (.int p3)] [(.ref x2), (.int (0 : Int32))])) st_2 ?_
  have vq_3 := V2
  obtain ⟨c_3, a_3, -, s_3, m_3, -, -⟩ := vq_3
  refine own_go (T' := T_2) (g' := (mkF m 9 #[.val (.ref a1), .val (.int p2), .val (.int p3)] [(.int (16 : Int32)), (.int (0 : Int32))])) (fun t kt => ?_) ?_
  · refine X_2.arraylength hx (by rw [e_2]; exact a_3.1) (State.isArrayOf_alike hZ.alike a_3.2.1) (g := (mkF m 8 #[.val (.ref a1), .val (.int p2), .val (.int p3)] [(.ref x2), (.int (0 : Int32))])) rfl rfl (hb hby d3_8) _ ?_
    rw [len_of s_3 m_3]
    exact kt
  refine own_go (T' := T_2) (g' := (mkF m 47 #[.val (.ref a1), .val (.int p2), .val (.int p3)] [(.ref a1)])) (fun t kt => ?_) ?_
  · show Steps p.tables e below (T_2.setTop (mkF m 9 #[.val (.ref a1), .val (.int p2), .val (.int p3)] [(.int (16 : Int32)), (.int (0 : Int32))])) t
    refine XS.icmpYes X_2.here hx rfl (pc0 := 9) (pc' := 46) rfl (hb hby d3_9) rfl (feq (by decide : ¬ ((0 : Int32) = (16 : Int32)))).2 (by decide) (by decide) ?_
    show Steps p.tables e below (T_2.setTop (mkF m 46 #[.val (.ref a1), .val (.int p2), .val (.int p3)] [])) t
    refine XS.aloadN X_2.here hx rfl (hb hby d3_46) rfl rfl ?_
    exact kt
  obtain ⟨T_4, X_4, e_4, st_4⟩ := getF X_2 hx hZ hown (host := "") (Or.inl (hw _ (List.mem_of_getElem? (i := 12) rfl))) Via.refl e_2 F2 (g := (mkF m 47 #[.val (.ref a1), .val (.int p2), .val (.int p3)] [(.ref a1)])) rfl rfl (hb hby d3_47)
  refine own_go (g' := (mkF m 50 #[.val (.ref a1), .val (.int p2), .val (.int p3)] [(.ref x2)])) st_4 ?_
  refine own_go (T' := T_4) (g' := (mkF m 51 #[.val (.ref a1), .val (.int p2), .val (.int p3)] [(.ref a1), (.ref x2)])) (fun t kt => ?_) ?_
  · show Steps p.tables e below (T_4.setTop (mkF m 50 #[.val (.ref a1), .val (.int p2), .val (.int p3)] [(.ref x2)])) t
    refine XS.aloadN X_4.here hx rfl (hb hby d3_50) rfl rfl ?_
    exact kt
  obtain ⟨T_5, X_5, e_5, st_5⟩ := getF X_4 hx hZ hown (host := "") (Or.inl (hw _ (List.mem_of_getElem? (i := 21) rfl))) Via.refl e_4 F4 (g := (mkF m 51 #[.val (.ref a1), .val (.int p2), .val (.int p3)] [(.ref a1), (.ref x2)])) rfl rfl (hb hby d3_51)
  refine own_go (g' := (mkF m 54 #[.val (.ref a1), .val (.int p2), .val (.int p3)] [(.int (0 : Int32)), (.ref x2)])) st_5 ?_
  refine own_go (T' := T_5) (g' := (mkF m 55 #[.val (.ref a1), .val (.int p2), .val (.int p3)] [(.int p2), (.int (0 : Int32)), (.ref x2)])) (fun t kt => ?_) ?_
  · show Steps p.tables e below (T_5.setTop (mkF m 54 #[.val (.ref a1), .val (.int p2), .val (.int p3)] [(.int (0 : Int32)), (.ref x2)])) t
    refine XS.iloadN X_5.here hx rfl (hb hby d3_54) rfl ?_
    exact kt
  have vq_6 := V2
  obtain ⟨c_6, a_6, q_6, s_6, m_6, H_6, G_6⟩ := vq_6
  have hin_6 : ¬ ((0 : Int32) < 0 ∨ c_6.slots.size ≤ ((0 : Int32)).toNatClampNeg) := inb_of s_6 ⟨by decide, by decide⟩
  obtain ⟨T_6, h_6, X_6, e_6, W_6, st_6⟩ := stI X_5 hx hZ e_5 a_6 (j := (0 : Int32)) hin_6 (g := (mkF m 55 #[.val (.ref a1), .val (.int p2), .val (.int p3)] [(.int p2), (.int (0 : Int32)), (.ref x2)])) rfl rfl (hb hby d3_55)
  have V_6 : Arv Z h_6 x2 k2 .int (16 : Int32) (vl.set 0 (.int p2)) (.int (0 : Int32)) := Arv.set a_6 q_6 s_6 m_6 H_6 G_6 rfl W_6 0 rfl (by omega)
  have Z_6 : n0 ≤ h_6.size := Nat.le_trans Z0 (Keep.of_wr W_6).1
  have kk_6 : Keep h0 h_6 [a1, x2, x3] := (Keep.refl h0 [a1, x2, x3]).wr W_6 (Or.inl (List.mem_of_getElem? (i := 1) rfl))
  have N_6 := Fr.snoc X_6 N0 g_x2
  refine own_go (g' := (mkF m 56 #[.val (.ref a1), .val (.int p2), .val (.int p3)] [])) st_6 ?_
  refine own_go (T' := T_6) (g' := (mkF m 57 #[.val (.ref a1), .val (.int p2), .val (.int p3)] [(.ref a1)])) (fun t kt => ?_) ?_
  · show Steps p.tables e below (T_6.setTop (mkF m 56 #[.val (.ref a1), .val (.int p2), .val (.int p3)] [])) t
    refine XS.aloadN X_6.here hx rfl (hb hby d3_56) rfl rfl ?_
    exact kt
  have f_8 := (F3.other W_6 (Or.inl na2))
  obtain ⟨T_7, X_7, e_7, st_7⟩ := getF X_6 hx hZ hown (host := "") (Or.inl (hw _ (List.mem_of_getElem? (i := 14) rfl))) Via.refl e_6 f_8 (g := (mkF m 57 #[.val (.ref a1), .val (.int p2), .val (.int p3)] [(.ref a1)])) rfl rfl (hb hby d3_57)
  refine own_go (g' := (mkF m 60 #[.val (.ref a1), .val (.int p2), .val (.int p3)] [(.ref x3)])) st_7 ?_
  refine own_go (T' := T_7) (g' := (mkF m 61 #[.val (.ref a1), .val (.int p2), .val (.int p3)] [(.ref a1), (.ref x3)])) (fun t kt => ?_) ?_
  · show Steps p.tables e below (T_7.setTop (mkF m 60 #[.val (.ref a1), .val (.int p2), .val (.int p3)] [(.ref x3)])) t
    refine XS.aloadN X_7.here hx rfl (hb hby d3_60) rfl rfl ?_
    exact kt
  have f_10 := (F4.other W_6 (Or.inl na2))
  obtain ⟨T_9, X_9, e_9, st_9⟩ := getF X_7 hx hZ hown (host := "") (Or.inl (hw _ (List.mem_of_getElem? (i := 21) rfl))) Via.refl e_7 f_10 (g := (mkF m 61 #[.val (.ref a1), .val (.int p2), .val (.int p3)] [(.ref a1), (.ref x3)])) rfl rfl (hb hby d3_61)
  refine own_go (g' := (mkF m 64 #[.val (.ref a1), .val (.int p2), .val (.int p3)] [(.int (0 : Int32)), (.ref x3)])) st_9 ?_
  refine own_go (T' := T_9) (g' := (mkF m 65 #[.val (.ref a1), .val (.int p2), .val (.int p3)] [(.int p3), (.int (0 : Int32)), (.ref x3)])) (fun t kt => ?_) ?_
  · show Steps p.tables e below (T_9.setTop (mkF m 64 #[.val (.ref a1), .val (.int p2), .val (.int p3)] [(.int (0 : Int32)), (.ref x3)])) t
    refine XS.iloadN X_9.here hx rfl (hb hby d3_64) rfl ?_
    exact kt
  have f_12 := (V3.other W_6 (Ne.symm n23))
  have vq_11 := f_12
  obtain ⟨c_11, a_11, q_11, s_11, m_11, H_11, G_11⟩ := vq_11
  have hin_11 : ¬ ((0 : Int32) < 0 ∨ c_11.slots.size ≤ ((0 : Int32)).toNatClampNeg) := inb_of s_11 ⟨by decide, by decide⟩
  obtain ⟨T_11, h_11, X_11, e_11, W_11, st_11⟩ := stI X_9 hx hZ e_9 a_11 (j := (0 : Int32)) hin_11 (g := (mkF m 65 #[.val (.ref a1), .val (.int p2), .val (.int p3)] [(.int p3), (.int (0 : Int32)), (.ref x3)])) rfl rfl (hb hby d3_65)
  have V_11 : Arv Z h_11 x3 k3 .int (16 : Int32) (vt.set 0 (.int p3)) (.int (0 : Int32)) := Arv.set a_11 q_11 s_11 m_11 H_11 G_11 rfl W_11 0 rfl (by omega)
  have Z_11 : n0 ≤ h_11.size := Nat.le_trans Z_6 (Keep.of_wr W_11).1
  have kk_11 : Keep h0 h_11 [a1, x2, x3] := kk_6.wr W_11 (Or.inl (List.mem_of_getElem? (i := 2) rfl))
  have N_11 := Fr.snoc X_11 N_6 g_x3
  refine own_go (g' := (mkF m 66 #[.val (.ref a1), .val (.int p2), .val (.int p3)] [])) st_11 ?_
  refine own_go (T' := T_11) (g' := (mkF m 68 #[.val (.ref a1), .val (.int p2), .val (.int p3)] [(.ref a1), (.ref a1)])) (fun t kt => ?_) ?_
  · show Steps p.tables e below (T_11.setTop (mkF m 66 #[.val (.ref a1), .val (.int p2), .val (.int p3)] [])) t
    refine XS.aloadN X_11.here hx rfl (hb hby d3_66) rfl rfl ?_
    show Steps p.tables e below (T_11.setTop (mkF m 67 #[.val (.ref a1), .val (.int p2), .val (.int p3)] [(.ref a1)])) t
    refine XS.dup X_11.here hx rfl (hb hby d3_67) rfl rfl ?_
    exact kt
  have f_14 := (f_10.other W_11 (Or.inl na3))
  obtain ⟨T_13, X_13, e_13, st_13⟩ := getF X_11 hx hZ hown (host := "") (Or.inl (hw _ (List.mem_of_getElem? (i := 21) rfl))) Via.refl e_11 f_14 (g := (mkF m 68 #[.val (.ref a1), .val (.int p2), .val (.int p3)] [(.ref a1), (.ref a1)])) rfl rfl (hb hby d3_68)
  refine own_go (g' := (mkF m 71 #[.val (.ref a1), .val (.int p2), .val (.int p3)] [(.int (0 : Int32)), (.ref a1)])) st_13 ?_
  refine own_go (T' := T_13) (g' := (mkF m 73 #[.val (.ref a1), .val (.int p2), .val (.int p3)] [(.int (1 : Int32)), (.ref a1)])) (fun t kt => ?_) ?_
  · show Steps p.tables e below (T_13.setTop (mkF m 71 #[.val (.ref a1), .val (.int p2), .val (.int p3)] [(.int (0 : Int32)), (.ref a1)])) t
    refine XS.iconst X_13.here hx rfl (hb hby d3_71) ?_
    show Steps p.tables e below (T_13.setTop (mkF m 72 #[.val (.ref a1), .val (.int p2), .val (.int p3)] [(.int (1 : Int32)), (.int (0 : Int32)), (.ref a1)])) t
    refine XS.iadd X_13.here hx rfl (hb hby d3_72) rfl ?_
    exact kt
  have f_16 := ((E_a1.wr W_6).wr W_11)
  obtain ⟨T_15, h_15, X_15, e_15, W_15, st_15⟩ := putF X_13 hx hZ hown (host := "") (Or.inl (hw _ (List.mem_of_getElem? (i := 21) rfl))) Via.refl e_13 f_14 f_16 (Or.inl (hw _ (List.mem_of_getElem? (i := 22) rfl))) (hw _ (List.mem_of_getElem? (i := 1) rfl)) (ty := .int) (by decide) rfl rfl (g := (mkF m 73 #[.val (.ref a1), .val (.int p2), .val (.int p3)] [(.int (1 : Int32)), (.ref a1)])) rfl rfl (hb hby d3_73)
  have Fw_15 := f_14.same W_15
  have Z_15 : n0 ≤ h_15.size := Nat.le_trans Z_11 (Keep.of_wr W_15).1
  have kk_15 : Keep h0 h_15 [a1, x2, x3] := kk_11.wr W_15 (Or.inl (List.mem_of_getElem? (i := 0) rfl))
  have N_15 := Fr.snoc X_15 N_11 g_a1
  refine own_go (g' := (mkF m 76 #[.val (.ref a1), .val (.int p2), .val (.int p3)] [])) st_15 ?_
  have f_17 := (((F1.other W_6 (Or.inl na2)).other W_11 (Or.inl na3)).other W_15 (Or.inr (slot_ne (Or.inl (hw _ (List.mem_of_getElem? (i := 11) rfl))) (Or.inl (hw _ (List.mem_of_getElem? (i := 22) rfl))) (by decide) (t := (.array .int)) (t' := .int) (by decide) (by decide))))
  have f_18 := (((F2.other W_6 (Or.inl na2)).other W_11 (Or.inl na3)).other W_15 (Or.inr (slot_ne (Or.inl (hw _ (List.mem_of_getElem? (i := 13) rfl))) (Or.inl (hw _ (List.mem_of_getElem? (i := 22) rfl))) (by decide) (t := (.array .int)) (t' := .int) (by decide) (by decide))))
  have f_19 := ((f_8.other W_11 (Or.inl na3)).other W_15 (Or.inr (slot_ne (Or.inl (hw _ (List.mem_of_getElem? (i := 15) rfl))) (Or.inl (hw _ (List.mem_of_getElem? (i := 22) rfl))) (by decide) (t := (.array .int)) (t' := .int) (by decide) (by decide))))
  have f_20 := (((F5.other W_6 (Or.inl na2)).other W_11 (Or.inl na3)).other W_15 (Or.inr (slot_ne (Or.inl (hw _ (List.mem_of_getElem? (i := 65) rfl))) (Or.inl (hw _ (List.mem_of_getElem? (i := 22) rfl))) (by decide) (t := .int) (t' := .int) (by decide) (by decide))))
  have f_21 := ((V_6.other W_11 n23).other W_15 (Ne.symm na2))
  have f_22 := (V_11.other W_15 (Ne.symm na3))
  obtain ⟨fs, hr, hrun, hended, hW, hsame⟩ := X_15.leave (v := none) (fun _ => rfl)
  refine ⟨_, _, ?_, hrun, hended, _, _, rfl, ?_, ⟨_, rfl⟩, hW, hsame.mono (by decide) (by decide)⟩
  · exact X_15.returnOut hx Bd.returns (hb hby d3_76) hr
  · show Q_radd0 Z _ _ _ _ _ _ _ _ _ _ h0 n0 _ T_15.heap _
    rw [e_15]
    exact ⟨rfl, N_15, kk_15, f_17, f_18, f_19, Fw_15, f_20, f_21, f_22⟩
def Q_radd1 (Z : State) (a1 : Addr) (p2 : Int32) (p3 : Int32) (x1 : Addr) (x2 : Addr) (x3 : Addr) (k2 : ClassId) (k3 : ClassId) (vl : List Value) (vt : List Value) (h0 : Heap) (n0 : Nat) (v : Option Value) (h : Heap) (L : List Loc) : Prop := v = none ∧ Fr n0 L ∧ Keep h0 h [a1, x2, x3] ∧ Fld Z h a1 "com/example/repco/repco/service/TransitionGraph$Builder" "first" "[I" (.ref x1) ∧ Fld Z h a1 "com/example/repco/repco/service/TransitionGraph$Builder" "labels" "[I" (.ref x2) ∧ Fld Z h a1 "com/example/repco/repco/service/TransitionGraph$Builder" "targets" "[I" (.ref x3) ∧ Fld Z h a1 "com/example/repco/repco/service/TransitionGraph$Builder" "size" "I" (.int (2 : Int32)) ∧ Fld Z h a1 "com/example/repco/repco/service/TransitionGraph$Builder" "nodes" "I" (.int (0 : Int32)) ∧ Arv Z h x2 k2 .int (16 : Int32) (vl.set 1 (.int p2)) (.int (0 : Int32)) ∧ Arv Z h x3 k3 .int (16 : Int32) (vt.set 1 (.int p3)) (.int (0 : Int32))
set_option maxRecDepth 65536 in
set_option maxHeartbeats 40000000 in
theorem radd1 (l : Launch) (Z : State) (a0 : Array Value) (hw : ∀ d ∈ tables_1, d.before a0 Z = true) (ws : List Jvm.Cond) (a1 : Addr) (p2 : Int32) (p3 : Int32) (x1 : Addr) (x2 : Addr) (x3 : Addr) (k2 : ClassId) (k3 : ClassId) (vl : List Value) (vt : List Value) (h0 : Heap) (n0 : Nat) (Z0 : n0 ≤ h0.size) (E_a1 : Exa Z h0 a1 "com/example/repco/repco/service/TransitionGraph$Builder") (F1 : Fld Z h0 a1 "com/example/repco/repco/service/TransitionGraph$Builder" "first" "[I" (.ref x1)) (F2 : Fld Z h0 a1 "com/example/repco/repco/service/TransitionGraph$Builder" "labels" "[I" (.ref x2)) (F3 : Fld Z h0 a1 "com/example/repco/repco/service/TransitionGraph$Builder" "targets" "[I" (.ref x3)) (F4 : Fld Z h0 a1 "com/example/repco/repco/service/TransitionGraph$Builder" "size" "I" (.int (1 : Int32))) (F5 : Fld Z h0 a1 "com/example/repco/repco/service/TransitionGraph$Builder" "nodes" "I" (.int (0 : Int32))) (V2 : Arv Z h0 x2 k2 .int (16 : Int32) vl (.int (0 : Int32))) (V3 : Arv Z h0 x3 k3 .int (16 : Int32) vt (.int (0 : Int32))) (g_a1 : n0 ≤ a1) (g_x2 : n0 ≤ x2) (g_x3 : n0 ≤ x3) (na2 : a1 ≠ x2) (na3 : a1 ≠ x3) (n23 : x2 ≠ x3) (l2 : vl.length = 16) (l3 : vt.length = 16) :
    MetFree l (⟨"com/example/repco/repco/service/TransitionGraph$Builder", "add", "(II)V"⟩ : MethodName) (head1 (Jvm.Cond.code (⟨"com/example/repco/repco/service/TransitionGraph$Builder", "add", "(II)V"⟩ : MethodName) prog_57_method_3_code 3 none :: ws) ({ frames := 0, cells := 0, slots := 0, locals := 0 } : Room)) (fun a U => a = #[(.ref a1), (.int p2), (.int p3)] ∧ Z.Warmed39 U.vm ∧ U.heap = h0) (fun _ _ _ _ _ => True) (fun _ U o U' => ∃ v L, o = .returned v ∧ Q_radd1 Z a1 p2 p3 x1 x2 x3 k2 k3 vl vt h0 n0 v U'.heap L ∧ FrameEnd U o U' L ({ frames := 0, cells := 0, slots := 0, locals := 0 } : Room).cells ({ frames := 0, cells := 0, slots := 0, locals := 0 } : Room).slots) := by
  refine MetFree.of_bodySF (plainFor_of_name pn_3) hisR ?_
  intro p e s m args below meth c s₁ Bd hml0 hP hK
  obtain ⟨rfl, hZ, hh⟩ := hP
  have hx := Bd.exec
  have hby := Bd.bytes
  have hml : c.maxLocals = 3 := hml0
  have hown : s.vm.findClass "com/example/repco/repco/service/TransitionGraph$Builder" = some m.cls := findClass_of_methodNamed Bd.named
  have hnm := (name_of_methodNamed Bd.named Bd.method).1
  have X0 : Stand p l e ({ frames := 0, cells := 0, slots := 0, locals := 0 } : Room) s m #[(.ref a1), (.int p2), (.int p3)] below meth c s₁ [] 0 0 := Stand.of_body Bd
  have e0 : s₁.heap = h0 := by rw [← hh, Bd.state]; rfl
  have N0 := Fr.nil n0
  refine own_go (g' := (mkF m 0 #[.val (.ref a1), .val (.int p2), .val (.int p3)] [])) (fun t k => castTop (ef_3 m (a1) (p2) (p3)) k) ?_
  refine own_go (T' := s₁) (g' := (mkF m 1 #[.val (.ref a1), .val (.int p2), .val (.int p3)] [(.ref a1)])) (fun t kt => ?_) ?_
  · show Steps p.tables e below (s₁.setTop (mkF m 0 #[.val (.ref a1), .val (.int p2), .val (.int p3)] [])) t
    refine XS.aloadN X0.here hx rfl (hb hby d3_0) rfl rfl ?_
    exact kt
  obtain ⟨T_1, X_1, e_1, st_1⟩ := getF X0 hx hZ hown (host := "") (Or.inl (hw _ (List.mem_of_getElem? (i := 21) rfl))) Via.refl e0 F4 (g := (mkF m 1 #[.val (.ref a1), .val (.int p2), .val (.int p3)] [(.ref a1)])) rfl rfl (hb hby d3_1)
  refine own_go (g' := (mkF m 4 #[.val (.ref a1), .val (.int p2), .val (.int p3)] [(.int (1 : Int32))])) st_1 ?_
  refine own_go (T' := T_1) (g' := (mkF m 5 #[.val (.ref a1), .val (.int p2), .val (.int p3)] [(.ref a1), (.int (1 : Int32))])) (fun t kt => ?_) ?_
  · show Steps p.tables e below (T_1.setTop (mkF m 4 #[.val (.ref a1), .val (.int p2), .val (.int p3)] [(.int (1 : Int32))])) t
    refine XS.aloadN X_1.here hx rfl (hb hby d3_4) rfl rfl ?_
    exact kt
  obtain ⟨T_2, X_2, e_2, st_2⟩ := getF X_1 hx hZ hown (host := "") (Or.inl (hw _ (List.mem_of_getElem? (i := 12) rfl))) Via.refl e_1 F2 (g := (mkF m 5 #[.val (.ref a1), .val (.int p2), .val (.int p3)] [(.ref a1), (.int (1 : Int32))])) rfl rfl (hb hby d3_5)
  refine own_go (g' := (mkF m 8 #[.val (.ref a1), .val (.int p2), .val (.int p3)] [(.ref x2), (.int (1 : Int32))])) st_2 ?_
  have vq_3 := V2
  obtain ⟨c_3, a_3, -, s_3, m_3, -, -⟩ := vq_3
  refine own_go (T' := T_2) (g' := (mkF m 9 #[.val (.ref a1), .val (.int p2), .val (.int p3)] [(.int (16 : Int32)), (.int (1 : Int32))])) (fun t kt => ?_) ?_
  · refine X_2.arraylength hx (by rw [e_2]; exact a_3.1) (State.isArrayOf_alike hZ.alike a_3.2.1) (g := (mkF m 8 #[.val (.ref a1), .val (.int p2), .val (.int p3)] [(.ref x2), (.int (1 : Int32))])) rfl rfl (hb hby d3_8) _ ?_
    rw [len_of s_3 m_3]
    exact kt
  refine own_go (T' := T_2) (g' := (mkF m 47 #[.val (.ref a1), .val (.int p2), .val (.int p3)] [(.ref a1)])) (fun t kt => ?_) ?_
  · show Steps p.tables e below (T_2.setTop (mkF m 9 #[.val (.ref a1), .val (.int p2), .val (.int p3)] [(.int (16 : Int32)), (.int (1 : Int32))])) t
    refine XS.icmpYes X_2.here hx rfl (pc0 := 9) (pc' := 46) rfl (hb hby d3_9) rfl (feq (by decide : ¬ ((1 : Int32) = (16 : Int32)))).2 (by decide) (by decide) ?_
    show Steps p.tables e below (T_2.setTop (mkF m 46 #[.val (.ref a1), .val (.int p2), .val (.int p3)] [])) t
    refine XS.aloadN X_2.here hx rfl (hb hby d3_46) rfl rfl ?_
    exact kt
  obtain ⟨T_4, X_4, e_4, st_4⟩ := getF X_2 hx hZ hown (host := "") (Or.inl (hw _ (List.mem_of_getElem? (i := 12) rfl))) Via.refl e_2 F2 (g := (mkF m 47 #[.val (.ref a1), .val (.int p2), .val (.int p3)] [(.ref a1)])) rfl rfl (hb hby d3_47)
  refine own_go (g' := (mkF m 50 #[.val (.ref a1), .val (.int p2), .val (.int p3)] [(.ref x2)])) st_4 ?_
  refine own_go (T' := T_4) (g' := (mkF m 51 #[.val (.ref a1), .val (.int p2), .val (.int p3)] [(.ref a1), (.ref x2)])) (fun t kt => ?_) ?_
  · show Steps p.tables e below (T_4.setTop (mkF m 50 #[.val (.ref a1), .val (.int p2), .val (.int p3)] [(.ref x2)])) t
    refine XS.aloadN X_4.here hx rfl (hb hby d3_50) rfl rfl ?_
    exact kt
  obtain ⟨T_5, X_5, e_5, st_5⟩ := getF X_4 hx hZ hown (host := "") (Or.inl (hw _ (List.mem_of_getElem? (i := 21) rfl))) Via.refl e_4 F4 (g := (mkF m 51 #[.val (.ref a1), .val (.int p2), .val (.int p3)] [(.ref a1), (.ref x2)])) rfl rfl (hb hby d3_51)
  refine own_go (g' := (mkF m 54 #[.val (.ref a1), .val (.int p2), .val (.int p3)] [(.int (1 : Int32)), (.ref x2)])) st_5 ?_
  refine own_go (T' := T_5) (g' := (mkF m 55 #[.val (.ref a1), .val (.int p2), .val (.int p3)] [(.int p2), (.int (1 : Int32)), (.ref x2)])) (fun t kt => ?_) ?_
  · show Steps p.tables e below (T_5.setTop (mkF m 54 #[.val (.ref a1), .val (.int p2), .val (.int p3)] [(.int (1 : Int32)), (.ref x2)])) t
    refine XS.iloadN X_5.here hx rfl (hb hby d3_54) rfl ?_
    exact kt
  have vq_6 := V2
  obtain ⟨c_6, a_6, q_6, s_6, m_6, H_6, G_6⟩ := vq_6
  have hin_6 : ¬ ((1 : Int32) < 0 ∨ c_6.slots.size ≤ ((1 : Int32)).toNatClampNeg) := inb_of s_6 ⟨by decide, by decide⟩
  obtain ⟨T_6, h_6, X_6, e_6, W_6, st_6⟩ := stI X_5 hx hZ e_5 a_6 (j := (1 : Int32)) hin_6 (g := (mkF m 55 #[.val (.ref a1), .val (.int p2), .val (.int p3)] [(.int p2), (.int (1 : Int32)), (.ref x2)])) rfl rfl (hb hby d3_55)
  have V_6 : Arv Z h_6 x2 k2 .int (16 : Int32) (vl.set 1 (.int p2)) (.int (0 : Int32)) := Arv.set a_6 q_6 s_6 m_6 H_6 G_6 rfl W_6 1 rfl (by omega)
  have Z_6 : n0 ≤ h_6.size := Nat.le_trans Z0 (Keep.of_wr W_6).1
  have kk_6 : Keep h0 h_6 [a1, x2, x3] := (Keep.refl h0 [a1, x2, x3]).wr W_6 (Or.inl (List.mem_of_getElem? (i := 1) rfl))
  have N_6 := Fr.snoc X_6 N0 g_x2
  refine own_go (g' := (mkF m 56 #[.val (.ref a1), .val (.int p2), .val (.int p3)] [])) st_6 ?_
  refine own_go (T' := T_6) (g' := (mkF m 57 #[.val (.ref a1), .val (.int p2), .val (.int p3)] [(.ref a1)])) (fun t kt => ?_) ?_
  · show Steps p.tables e below (T_6.setTop (mkF m 56 #[.val (.ref a1), .val (.int p2), .val (.int p3)] [])) t
    refine XS.aloadN X_6.here hx rfl (hb hby d3_56) rfl rfl ?_
    exact kt
  have f_8 := (F3.other W_6 (Or.inl na2))
  obtain ⟨T_7, X_7, e_7, st_7⟩ := getF X_6 hx hZ hown (host := "") (Or.inl (hw _ (List.mem_of_getElem? (i := 14) rfl))) Via.refl e_6 f_8 (g := (mkF m 57 #[.val (.ref a1), .val (.int p2), .val (.int p3)] [(.ref a1)])) rfl rfl (hb hby d3_57)
  refine own_go (g' := (mkF m 60 #[.val (.ref a1), .val (.int p2), .val (.int p3)] [(.ref x3)])) st_7 ?_
  refine own_go (T' := T_7) (g' := (mkF m 61 #[.val (.ref a1), .val (.int p2), .val (.int p3)] [(.ref a1), (.ref x3)])) (fun t kt => ?_) ?_
  · show Steps p.tables e below (T_7.setTop (mkF m 60 #[.val (.ref a1), .val (.int p2), .val (.int p3)] [(.ref x3)])) t
    refine XS.aloadN X_7.here hx rfl (hb hby d3_60) rfl rfl ?_
    exact kt
  have f_10 := (F4.other W_6 (Or.inl na2))
  obtain ⟨T_9, X_9, e_9, st_9⟩ := getF X_7 hx hZ hown (host := "") (Or.inl (hw _ (List.mem_of_getElem? (i := 21) rfl))) Via.refl e_7 f_10 (g := (mkF m 61 #[.val (.ref a1), .val (.int p2), .val (.int p3)] [(.ref a1), (.ref x3)])) rfl rfl (hb hby d3_61)
  refine own_go (g' := (mkF m 64 #[.val (.ref a1), .val (.int p2), .val (.int p3)] [(.int (1 : Int32)), (.ref x3)])) st_9 ?_
  refine own_go (T' := T_9) (g' := (mkF m 65 #[.val (.ref a1), .val (.int p2), .val (.int p3)] [(.int p3), (.int (1 : Int32)), (.ref x3)])) (fun t kt => ?_) ?_
  · show Steps p.tables e below (T_9.setTop (mkF m 64 #[.val (.ref a1), .val (.int p2), .val (.int p3)] [(.int (1 : Int32)), (.ref x3)])) t
    refine XS.iloadN X_9.here hx rfl (hb hby d3_64) rfl ?_
    exact kt
  have f_12 := (V3.other W_6 (Ne.symm n23))
  have vq_11 := f_12
  obtain ⟨c_11, a_11, q_11, s_11, m_11, H_11, G_11⟩ := vq_11
  have hin_11 : ¬ ((1 : Int32) < 0 ∨ c_11.slots.size ≤ ((1 : Int32)).toNatClampNeg) := inb_of s_11 ⟨by decide, by decide⟩
  obtain ⟨T_11, h_11, X_11, e_11, W_11, st_11⟩ := stI X_9 hx hZ e_9 a_11 (j := (1 : Int32)) hin_11 (g := (mkF m 65 #[.val (.ref a1), .val (.int p2), .val (.int p3)] [(.int p3), (.int (1 : Int32)), (.ref x3)])) rfl rfl (hb hby d3_65)
  have V_11 : Arv Z h_11 x3 k3 .int (16 : Int32) (vt.set 1 (.int p3)) (.int (0 : Int32)) := Arv.set a_11 q_11 s_11 m_11 H_11 G_11 rfl W_11 1 rfl (by omega)
  have Z_11 : n0 ≤ h_11.size := Nat.le_trans Z_6 (Keep.of_wr W_11).1
  have kk_11 : Keep h0 h_11 [a1, x2, x3] := kk_6.wr W_11 (Or.inl (List.mem_of_getElem? (i := 2) rfl))
  have N_11 := Fr.snoc X_11 N_6 g_x3
  refine own_go (g' := (mkF m 66 #[.val (.ref a1), .val (.int p2), .val (.int p3)] [])) st_11 ?_
  refine own_go (T' := T_11) (g' := (mkF m 68 #[.val (.ref a1), .val (.int p2), .val (.int p3)] [(.ref a1), (.ref a1)])) (fun t kt => ?_) ?_
  · show Steps p.tables e below (T_11.setTop (mkF m 66 #[.val (.ref a1), .val (.int p2), .val (.int p3)] [])) t
    refine XS.aloadN X_11.here hx rfl (hb hby d3_66) rfl rfl ?_
    show Steps p.tables e below (T_11.setTop (mkF m 67 #[.val (.ref a1), .val (.int p2), .val (.int p3)] [(.ref a1)])) t
    refine XS.dup X_11.here hx rfl (hb hby d3_67) rfl rfl ?_
    exact kt
  have f_14 := (f_10.other W_11 (Or.inl na3))
  obtain ⟨T_13, X_13, e_13, st_13⟩ := getF X_11 hx hZ hown (host := "") (Or.inl (hw _ (List.mem_of_getElem? (i := 21) rfl))) Via.refl e_11 f_14 (g := (mkF m 68 #[.val (.ref a1), .val (.int p2), .val (.int p3)] [(.ref a1), (.ref a1)])) rfl rfl (hb hby d3_68)
  refine own_go (g' := (mkF m 71 #[.val (.ref a1), .val (.int p2), .val (.int p3)] [(.int (1 : Int32)), (.ref a1)])) st_13 ?_
  refine own_go (T' := T_13) (g' := (mkF m 73 #[.val (.ref a1), .val (.int p2), .val (.int p3)] [(.int (2 : Int32)), (.ref a1)])) (fun t kt => ?_) ?_
  · show Steps p.tables e below (T_13.setTop (mkF m 71 #[.val (.ref a1), .val (.int p2), .val (.int p3)] [(.int (1 : Int32)), (.ref a1)])) t
    refine XS.iconst X_13.here hx rfl (hb hby d3_71) ?_
    show Steps p.tables e below (T_13.setTop (mkF m 72 #[.val (.ref a1), .val (.int p2), .val (.int p3)] [(.int (1 : Int32)), (.int (1 : Int32)), (.ref a1)])) t
    refine XS.iadd X_13.here hx rfl (hb hby d3_72) rfl ?_
    exact kt
  have f_16 := ((E_a1.wr W_6).wr W_11)
  obtain ⟨T_15, h_15, X_15, e_15, W_15, st_15⟩ := putF X_13 hx hZ hown (host := "") (Or.inl (hw _ (List.mem_of_getElem? (i := 21) rfl))) Via.refl e_13 f_14 f_16 (Or.inl (hw _ (List.mem_of_getElem? (i := 22) rfl))) (hw _ (List.mem_of_getElem? (i := 1) rfl)) (ty := .int) (by decide) rfl rfl (g := (mkF m 73 #[.val (.ref a1), .val (.int p2), .val (.int p3)] [(.int (2 : Int32)), (.ref a1)])) rfl rfl (hb hby d3_73)
  have Fw_15 := f_14.same W_15
  have Z_15 : n0 ≤ h_15.size := Nat.le_trans Z_11 (Keep.of_wr W_15).1
  have kk_15 : Keep h0 h_15 [a1, x2, x3] := kk_11.wr W_15 (Or.inl (List.mem_of_getElem? (i := 0) rfl))
  have N_15 := Fr.snoc X_15 N_11 g_a1
  refine own_go (g' := (mkF m 76 #[.val (.ref a1), .val (.int p2), .val (.int p3)] [])) st_15 ?_
  have f_17 := (((F1.other W_6 (Or.inl na2)).other W_11 (Or.inl na3)).other W_15 (Or.inr (slot_ne (Or.inl (hw _ (List.mem_of_getElem? (i := 11) rfl))) (Or.inl (hw _ (List.mem_of_getElem? (i := 22) rfl))) (by decide) (t := (.array .int)) (t' := .int) (by decide) (by decide))))
  have f_18 := (((F2.other W_6 (Or.inl na2)).other W_11 (Or.inl na3)).other W_15 (Or.inr (slot_ne (Or.inl (hw _ (List.mem_of_getElem? (i := 13) rfl))) (Or.inl (hw _ (List.mem_of_getElem? (i := 22) rfl))) (by decide) (t := (.array .int)) (t' := .int) (by decide) (by decide))))
  have f_19 := ((f_8.other W_11 (Or.inl na3)).other W_15 (Or.inr (slot_ne (Or.inl (hw _ (List.mem_of_getElem? (i := 15) rfl))) (Or.inl (hw _ (List.mem_of_getElem? (i := 22) rfl))) (by decide) (t := (.array .int)) (t' := .int) (by decide) (by decide))))
  have f_20 := (((F5.other W_6 (Or.inl na2)).other W_11 (Or.inl na3)).other W_15 (Or.inr (slot_ne (Or.inl (hw _ (List.mem_of_getElem? (i := 65) rfl))) (Or.inl (hw _ (List.mem_of_getElem? (i := 22) rfl))) (by decide) (t := .int) (t' := .int) (by decide) (by decide))))
  have f_21 := ((V_6.other W_11 n23).other W_15 (Ne.symm na2))
  have f_22 := (V_11.other W_15 (Ne.symm na3))
  obtain ⟨fs, hr, hrun, hended, hW, hsame⟩ := X_15.leave (v := none) (fun _ => rfl)
  refine ⟨_, _, ?_, hrun, hended, _, _, rfl, ?_, ⟨_, rfl⟩, hW, hsame.mono (by decide) (by decide)⟩
  · exact X_15.returnOut hx Bd.returns (hb hby d3_76) hr
  · show Q_radd1 Z _ _ _ _ _ _ _ _ _ _ h0 n0 _ T_15.heap _
    rw [e_15]
    exact ⟨rfl, N_15, kk_15, f_17, f_18, f_19, Fw_15, f_20, f_21, f_22⟩
def Q_radd2 (Z : State) (a1 : Addr) (p2 : Int32) (p3 : Int32) (x1 : Addr) (x2 : Addr) (x3 : Addr) (k2 : ClassId) (k3 : ClassId) (vl : List Value) (vt : List Value) (h0 : Heap) (n0 : Nat) (v : Option Value) (h : Heap) (L : List Loc) : Prop := v = none ∧ Fr n0 L ∧ Keep h0 h [a1, x2, x3] ∧ Fld Z h a1 "com/example/repco/repco/service/TransitionGraph$Builder" "first" "[I" (.ref x1) ∧ Fld Z h a1 "com/example/repco/repco/service/TransitionGraph$Builder" "labels" "[I" (.ref x2) ∧ Fld Z h a1 "com/example/repco/repco/service/TransitionGraph$Builder" "targets" "[I" (.ref x3) ∧ Fld Z h a1 "com/example/repco/repco/service/TransitionGraph$Builder" "size" "I" (.int (3 : Int32)) ∧ Fld Z h a1 "com/example/repco/repco/service/TransitionGraph$Builder" "nodes" "I" (.int (0 : Int32)) ∧ Arv Z h x2 k2 .int (16 : Int32) (vl.set 2 (.int p2)) (.int (0 : Int32)) ∧ Arv Z h x3 k3 .int (16 : Int32) (vt.set 2 (.int p3)) (.int (0 : Int32))
set_option maxRecDepth 65536 in
set_option maxHeartbeats 40000000 in
theorem radd2 (l : Launch) (Z : State) (a0 : Array Value) (hw : ∀ d ∈ tables_1, d.before a0 Z = true) (ws : List Jvm.Cond) (a1 : Addr) (p2 : Int32) (p3 : Int32) (x1 : Addr) (x2 : Addr) (x3 : Addr) (k2 : ClassId) (k3 : ClassId) (vl : List Value) (vt : List Value) (h0 : Heap) (n0 : Nat) (Z0 : n0 ≤ h0.size) (E_a1 : Exa Z h0 a1 "com/example/repco/repco/service/TransitionGraph$Builder") (F1 : Fld Z h0 a1 "com/example/repco/repco/service/TransitionGraph$Builder" "first" "[I" (.ref x1)) (F2 : Fld Z h0 a1 "com/example/repco/repco/service/TransitionGraph$Builder" "labels" "[I" (.ref x2)) (F3 : Fld Z h0 a1 "com/example/repco/repco/service/TransitionGraph$Builder" "targets" "[I" (.ref x3)) (F4 : Fld Z h0 a1 "com/example/repco/repco/service/TransitionGraph$Builder" "size" "I" (.int (2 : Int32))) (F5 : Fld Z h0 a1 "com/example/repco/repco/service/TransitionGraph$Builder" "nodes" "I" (.int (0 : Int32))) (V2 : Arv Z h0 x2 k2 .int (16 : Int32) vl (.int (0 : Int32))) (V3 : Arv Z h0 x3 k3 .int (16 : Int32) vt (.int (0 : Int32))) (g_a1 : n0 ≤ a1) (g_x2 : n0 ≤ x2) (g_x3 : n0 ≤ x3) (na2 : a1 ≠ x2) (na3 : a1 ≠ x3) (n23 : x2 ≠ x3) (l2 : vl.length = 16) (l3 : vt.length = 16) :
    MetFree l (⟨"com/example/repco/repco/service/TransitionGraph$Builder", "add", "(II)V"⟩ : MethodName) (head1 (Jvm.Cond.code (⟨"com/example/repco/repco/service/TransitionGraph$Builder", "add", "(II)V"⟩ : MethodName) prog_57_method_3_code 3 none :: ws) ({ frames := 0, cells := 0, slots := 0, locals := 0 } : Room)) (fun a U => a = #[(.ref a1), (.int p2), (.int p3)] ∧ Z.Warmed39 U.vm ∧ U.heap = h0) (fun _ _ _ _ _ => True) (fun _ U o U' => ∃ v L, o = .returned v ∧ Q_radd2 Z a1 p2 p3 x1 x2 x3 k2 k3 vl vt h0 n0 v U'.heap L ∧ FrameEnd U o U' L ({ frames := 0, cells := 0, slots := 0, locals := 0 } : Room).cells ({ frames := 0, cells := 0, slots := 0, locals := 0 } : Room).slots) := by
  refine MetFree.of_bodySF (plainFor_of_name pn_3) hisR ?_
  intro p e s m args below meth c s₁ Bd hml0 hP hK
  obtain ⟨rfl, hZ, hh⟩ := hP
  have hx := Bd.exec
  have hby := Bd.bytes
  have hml : c.maxLocals = 3 := hml0
  have hown : s.vm.findClass "com/example/repco/repco/service/TransitionGraph$Builder" = some m.cls := findClass_of_methodNamed Bd.named
  have hnm := (name_of_methodNamed Bd.named Bd.method).1
  have X0 : Stand p l e ({ frames := 0, cells := 0, slots := 0, locals := 0 } : Room) s m #[(.ref a1), (.int p2), (.int p3)] below meth c s₁ [] 0 0 := Stand.of_body Bd
  have e0 : s₁.heap = h0 := by rw [← hh, Bd.state]; rfl
  have N0 := Fr.nil n0
  refine own_go (g' := (mkF m 0 #[.val (.ref a1), .val (.int p2), .val (.int p3)] [])) (fun t k => castTop (ef_3 m (a1) (p2) (p3)) k) ?_
  refine own_go (T' := s₁) (g' := (mkF m 1 #[.val (.ref a1), .val (.int p2), .val (.int p3)] [(.ref a1)])) (fun t kt => ?_) ?_
  · show Steps p.tables e below (s₁.setTop (mkF m 0 #[.val (.ref a1), .val (.int p2), .val (.int p3)] [])) t
    refine XS.aloadN X0.here hx rfl (hb hby d3_0) rfl rfl ?_
    exact kt
  obtain ⟨T_1, X_1, e_1, st_1⟩ := getF X0 hx hZ hown (host := "") (Or.inl (hw _ (List.mem_of_getElem? (i := 21) rfl))) Via.refl e0 F4 (g := (mkF m 1 #[.val (.ref a1), .val (.int p2), .val (.int p3)] [(.ref a1)])) rfl rfl (hb hby d3_1)
  refine own_go (g' := (mkF m 4 #[.val (.ref a1), .val (.int p2), .val (.int p3)] [(.int (2 : Int32))])) st_1 ?_
  refine own_go (T' := T_1) (g' := (mkF m 5 #[.val (.ref a1), .val (.int p2), .val (.int p3)] [(.ref a1), (.int (2 : Int32))])) (fun t kt => ?_) ?_
  · show Steps p.tables e below (T_1.setTop (mkF m 4 #[.val (.ref a1), .val (.int p2), .val (.int p3)] [(.int (2 : Int32))])) t
    refine XS.aloadN X_1.here hx rfl (hb hby d3_4) rfl rfl ?_
    exact kt
  obtain ⟨T_2, X_2, e_2, st_2⟩ := getF X_1 hx hZ hown (host := "") (Or.inl (hw _ (List.mem_of_getElem? (i := 12) rfl))) Via.refl e_1 F2 (g := (mkF m 5 #[.val (.ref a1), .val (.int p2), .val (.int p3)] [(.ref a1), (.int (2 : Int32))])) rfl rfl (hb hby d3_5)
  refine own_go (g' := (mkF m 8 #[.val (.ref a1), .val (.int p2), .val (.int p3)] [(.ref x2), (.int (2 : Int32))])) st_2 ?_
  have vq_3 := V2
  obtain ⟨c_3, a_3, -, s_3, m_3, -, -⟩ := vq_3
  refine own_go (T' := T_2) (g' := (mkF m 9 #[.val (.ref a1), .val (.int p2), .val (.int p3)] [(.int (16 : Int32)), (.int (2 : Int32))])) (fun t kt => ?_) ?_
  · refine X_2.arraylength hx (by rw [e_2]; exact a_3.1) (State.isArrayOf_alike hZ.alike a_3.2.1) (g := (mkF m 8 #[.val (.ref a1), .val (.int p2), .val (.int p3)] [(.ref x2), (.int (2 : Int32))])) rfl rfl (hb hby d3_8) _ ?_
    rw [len_of s_3 m_3]
    exact kt
  refine own_go (T' := T_2) (g' := (mkF m 47 #[.val (.ref a1), .val (.int p2), .val (.int p3)] [(.ref a1)])) (fun t kt => ?_) ?_
  · show Steps p.tables e below (T_2.setTop (mkF m 9 #[.val (.ref a1), .val (.int p2), .val (.int p3)] [(.int (16 : Int32)), (.int (2 : Int32))])) t
    refine XS.icmpYes X_2.here hx rfl (pc0 := 9) (pc' := 46) rfl (hb hby d3_9) rfl (feq (by decide : ¬ ((2 : Int32) = (16 : Int32)))).2 (by decide) (by decide) ?_
    show Steps p.tables e below (T_2.setTop (mkF m 46 #[.val (.ref a1), .val (.int p2), .val (.int p3)] [])) t
    refine XS.aloadN X_2.here hx rfl (hb hby d3_46) rfl rfl ?_
    exact kt
  obtain ⟨T_4, X_4, e_4, st_4⟩ := getF X_2 hx hZ hown (host := "") (Or.inl (hw _ (List.mem_of_getElem? (i := 12) rfl))) Via.refl e_2 F2 (g := (mkF m 47 #[.val (.ref a1), .val (.int p2), .val (.int p3)] [(.ref a1)])) rfl rfl (hb hby d3_47)
  refine own_go (g' := (mkF m 50 #[.val (.ref a1), .val (.int p2), .val (.int p3)] [(.ref x2)])) st_4 ?_
  refine own_go (T' := T_4) (g' := (mkF m 51 #[.val (.ref a1), .val (.int p2), .val (.int p3)] [(.ref a1), (.ref x2)])) (fun t kt => ?_) ?_
  · show Steps p.tables e below (T_4.setTop (mkF m 50 #[.val (.ref a1), .val (.int p2), .val (.int p3)] [(.ref x2)])) t
    refine XS.aloadN X_4.here hx rfl (hb hby d3_50) rfl rfl ?_
    exact kt
  obtain ⟨T_5, X_5, e_5, st_5⟩ := getF X_4 hx hZ hown (host := "") (Or.inl (hw _ (List.mem_of_getElem? (i := 21) rfl))) Via.refl e_4 F4 (g := (mkF m 51 #[.val (.ref a1), .val (.int p2), .val (.int p3)] [(.ref a1), (.ref x2)])) rfl rfl (hb hby d3_51)
  refine own_go (g' := (mkF m 54 #[.val (.ref a1), .val (.int p2), .val (.int p3)] [(.int (2 : Int32)), (.ref x2)])) st_5 ?_
  refine own_go (T' := T_5) (g' := (mkF m 55 #[.val (.ref a1), .val (.int p2), .val (.int p3)] [(.int p2), (.int (2 : Int32)), (.ref x2)])) (fun t kt => ?_) ?_
  · show Steps p.tables e below (T_5.setTop (mkF m 54 #[.val (.ref a1), .val (.int p2), .val (.int p3)] [(.int (2 : Int32)), (.ref x2)])) t
    refine XS.iloadN X_5.here hx rfl (hb hby d3_54) rfl ?_
    exact kt
  have vq_6 := V2
  obtain ⟨c_6, a_6, q_6, s_6, m_6, H_6, G_6⟩ := vq_6
  have hin_6 : ¬ ((2 : Int32) < 0 ∨ c_6.slots.size ≤ ((2 : Int32)).toNatClampNeg) := inb_of s_6 ⟨by decide, by decide⟩
  obtain ⟨T_6, h_6, X_6, e_6, W_6, st_6⟩ := stI X_5 hx hZ e_5 a_6 (j := (2 : Int32)) hin_6 (g := (mkF m 55 #[.val (.ref a1), .val (.int p2), .val (.int p3)] [(.int p2), (.int (2 : Int32)), (.ref x2)])) rfl rfl (hb hby d3_55)
  have V_6 : Arv Z h_6 x2 k2 .int (16 : Int32) (vl.set 2 (.int p2)) (.int (0 : Int32)) := Arv.set a_6 q_6 s_6 m_6 H_6 G_6 rfl W_6 2 rfl (by omega)
  have Z_6 : n0 ≤ h_6.size := Nat.le_trans Z0 (Keep.of_wr W_6).1
  have kk_6 : Keep h0 h_6 [a1, x2, x3] := (Keep.refl h0 [a1, x2, x3]).wr W_6 (Or.inl (List.mem_of_getElem? (i := 1) rfl))
  have N_6 := Fr.snoc X_6 N0 g_x2
  refine own_go (g' := (mkF m 56 #[.val (.ref a1), .val (.int p2), .val (.int p3)] [])) st_6 ?_
  refine own_go (T' := T_6) (g' := (mkF m 57 #[.val (.ref a1), .val (.int p2), .val (.int p3)] [(.ref a1)])) (fun t kt => ?_) ?_
  · show Steps p.tables e below (T_6.setTop (mkF m 56 #[.val (.ref a1), .val (.int p2), .val (.int p3)] [])) t
    refine XS.aloadN X_6.here hx rfl (hb hby d3_56) rfl rfl ?_
    exact kt
  have f_8 := (F3.other W_6 (Or.inl na2))
  obtain ⟨T_7, X_7, e_7, st_7⟩ := getF X_6 hx hZ hown (host := "") (Or.inl (hw _ (List.mem_of_getElem? (i := 14) rfl))) Via.refl e_6 f_8 (g := (mkF m 57 #[.val (.ref a1), .val (.int p2), .val (.int p3)] [(.ref a1)])) rfl rfl (hb hby d3_57)
  refine own_go (g' := (mkF m 60 #[.val (.ref a1), .val (.int p2), .val (.int p3)] [(.ref x3)])) st_7 ?_
  refine own_go (T' := T_7) (g' := (mkF m 61 #[.val (.ref a1), .val (.int p2), .val (.int p3)] [(.ref a1), (.ref x3)])) (fun t kt => ?_) ?_
  · show Steps p.tables e below (T_7.setTop (mkF m 60 #[.val (.ref a1), .val (.int p2), .val (.int p3)] [(.ref x3)])) t
    refine XS.aloadN X_7.here hx rfl (hb hby d3_60) rfl rfl ?_
    exact kt
  have f_10 := (F4.other W_6 (Or.inl na2))
  obtain ⟨T_9, X_9, e_9, st_9⟩ := getF X_7 hx hZ hown (host := "") (Or.inl (hw _ (List.mem_of_getElem? (i := 21) rfl))) Via.refl e_7 f_10 (g := (mkF m 61 #[.val (.ref a1), .val (.int p2), .val (.int p3)] [(.ref a1), (.ref x3)])) rfl rfl (hb hby d3_61)
  refine own_go (g' := (mkF m 64 #[.val (.ref a1), .val (.int p2), .val (.int p3)] [(.int (2 : Int32)), (.ref x3)])) st_9 ?_
  refine own_go (T' := T_9) (g' := (mkF m 65 #[.val (.ref a1), .val (.int p2), .val (.int p3)] [(.int p3), (.int (2 : Int32)), (.ref x3)])) (fun t kt => ?_) ?_
  · show Steps p.tables e below (T_9.setTop (mkF m 64 #[.val (.ref a1), .val (.int p2), .val (.int p3)] [(.int (2 : Int32)), (.ref x3)])) t
    refine XS.iloadN X_9.here hx rfl (hb hby d3_64) rfl ?_
    exact kt
  have f_12 := (V3.other W_6 (Ne.symm n23))
  have vq_11 := f_12
  obtain ⟨c_11, a_11, q_11, s_11, m_11, H_11, G_11⟩ := vq_11
  have hin_11 : ¬ ((2 : Int32) < 0 ∨ c_11.slots.size ≤ ((2 : Int32)).toNatClampNeg) := inb_of s_11 ⟨by decide, by decide⟩
  obtain ⟨T_11, h_11, X_11, e_11, W_11, st_11⟩ := stI X_9 hx hZ e_9 a_11 (j := (2 : Int32)) hin_11 (g := (mkF m 65 #[.val (.ref a1), .val (.int p2), .val (.int p3)] [(.int p3), (.int (2 : Int32)), (.ref x3)])) rfl rfl (hb hby d3_65)
  have V_11 : Arv Z h_11 x3 k3 .int (16 : Int32) (vt.set 2 (.int p3)) (.int (0 : Int32)) := Arv.set a_11 q_11 s_11 m_11 H_11 G_11 rfl W_11 2 rfl (by omega)
  have Z_11 : n0 ≤ h_11.size := Nat.le_trans Z_6 (Keep.of_wr W_11).1
  have kk_11 : Keep h0 h_11 [a1, x2, x3] := kk_6.wr W_11 (Or.inl (List.mem_of_getElem? (i := 2) rfl))
  have N_11 := Fr.snoc X_11 N_6 g_x3
  refine own_go (g' := (mkF m 66 #[.val (.ref a1), .val (.int p2), .val (.int p3)] [])) st_11 ?_
  refine own_go (T' := T_11) (g' := (mkF m 68 #[.val (.ref a1), .val (.int p2), .val (.int p3)] [(.ref a1), (.ref a1)])) (fun t kt => ?_) ?_
  · show Steps p.tables e below (T_11.setTop (mkF m 66 #[.val (.ref a1), .val (.int p2), .val (.int p3)] [])) t
    refine XS.aloadN X_11.here hx rfl (hb hby d3_66) rfl rfl ?_
    show Steps p.tables e below (T_11.setTop (mkF m 67 #[.val (.ref a1), .val (.int p2), .val (.int p3)] [(.ref a1)])) t
    refine XS.dup X_11.here hx rfl (hb hby d3_67) rfl rfl ?_
    exact kt
  have f_14 := (f_10.other W_11 (Or.inl na3))
  obtain ⟨T_13, X_13, e_13, st_13⟩ := getF X_11 hx hZ hown (host := "") (Or.inl (hw _ (List.mem_of_getElem? (i := 21) rfl))) Via.refl e_11 f_14 (g := (mkF m 68 #[.val (.ref a1), .val (.int p2), .val (.int p3)] [(.ref a1), (.ref a1)])) rfl rfl (hb hby d3_68)
  refine own_go (g' := (mkF m 71 #[.val (.ref a1), .val (.int p2), .val (.int p3)] [(.int (2 : Int32)), (.ref a1)])) st_13 ?_
  refine own_go (T' := T_13) (g' := (mkF m 73 #[.val (.ref a1), .val (.int p2), .val (.int p3)] [(.int (3 : Int32)), (.ref a1)])) (fun t kt => ?_) ?_
  · show Steps p.tables e below (T_13.setTop (mkF m 71 #[.val (.ref a1), .val (.int p2), .val (.int p3)] [(.int (2 : Int32)), (.ref a1)])) t
    refine XS.iconst X_13.here hx rfl (hb hby d3_71) ?_
    show Steps p.tables e below (T_13.setTop (mkF m 72 #[.val (.ref a1), .val (.int p2), .val (.int p3)] [(.int (1 : Int32)), (.int (2 : Int32)), (.ref a1)])) t
    refine XS.iadd X_13.here hx rfl (hb hby d3_72) rfl ?_
    exact kt
  have f_16 := ((E_a1.wr W_6).wr W_11)
  obtain ⟨T_15, h_15, X_15, e_15, W_15, st_15⟩ := putF X_13 hx hZ hown (host := "") (Or.inl (hw _ (List.mem_of_getElem? (i := 21) rfl))) Via.refl e_13 f_14 f_16 (Or.inl (hw _ (List.mem_of_getElem? (i := 22) rfl))) (hw _ (List.mem_of_getElem? (i := 1) rfl)) (ty := .int) (by decide) rfl rfl (g := (mkF m 73 #[.val (.ref a1), .val (.int p2), .val (.int p3)] [(.int (3 : Int32)), (.ref a1)])) rfl rfl (hb hby d3_73)
  have Fw_15 := f_14.same W_15
  have Z_15 : n0 ≤ h_15.size := Nat.le_trans Z_11 (Keep.of_wr W_15).1
  have kk_15 : Keep h0 h_15 [a1, x2, x3] := kk_11.wr W_15 (Or.inl (List.mem_of_getElem? (i := 0) rfl))
  have N_15 := Fr.snoc X_15 N_11 g_a1
  refine own_go (g' := (mkF m 76 #[.val (.ref a1), .val (.int p2), .val (.int p3)] [])) st_15 ?_
  have f_17 := (((F1.other W_6 (Or.inl na2)).other W_11 (Or.inl na3)).other W_15 (Or.inr (slot_ne (Or.inl (hw _ (List.mem_of_getElem? (i := 11) rfl))) (Or.inl (hw _ (List.mem_of_getElem? (i := 22) rfl))) (by decide) (t := (.array .int)) (t' := .int) (by decide) (by decide))))
  have f_18 := (((F2.other W_6 (Or.inl na2)).other W_11 (Or.inl na3)).other W_15 (Or.inr (slot_ne (Or.inl (hw _ (List.mem_of_getElem? (i := 13) rfl))) (Or.inl (hw _ (List.mem_of_getElem? (i := 22) rfl))) (by decide) (t := (.array .int)) (t' := .int) (by decide) (by decide))))
  have f_19 := ((f_8.other W_11 (Or.inl na3)).other W_15 (Or.inr (slot_ne (Or.inl (hw _ (List.mem_of_getElem? (i := 15) rfl))) (Or.inl (hw _ (List.mem_of_getElem? (i := 22) rfl))) (by decide) (t := (.array .int)) (t' := .int) (by decide) (by decide))))
  have f_20 := (((F5.other W_6 (Or.inl na2)).other W_11 (Or.inl na3)).other W_15 (Or.inr (slot_ne (Or.inl (hw _ (List.mem_of_getElem? (i := 65) rfl))) (Or.inl (hw _ (List.mem_of_getElem? (i := 22) rfl))) (by decide) (t := .int) (t' := .int) (by decide) (by decide))))
  have f_21 := ((V_6.other W_11 n23).other W_15 (Ne.symm na2))
  have f_22 := (V_11.other W_15 (Ne.symm na3))
  obtain ⟨fs, hr, hrun, hended, hW, hsame⟩ := X_15.leave (v := none) (fun _ => rfl)
  refine ⟨_, _, ?_, hrun, hended, _, _, rfl, ?_, ⟨_, rfl⟩, hW, hsame.mono (by decide) (by decide)⟩
  · exact X_15.returnOut hx Bd.returns (hb hby d3_76) hr
  · show Q_radd2 Z _ _ _ _ _ _ _ _ _ _ h0 n0 _ T_15.heap _
    rw [e_15]
    exact ⟨rfl, N_15, kk_15, f_17, f_18, f_19, Fw_15, f_20, f_21, f_22⟩
theorem pn_6 : plainName "java/util/AbstractCollection" = true := by first | (simp [plainName, overriddenIn]; done) | decide +kernel
theorem ef_6 (m : MethodId) (x0 : Addr) : entryFrame m #[(.ref x0)] 1 = mkF m 0 #[.val (.ref x0)] [] := by first | (simp [entryFrame, mkF, argsToLocals, Value.category]; done) | rfl
def Q_rac (Z : State) (a1 : Addr) (h0 : Heap) (n0 : Nat) (v : Option Value) (h : Heap) (L : List Loc) : Prop := v = none ∧ Fr n0 L ∧ h = h0
theorem d6_0 : decode jdk_22_method_1_code 0 = .ok (.aload_n 0, 1) := by decide +kernel
theorem d6_1 : decode jdk_22_method_1_code 1 = .ok (.invokespecial 1, 3) := by decide +kernel
theorem d6_4 : decode jdk_22_method_1_code 4 = .ok (.return_, 1) := by decide +kernel
set_option maxRecDepth 65536 in
set_option maxHeartbeats 40000000 in
theorem rac (l : Launch) (Z : State) (a0 : Array Value) (hw : ∀ d ∈ tables_1, d.before a0 Z = true) (ws : List Jvm.Cond) (a1 : Addr) (h0 : Heap) (n0 : Nat) (Z0 : n0 ≤ h0.size)  :
    MetFree l (⟨"java/util/AbstractCollection", "<init>", "()V"⟩ : MethodName) (head1 (Jvm.Cond.code (⟨"java/util/AbstractCollection", "<init>", "()V"⟩ : MethodName) jdk_22_method_1_code 1 none :: ws) ({ frames := 1, cells := 0, slots := 0, locals := 12 } : Room)) (fun a U => a = #[(.ref a1)] ∧ Z.Warmed39 U.vm ∧ U.heap = h0) (fun _ _ _ _ _ => True) (fun _ U o U' => ∃ v L, o = .returned v ∧ Q_rac Z a1 h0 n0 v U'.heap L ∧ FrameEnd U o U' L ({ frames := 1, cells := 0, slots := 0, locals := 12 } : Room).cells ({ frames := 1, cells := 0, slots := 0, locals := 12 } : Room).slots) := by
  refine MetFree.of_bodySF (plainFor_of_name pn_6) hisR ?_
  intro p e s m args below meth c s₁ Bd hml0 hP hK
  obtain ⟨rfl, hZ, hh⟩ := hP
  have hx := Bd.exec
  have hby := Bd.bytes
  have hml : c.maxLocals = 1 := hml0
  have hown : s.vm.findClass "java/util/AbstractCollection" = some m.cls := findClass_of_methodNamed Bd.named
  have hnm := (name_of_methodNamed Bd.named Bd.method).1
  have X0 : Stand p l e ({ frames := 1, cells := 0, slots := 0, locals := 12 } : Room) s m #[(.ref a1)] below meth c s₁ [] 0 0 := Stand.of_body Bd
  have e0 : s₁.heap = h0 := by rw [← hh, Bd.state]; rfl
  have N0 := Fr.nil n0
  refine own_go (g' := (mkF m 0 #[.val (.ref a1)] [])) (fun t k => castTop (ef_6 m (a1)) k) ?_
  refine own_go (T' := s₁) (g' := (mkF m 1 #[.val (.ref a1)] [(.ref a1)])) (fun t kt => ?_) ?_
  · show Steps p.tables e below (s₁.setTop (mkF m 0 #[.val (.ref a1)] [])) t
    refine XS.aloadN X0.here hx rfl (hb hby d6_0) rfl rfl ?_
    exact kt
  obtain ⟨T_1, X_1, e_1, st_1⟩ := initO X0 hx hZ hown (hw _ (List.mem_of_getElem? (i := 41) rfl)) (hw _ (List.mem_of_getElem? (i := 7) rfl)) (hw _ (List.mem_of_getElem? (i := 8) rfl)) e0 (g := (mkF m 1 #[.val (.ref a1)] [(.ref a1)])) rfl (by rw [hml]; rfl) rfl (hb hby d6_1) (by decide) (W := 0) (by show 2 * 0 + _ ≤ _; exact Nat.le_of_eq rfl) (by decide)
  refine own_go (g' := (mkF m 4 #[.val (.ref a1)] [])) st_1 ?_
  obtain ⟨fs, hr, hrun, hended, hW, hsame⟩ := X_1.leave (v := none) (fun _ => rfl)
  refine ⟨_, _, ?_, hrun, hended, _, _, rfl, ?_, ⟨_, rfl⟩, hW, hsame.mono (by decide) (by decide)⟩
  · exact X_1.returnOut hx Bd.returns (hb hby d6_4) hr
  · show Q_rac Z _ h0 n0 _ T_1.heap _
    rw [e_1]
    exact ⟨rfl, N0, rfl⟩
theorem pn_5 : plainName "java/util/AbstractList" = true := by first | (simp [plainName, overriddenIn]; done) | decide +kernel
theorem ef_5 (m : MethodId) (x0 : Addr) : entryFrame m #[(.ref x0)] 1 = mkF m 0 #[.val (.ref x0)] [] := by first | (simp [entryFrame, mkF, argsToLocals, Value.category]; done) | rfl
def Q_rabl (Z : State) (a1 : Addr) (h0 : Heap) (n0 : Nat) (v : Option Value) (h : Heap) (L : List Loc) : Prop := v = none ∧ Fr n0 L ∧ Keep h0 h [a1] ∧ Fld Z h a1 "java/util/ArrayList" "elementData" "[Ljava/lang/Object;" .null
theorem d5_0 : decode jdk_39_method_1_code 0 = .ok (.aload_n 0, 1) := by decide +kernel
theorem d5_1 : decode jdk_39_method_1_code 1 = .ok (.invokespecial 1, 3) := by decide +kernel
theorem pd_0 : parseMethodDescriptor "()V" = some ⟨[], none⟩ := by decide +kernel
theorem d5_4 : decode jdk_39_method_1_code 4 = .ok (.aload_n 0, 1) := by decide +kernel
theorem d5_5 : decode jdk_39_method_1_code 5 = .ok (.iconst 0, 1) := by decide +kernel
theorem d5_6 : decode jdk_39_method_1_code 6 = .ok (.putfield 7, 3) := by decide +kernel
theorem d5_9 : decode jdk_39_method_1_code 9 = .ok (.return_, 1) := by decide +kernel
set_option maxRecDepth 65536 in
set_option maxHeartbeats 40000000 in
theorem rabl (l : Launch) (Z : State) (a0 : Array Value) (hw : ∀ d ∈ tables_1, d.before a0 Z = true) (ws : List Jvm.Cond) (a1 : Addr) (h0 : Heap) (n0 : Nat) (Z0 : n0 ≤ h0.size) (E_a1 : Exa Z h0 a1 "java/util/ArrayList") (F1 : Fld Z h0 a1 "java/util/AbstractList" "modCount" "I" (.int (0 : Int32))) (F2 : Fld Z h0 a1 "java/util/ArrayList" "elementData" "[Ljava/lang/Object;" .null) (g_a1 : n0 ≤ a1) :
    MetFree l (⟨"java/util/AbstractList", "<init>", "()V"⟩ : MethodName) (head1 (Jvm.Cond.code (⟨"java/util/AbstractList", "<init>", "()V"⟩ : MethodName) jdk_39_method_1_code 1 none :: ws) ({ frames := 2, cells := 0, slots := 0, locals := 24 } : Room)) (fun a U => a = #[(.ref a1)] ∧ Z.Warmed39 U.vm ∧ U.heap = h0) (fun _ _ _ _ _ => True) (fun _ U o U' => ∃ v L, o = .returned v ∧ Q_rabl Z a1 h0 n0 v U'.heap L ∧ FrameEnd U o U' L ({ frames := 2, cells := 0, slots := 0, locals := 24 } : Room).cells ({ frames := 2, cells := 0, slots := 0, locals := 24 } : Room).slots) := by
  refine MetFree.of_bodySF (plainFor_of_name pn_5) hisR ?_
  intro p e s m args below meth c s₁ Bd hml0 hP hK
  obtain ⟨rfl, hZ, hh⟩ := hP
  have hx := Bd.exec
  have hby := Bd.bytes
  have hml : c.maxLocals = 1 := hml0
  have hown : s.vm.findClass "java/util/AbstractList" = some m.cls := findClass_of_methodNamed Bd.named
  have hnm := (name_of_methodNamed Bd.named Bd.method).1
  have X0 : Stand p l e ({ frames := 2, cells := 0, slots := 0, locals := 24 } : Room) s m #[(.ref a1)] below meth c s₁ [] 0 0 := Stand.of_body Bd
  have e0 : s₁.heap = h0 := by rw [← hh, Bd.state]; rfl
  have N0 := Fr.nil n0
  refine own_go (g' := (mkF m 0 #[.val (.ref a1)] [])) (fun t k => castTop (ef_5 m (a1)) k) ?_
  refine own_go (T' := s₁) (g' := (mkF m 1 #[.val (.ref a1)] [(.ref a1)])) (fun t kt => ?_) ?_
  · show Steps p.tables e below (s₁.setTop (mkF m 0 #[.val (.ref a1)] [])) t
    refine XS.aloadN X0.here hx rfl (hb hby d5_0) rfl rfl ?_
    exact kt
  obtain ⟨_, _, ⟨T_1, L_1, k_1, n_1⟩, -, X_1, ⟨Lc_1, hQ_1, l_1, y_1, z_1⟩, st_1⟩ := X0.specialBack hx (y := (⟨"java/util/AbstractCollection", "<init>", "()V"⟩ : MethodName)) rfl hown (mvT hZ (hw _ (List.mem_of_getElem? (i := 35) rfl))) (mvT hZ (hw _ (List.mem_of_getElem? (i := 36) rfl))) (mvT hZ (hw _ (List.mem_of_getElem? (i := 40) rfl))) (by decide) (backOf (W := 0) (rac l Z a0 hw [] (a1)  h0 n0 Z0 ) hZ (hw _ (List.mem_of_getElem? (i := 40) rfl)) (hw _ (List.mem_of_getElem? (i := 39) rfl)) (by decide) (by decide)) (g := (mkF m 1 #[.val (.ref a1)] [(.ref a1)])) rfl (by rw [hml]; rfl) (Steps.refl _) (a := a1) (argsL := []) (rest := []) (lenOf pd_0 rfl) rfl (by show 2 * 0 + _ ≤ _; exact Nat.le_of_eq rfl) (hb hby d5_1) (fun _ _ => ⟨rfl, e0, (by decide : 0 + 0 ≤ _), (by decide : 0 + 0 ≤ _)⟩)
  dsimp only [Pt.U, Pt.locs, Pt.cells, Pt.slots] at X_1 l_1 y_1 z_1 st_1 hQ_1
  subst l_1 y_1 z_1
  obtain ⟨rfl, N_1q, e_1⟩ := hQ_1
  have N_1 := Fr.app N0 N_1q
  refine own_go (g' := (mkF m 4 #[.val (.ref a1)] [])) (fun t kt => st_1.trans kt) ?_
  refine own_go (T' := T_1) (g' := (mkF m 6 #[.val (.ref a1)] [(.int (0 : Int32)), (.ref a1)])) (fun t kt => ?_) ?_
  · show Steps p.tables e below (T_1.setTop (mkF m 4 #[.val (.ref a1)] [])) t
    refine XS.aloadN X_1.here hx rfl (hb hby d5_4) rfl rfl ?_
    show Steps p.tables e below (T_1.setTop (mkF m 5 #[.val (.ref a1)] [(.ref a1)])) t
    refine XS.iconst X_1.here hx rfl (hb hby d5_5) ?_
    exact kt
  obtain ⟨T_2, h_2, X_2, e_2, W_2, st_2⟩ := putF X_1 hx hZ hown (host := "") (Or.inl (hw _ (List.mem_of_getElem? (i := 42) rfl))) Via.refl e_1 F1 E_a1 (Or.inl (hw _ (List.mem_of_getElem? (i := 43) rfl))) (hw _ (List.mem_of_getElem? (i := 24) rfl)) (ty := .int) (by decide) rfl rfl (g := (mkF m 6 #[.val (.ref a1)] [(.int (0 : Int32)), (.ref a1)])) rfl rfl (hb hby d5_6)
  have Fw_2 := F1.same W_2
  have Z_2 : n0 ≤ h_2.size := Nat.le_trans Z0 (Keep.of_wr W_2).1
  have kk_2 : Keep h0 h_2 [a1] := (Keep.refl h0 [a1]).wr W_2 (Or.inl (List.mem_of_getElem? (i := 0) rfl))
  have N_2 := Fr.snoc X_2 N_1 g_a1
  refine own_go (g' := (mkF m 9 #[.val (.ref a1)] [])) st_2 ?_
  have f_3 := (F2.other W_2 (Or.inr (slot_ne (Or.inl (hw _ (List.mem_of_getElem? (i := 46) rfl))) (Or.inl (hw _ (List.mem_of_getElem? (i := 43) rfl))) (by decide) (t := (.array (.object "java/lang/Object"))) (t' := .int) (by decide) (by decide))))
  obtain ⟨fs, hr, hrun, hended, hW, hsame⟩ := X_2.leave (v := none) (fun _ => rfl)
  refine ⟨_, _, ?_, hrun, hended, _, _, rfl, ?_, ⟨_, rfl⟩, hW, hsame.mono (by decide) (by decide)⟩
  · exact X_2.returnOut hx Bd.returns (hb hby d5_9) hr
  · show Q_rabl Z _ h0 n0 _ T_2.heap _
    rw [e_2]
    exact ⟨rfl, N_2, kk_2, f_3⟩
theorem pn_4 : plainName "java/util/ArrayList" = true := by first | (simp [plainName, overriddenIn]; done) | decide +kernel
theorem ef_4 (m : MethodId) (x0 : Addr) : entryFrame m #[(.ref x0)] 1 = mkF m 0 #[.val (.ref x0)] [] := by first | (simp [entryFrame, mkF, argsToLocals, Value.category]; done) | rfl
def Q_ral (Z : State) (a1 : Addr) (dc : Addr) (h0 : Heap) (n0 : Nat) (v : Option Value) (h : Heap) (L : List Loc) : Prop := v = none ∧ Fr n0 L ∧ Keep h0 h [a1]
theorem d4_0 : decode jdk_38_method_2_code 0 = .ok (.aload_n 0, 1) := by decide +kernel
theorem d4_1 : decode jdk_38_method_2_code 1 = .ok (.invokespecial 1, 3) := by decide +kernel
theorem d4_4 : decode jdk_38_method_2_code 4 = .ok (.aload_n 0, 1) := by decide +kernel
theorem d4_5 : decode jdk_38_method_2_code 5 = .ok (.getstatic 39, 3) := by decide +kernel
theorem d4_8 : decode jdk_38_method_2_code 8 = .ok (.putfield 9, 3) := by decide +kernel
theorem d4_11 : decode jdk_38_method_2_code 11 = .ok (.return_, 1) := by decide +kernel
set_option maxRecDepth 65536 in
set_option maxHeartbeats 40000000 in
theorem ral (l : Launch) (Z : State) (a0 : Array Value) (hw : ∀ d ∈ tables_1, d.before a0 Z = true) (ws : List Jvm.Cond) (a1 : Addr) (dc : Addr) (h0 : Heap) (n0 : Nat) (Z0 : n0 ≤ h0.size) (E_a1 : Exa Z h0 a1 "java/util/ArrayList") (F1 : Fld Z h0 a1 "java/util/AbstractList" "modCount" "I" (.int (0 : Int32))) (F2 : Fld Z h0 a1 "java/util/ArrayList" "elementData" "[Ljava/lang/Object;" .null) (g_a1 : n0 ≤ a1) (O0 : Old Z n0 h0) (S0 : Sta Z Z.heap "java/util/ArrayList" "DEFAULTCAPACITY_EMPTY_ELEMENTDATA" "[Ljava/lang/Object;" (.ref dc)) :
    MetFree l (⟨"java/util/ArrayList", "<init>", "()V"⟩ : MethodName) (head1 (Jvm.Cond.code (⟨"java/util/ArrayList", "<init>", "()V"⟩ : MethodName) jdk_38_method_2_code 1 none :: ws) ({ frames := 3, cells := 0, slots := 0, locals := 36 } : Room)) (fun a U => a = #[(.ref a1)] ∧ Z.Warmed39 U.vm ∧ U.heap = h0) (fun _ _ _ _ _ => True) (fun _ U o U' => ∃ v L, o = .returned v ∧ Q_ral Z a1 dc h0 n0 v U'.heap L ∧ FrameEnd U o U' L ({ frames := 3, cells := 0, slots := 0, locals := 36 } : Room).cells ({ frames := 3, cells := 0, slots := 0, locals := 36 } : Room).slots) := by
  refine MetFree.of_bodySF (plainFor_of_name pn_4) hisR ?_
  intro p e s m args below meth c s₁ Bd hml0 hP hK
  obtain ⟨rfl, hZ, hh⟩ := hP
  have hx := Bd.exec
  have hby := Bd.bytes
  have hml : c.maxLocals = 1 := hml0
  have hown : s.vm.findClass "java/util/ArrayList" = some m.cls := findClass_of_methodNamed Bd.named
  have hnm := (name_of_methodNamed Bd.named Bd.method).1
  have X0 : Stand p l e ({ frames := 3, cells := 0, slots := 0, locals := 36 } : Room) s m #[(.ref a1)] below meth c s₁ [] 0 0 := Stand.of_body Bd
  have e0 : s₁.heap = h0 := by rw [← hh, Bd.state]; rfl
  have N0 := Fr.nil n0
  refine own_go (g' := (mkF m 0 #[.val (.ref a1)] [])) (fun t k => castTop (ef_4 m (a1)) k) ?_
  refine own_go (T' := s₁) (g' := (mkF m 1 #[.val (.ref a1)] [(.ref a1)])) (fun t kt => ?_) ?_
  · show Steps p.tables e below (s₁.setTop (mkF m 0 #[.val (.ref a1)] [])) t
    refine XS.aloadN X0.here hx rfl (hb hby d4_0) rfl rfl ?_
    exact kt
  obtain ⟨_, _, ⟨T_1, L_1, k_1, n_1⟩, -, X_1, ⟨Lc_1, hQ_1, l_1, y_1, z_1⟩, st_1⟩ := X0.specialBack hx (y := (⟨"java/util/AbstractList", "<init>", "()V"⟩ : MethodName)) rfl hown (mvT hZ (hw _ (List.mem_of_getElem? (i := 29) rfl))) (mvT hZ (hw _ (List.mem_of_getElem? (i := 30) rfl))) (mvT hZ (hw _ (List.mem_of_getElem? (i := 34) rfl))) (by decide) (backOf (W := 0) (rabl l Z a0 hw [] (a1)  h0 n0 Z0 E_a1 F1 F2 g_a1) hZ (hw _ (List.mem_of_getElem? (i := 34) rfl)) (hw _ (List.mem_of_getElem? (i := 33) rfl)) (by decide) (by decide)) (g := (mkF m 1 #[.val (.ref a1)] [(.ref a1)])) rfl (by rw [hml]; rfl) (Steps.refl _) (a := a1) (argsL := []) (rest := []) (lenOf pd_0 rfl) rfl (by show 2 * 0 + _ ≤ _; exact Nat.le_of_eq rfl) (hb hby d4_1) (fun _ _ => ⟨rfl, e0, (by decide : 0 + 0 ≤ _), (by decide : 0 + 0 ≤ _)⟩)
  dsimp only [Pt.U, Pt.locs, Pt.cells, Pt.slots] at X_1 l_1 y_1 z_1 st_1 hQ_1
  subst l_1 y_1 z_1
  obtain ⟨rfl, N_1q, K_1, F_1⟩ := hQ_1
  have N_1 := Fr.app N0 N_1q
  have Z_1 : n0 ≤ T_1.heap.size := Nat.le_trans Z0 K_1.1
  have kk_1 : Keep h0 T_1.heap [a1] := (Keep.refl h0 [a1]).trans K_1 (allS (Or.inl (List.mem_of_getElem? (i := 0) rfl)) all0)
  refine own_go (g' := (mkF m 4 #[.val (.ref a1)] [])) (fun t kt => st_1.trans kt) ?_
  refine own_go (T' := T_1) (g' := (mkF m 5 #[.val (.ref a1)] [(.ref a1)])) (fun t kt => ?_) ?_
  · show Steps p.tables e below (T_1.setTop (mkF m 4 #[.val (.ref a1)] [])) t
    refine XS.aloadN X_1.here hx rfl (hb hby d4_4) rfl rfl ?_
    exact kt
  have f_3 := (O0.keep K_1 (allS g_a1 all0))
  obtain ⟨T_2, X_2, e_2, st_2⟩ := getS2 X_1 hx hZ hown (host := "") (Or.inl (hw _ (List.mem_of_getElem? (i := 44) rfl))) Via.refl rfl (Sta.ext f_3.2 S0) (g := (mkF m 5 #[.val (.ref a1)] [(.ref a1)])) rfl (hb hby d4_5)
  refine own_go (g' := (mkF m 8 #[.val (.ref a1)] [(.ref dc), (.ref a1)])) st_2 ?_
  have f_5 := (E_a1.keep K_1)
  obtain ⟨T_4, h_4, X_4, e_4, W_4, st_4⟩ := putF X_2 hx hZ hown (host := "") (Or.inl (hw _ (List.mem_of_getElem? (i := 45) rfl))) Via.refl e_2 F_1 f_5 (Or.inl (hw _ (List.mem_of_getElem? (i := 46) rfl))) (hw _ (List.mem_of_getElem? (i := 24) rfl)) (ty := (.array (.object "java/lang/Object"))) (by decide) rfl rfl (g := (mkF m 8 #[.val (.ref a1)] [(.ref dc), (.ref a1)])) rfl rfl (hb hby d4_8)
  have Fw_4 := F_1.same W_4
  have Z_4 : n0 ≤ h_4.size := Nat.le_trans Z_1 (Keep.of_wr W_4).1
  have kk_4 : Keep h0 h_4 [a1] := kk_1.wr W_4 (Or.inl (List.mem_of_getElem? (i := 0) rfl))
  have N_4 := Fr.snoc X_4 N_1 g_a1
  refine own_go (g' := (mkF m 11 #[.val (.ref a1)] [])) st_4 ?_
  obtain ⟨fs, hr, hrun, hended, hW, hsame⟩ := X_4.leave (v := none) (fun _ => rfl)
  refine ⟨_, _, ?_, hrun, hended, _, _, rfl, ?_, ⟨_, rfl⟩, hW, hsame.mono (by decide) (by decide)⟩
  · exact X_4.returnOut hx Bd.returns (hb hby d4_11) hr
  · show Q_ral Z _ _ h0 n0 _ T_4.heap _
    rw [e_4]
    exact ⟨rfl, N_4, kk_4⟩
theorem ef_10 (m : MethodId) (x0 : Int32) (x1 : Int32) : entryFrame m #[(.int x0), (.int x1)] 2 = mkF m 0 #[.val (.int x0), .val (.int x1)] [] := by first | (simp [entryFrame, mkF, argsToLocals, Value.category]; done) | rfl
def Q_rmn1 (Z : State)  (h0 : Heap) (n0 : Nat) (v : Option Value) (h : Heap) (L : List Loc) : Prop := v = some (.int (1 : Int32)) ∧ Fr n0 L ∧ h = h0
theorem d10_0 : decode jdk_29_method_69_code 0 = .ok (.iload_n 0, 1) := by decide +kernel
theorem d10_1 : decode jdk_29_method_69_code 1 = .ok (.iload_n 1, 1) := by decide +kernel
theorem d10_2 : decode jdk_29_method_69_code 2 = .ok (.if_icmp .gt 7, 3) := by decide +kernel
theorem d10_9 : decode jdk_29_method_69_code 9 = .ok (.iload_n 1, 1) := by decide +kernel
theorem d10_10 : decode jdk_29_method_69_code 10 = .ok (.ireturn, 1) := by decide +kernel
set_option maxRecDepth 65536 in
set_option maxHeartbeats 40000000 in
theorem rmn1 (l : Launch) (Z : State) (a0 : Array Value) (hw : ∀ d ∈ tables_1, d.before a0 Z = true) (ws : List Jvm.Cond)  (h0 : Heap) (n0 : Nat) (Z0 : n0 ≤ h0.size)  :
    MetFree l (⟨"java/lang/Math", "min", "(II)I"⟩ : MethodName) (head1 (Jvm.Cond.code (⟨"java/lang/Math", "min", "(II)I"⟩ : MethodName) jdk_29_method_69_code 2 (some .int) :: ws) ({ frames := 0, cells := 0, slots := 0, locals := 0 } : Room)) (fun a U => a = #[(.int (16 : Int32)), (.int (1 : Int32))] ∧ Z.Warmed39 U.vm ∧ U.heap = h0) (fun _ _ _ _ _ => True) (fun _ U o U' => ∃ v L, o = .returned v ∧ Q_rmn1 Z  h0 n0 v U'.heap L ∧ FrameEnd U o U' L ({ frames := 0, cells := 0, slots := 0, locals := 0 } : Room).cells ({ frames := 0, cells := 0, slots := 0, locals := 0 } : Room).slots) := by
  refine MetFree.of_bodySF (Jvm.Free.JP.mathPlain rfl (by decide +kernel)) hisR ?_
  intro p e s m args below meth c s₁ Bd hml0 hP hK
  obtain ⟨rfl, hZ, hh⟩ := hP
  have hx := Bd.exec
  have hby := Bd.bytes
  have hml : c.maxLocals = 2 := hml0
  have hown : s.vm.findClass "java/lang/Math" = some m.cls := findClass_of_methodNamed Bd.named
  have hnm := (name_of_methodNamed Bd.named Bd.method).1
  have X0 : Stand p l e ({ frames := 0, cells := 0, slots := 0, locals := 0 } : Room) s m #[(.int (16 : Int32)), (.int (1 : Int32))] below meth c s₁ [] 0 0 := Stand.of_body Bd
  have e0 : s₁.heap = h0 := by rw [← hh, Bd.state]; rfl
  have N0 := Fr.nil n0
  refine own_go (g' := (mkF m 0 #[.val (.int (16 : Int32)), .val (.int (1 : Int32))] [])) (fun t k => castTop (ef_10 m ((16 : Int32)) ((1 : Int32))) k) ?_
  refine own_go (T' := s₁) (g' := (mkF m 10 #[.val (.int (16 : Int32)), .val (.int (1 : Int32))] [(.int (1 : Int32))])) (fun t kt => ?_) ?_
  · show Steps p.tables e below (s₁.setTop (mkF m 0 #[.val (.int (16 : Int32)), .val (.int (1 : Int32))] [])) t
    refine XS.iloadN X0.here hx rfl (hb hby d10_0) rfl ?_
    show Steps p.tables e below (s₁.setTop (mkF m 1 #[.val (.int (16 : Int32)), .val (.int (1 : Int32))] [(.int (16 : Int32))])) t
    refine XS.iloadN X0.here hx rfl (hb hby d10_1) rfl ?_
    show Steps p.tables e below (s₁.setTop (mkF m 2 #[.val (.int (16 : Int32)), .val (.int (1 : Int32))] [(.int (1 : Int32)), (.int (16 : Int32))])) t
    refine XS.icmpYes X0.here hx rfl (pc0 := 2) (pc' := 9) rfl (hb hby d10_2) rfl (tlt (by decide : (1 : Int32) < (16 : Int32))).2.2.1 (by decide) (by decide) ?_
    show Steps p.tables e below (s₁.setTop (mkF m 9 #[.val (.int (16 : Int32)), .val (.int (1 : Int32))] [])) t
    refine XS.iloadN X0.here hx rfl (hb hby d10_9) rfl ?_
    exact kt
  obtain ⟨fs, hr, hrun, hended, hW, hsame⟩ := X0.leave (v := some (.int (1 : Int32))) (fun h => by rw [Bd.returns] at h; cases h)
  refine ⟨_, _, ?_, hrun, hended, _, _, rfl, ?_, ⟨_, rfl⟩, hW, hsame.mono (by decide) (by decide)⟩
  · exact retI X0 hx Bd.returns (hb hby d10_10) hr
  · show Q_rmn1 Z  h0 n0 _ s₁.heap _
    rw [e0]
    exact ⟨rfl, N0, rfl⟩
theorem pn_9 : plainName "java/util/Arrays" = true := by first | (simp [plainName, overriddenIn]; done) | decide +kernel
theorem ef_9 (m : MethodId) (x0 : Addr) (x1 : Int32) : entryFrame m #[(.ref x0), (.int x1)] 3 = mkF m 0 #[.val (.ref x0), .val (.int x1), .unset] [] := by first | (simp [entryFrame, mkF, argsToLocals, Value.category]; done) | rfl
def Q_rcp1 (Z : State) (a1 : Addr) (kA : ClassId) (vs : List Value) (h0 : Heap) (n0 : Nat) (v : Option Value) (h : Heap) (L : List Loc) : Prop := ∃ b kB, v = some (.ref b) ∧ Fr n0 L ∧ Keep h0 h [] ∧ h0.size ≤ b ∧ Arv Z h b kB .int (1 : Int32) [(vs.getD 0 (.int (0 : Int32)))] (.int (0 : Int32))
theorem d9_0 : decode jdk_65_method_123_code 0 = .ok (.iload_n 1, 1) := by decide +kernel
theorem d9_1 : decode jdk_65_method_123_code 1 = .ok (.aload_n 0, 1) := by decide +kernel
theorem d9_2 : decode jdk_65_method_123_code 2 = .ok (.arraylength, 1) := by decide +kernel
theorem d9_3 : decode jdk_65_method_123_code 3 = .ok (.if_icmp .ne 11, 3) := by decide +kernel
theorem d9_14 : decode jdk_65_method_123_code 14 = .ok (.iload_n 1, 1) := by decide +kernel
theorem d9_15 : decode jdk_65_method_123_code 15 = .ok (.newarray .int, 2) := by decide +kernel
theorem d9_17 : decode jdk_65_method_123_code 17 = .ok (.astore_n 2, 1) := by decide +kernel
theorem d9_18 : decode jdk_65_method_123_code 18 = .ok (.aload_n 0, 1) := by decide +kernel
theorem d9_19 : decode jdk_65_method_123_code 19 = .ok (.iconst 0, 1) := by decide +kernel
theorem d9_20 : decode jdk_65_method_123_code 20 = .ok (.aload_n 2, 1) := by decide +kernel
theorem d9_21 : decode jdk_65_method_123_code 21 = .ok (.iconst 0, 1) := by decide +kernel
theorem d9_22 : decode jdk_65_method_123_code 22 = .ok (.aload_n 0, 1) := by decide +kernel
theorem d9_23 : decode jdk_65_method_123_code 23 = .ok (.arraylength, 1) := by decide +kernel
theorem d9_24 : decode jdk_65_method_123_code 24 = .ok (.iload_n 1, 1) := by decide +kernel
theorem d9_25 : decode jdk_65_method_123_code 25 = .ok (.invokestatic 304, 3) := by decide +kernel
theorem pd_5 : parseMethodDescriptor "(II)I" = some ⟨[.int, .int], some .int⟩ := by decide +kernel
theorem d9_28 : decode jdk_65_method_123_code 28 = .ok (.invokestatic 150, 3) := by decide +kernel
theorem d9_31 : decode jdk_65_method_123_code 31 = .ok (.aload_n 2, 1) := by decide +kernel
theorem d9_32 : decode jdk_65_method_123_code 32 = .ok (.areturn, 1) := by decide +kernel
set_option maxRecDepth 65536 in
set_option maxHeartbeats 40000000 in
theorem rcp1 (l : Launch) (Z : State) (a0 : Array Value) (hw : ∀ d ∈ tables_1, d.before a0 Z = true) (ws : List Jvm.Cond) (a1 : Addr) (kA : ClassId) (vs : List Value) (h0 : Heap) (n0 : Nat) (Z0 : n0 ≤ h0.size) (V0 : Arv Z h0 a1 kA .int (16 : Int32) vs (.int (0 : Int32))) :
    MetFree l (⟨"java/util/Arrays", "copyOf", "([II)[I"⟩ : MethodName) (head1 (Jvm.Cond.code (⟨"java/util/Arrays", "copyOf", "([II)[I"⟩ : MethodName) jdk_65_method_123_code 3 (some (.array .int)) :: ws) ({ frames := 1, cells := 1, slots := 1, locals := 24 } : Room)) (fun a U => a = #[(.ref a1), (.int (1 : Int32))] ∧ Z.Warmed39 U.vm ∧ U.heap = h0) (fun _ _ _ _ _ => True) (fun _ U o U' => ∃ v L, o = .returned v ∧ Q_rcp1 Z a1 kA vs h0 n0 v U'.heap L ∧ FrameEnd U o U' L ({ frames := 1, cells := 1, slots := 1, locals := 24 } : Room).cells ({ frames := 1, cells := 1, slots := 1, locals := 24 } : Room).slots) := by
  refine MetFree.of_bodySF (plainFor_of_name pn_9) hisR ?_
  intro p e s m args below meth c s₁ Bd hml0 hP hK
  obtain ⟨rfl, hZ, hh⟩ := hP
  have hx := Bd.exec
  have hby := Bd.bytes
  have hml : c.maxLocals = 3 := hml0
  have hown : s.vm.findClass "java/util/Arrays" = some m.cls := findClass_of_methodNamed Bd.named
  have hnm := (name_of_methodNamed Bd.named Bd.method).1
  have X0 : Stand p l e ({ frames := 1, cells := 1, slots := 1, locals := 24 } : Room) s m #[(.ref a1), (.int (1 : Int32))] below meth c s₁ [] 0 0 := Stand.of_body Bd
  have e0 : s₁.heap = h0 := by rw [← hh, Bd.state]; rfl
  have N0 := Fr.nil n0
  refine own_go (g' := (mkF m 0 #[.val (.ref a1), .val (.int (1 : Int32)), .unset] [])) (fun t k => castTop (ef_9 m (a1) ((1 : Int32))) k) ?_
  refine own_go (T' := s₁) (g' := (mkF m 2 #[.val (.ref a1), .val (.int (1 : Int32)), .unset] [(.ref a1), (.int (1 : Int32))])) (fun t kt => ?_) ?_
  · show Steps p.tables e below (s₁.setTop (mkF m 0 #[.val (.ref a1), .val (.int (1 : Int32)), .unset] [])) t
    refine XS.iloadN X0.here hx rfl (hb hby d9_0) rfl ?_
    show Steps p.tables e below (s₁.setTop (mkF m 1 #[.val (.ref a1), .val (.int (1 : Int32)), .unset] [(.int (1 : Int32))])) t
    refine XS.aloadN X0.here hx rfl (hb hby d9_1) rfl rfl ?_
    exact kt
  have vq_1 := V0
  obtain ⟨c_1, a_1, -, s_1, m_1, -, -⟩ := vq_1
  refine own_go (T' := s₁) (g' := (mkF m 3 #[.val (.ref a1), .val (.int (1 : Int32)), .unset] [(.int (16 : Int32)), (.int (1 : Int32))])) (fun t kt => ?_) ?_
  · refine X0.arraylength hx (by rw [e0]; exact a_1.1) (State.isArrayOf_alike hZ.alike a_1.2.1) (g := (mkF m 2 #[.val (.ref a1), .val (.int (1 : Int32)), .unset] [(.ref a1), (.int (1 : Int32))])) rfl rfl (hb hby d9_2) _ ?_
    rw [len_of s_1 m_1]
    exact kt
  refine own_go (T' := s₁) (g' := (mkF m 15 #[.val (.ref a1), .val (.int (1 : Int32)), .unset] [(.int (1 : Int32))])) (fun t kt => ?_) ?_
  · show Steps p.tables e below (s₁.setTop (mkF m 3 #[.val (.ref a1), .val (.int (1 : Int32)), .unset] [(.int (16 : Int32)), (.int (1 : Int32))])) t
    refine XS.icmpYes X0.here hx rfl (pc0 := 3) (pc' := 14) rfl (hb hby d9_3) rfl (feq (by decide : ¬ ((1 : Int32) = (16 : Int32)))).2 (by decide) (by decide) ?_
    show Steps p.tables e below (s₁.setTop (mkF m 14 #[.val (.ref a1), .val (.int (1 : Int32)), .unset] [])) t
    refine XS.iloadN X0.here hx rfl (hb hby d9_14) rfl ?_
    exact kt
  obtain ⟨T_2, h_2, k_2, X_2, e_2, E_2, A_2, B_2, st_2⟩ := newPE X0 hx hZ (hw _ (List.mem_of_getElem? (i := 9) rfl)) e0 (g := (mkF m 15 #[.val (.ref a1), .val (.int (1 : Int32)), .unset] [(.int (1 : Int32))])) rfl (hb hby d9_15) rfl (by decide) (cap := 1) (by decide) (by decide) (by decide) (by decide) (ad := "[I") (by decide)
  obtain ⟨b_2, g_2⟩ : ∃ z, z = h0.size := ⟨_, rfl⟩
  rw [← g_2] at A_2 B_2 st_2
  have ne_a1_b_2 : a1 ≠ b_2 := Nat.ne_of_lt (Nat.lt_of_lt_of_le V0.lt (Nat.le_of_eq g_2.symm))
  have g_b_2 : n0 ≤ b_2 := Nat.le_trans Z0 (Nat.le_of_eq g_2.symm)
  have sz_b_2 : h0.size ≤ b_2 := Nat.le_trans (Keep.refl h0 []).1 (Nat.le_of_eq g_2.symm)
  have Z_2 : n0 ≤ h_2.size := Nat.le_trans Z0 E_2.1
  have kk_2 : Keep h0 h_2 [] := (Keep.refl h0 []).ext E_2
  have V_2 : Arv Z h_2 b_2 k_2 .int (1 : Int32) [(.int (0 : Int32))] (.int (0 : Int32)) := (Arv.new A_2 (by decide)).pad (pad_rep [] (.int (0 : Int32)) 1)
  refine own_go (g' := (mkF m 17 #[.val (.ref a1), .val (.int (1 : Int32)), .unset] [(.ref b_2)])) st_2 ?_
  refine own_go (T' := T_2) (g' := (mkF m 23 #[.val (.ref a1), .val (.int (1 : Int32)), .val (.ref b_2)] [(.ref a1), (.int (0 : Int32)), (.ref b_2), (.int (0 : Int32)), (.ref a1)])) (fun t kt => ?_) ?_
  · show Steps p.tables e below (T_2.setTop (mkF m 17 #[.val (.ref a1), .val (.int (1 : Int32)), .unset] [(.ref b_2)])) t
    refine XS.astoreN X_2.here hx rfl (hb hby d9_17) rfl rfl (l' := #[.val (.ref a1), .val (.int (1 : Int32)), .val (.ref b_2)]) rfl ?_
    show Steps p.tables e below (T_2.setTop (mkF m 18 #[.val (.ref a1), .val (.int (1 : Int32)), .val (.ref b_2)] [])) t
    refine XS.aloadN X_2.here hx rfl (hb hby d9_18) rfl rfl ?_
    show Steps p.tables e below (T_2.setTop (mkF m 19 #[.val (.ref a1), .val (.int (1 : Int32)), .val (.ref b_2)] [(.ref a1)])) t
    refine XS.iconst X_2.here hx rfl (hb hby d9_19) ?_
    show Steps p.tables e below (T_2.setTop (mkF m 20 #[.val (.ref a1), .val (.int (1 : Int32)), .val (.ref b_2)] [(.int (0 : Int32)), (.ref a1)])) t
    refine XS.aloadN X_2.here hx rfl (hb hby d9_20) rfl rfl ?_
    show Steps p.tables e below (T_2.setTop (mkF m 21 #[.val (.ref a1), .val (.int (1 : Int32)), .val (.ref b_2)] [(.ref b_2), (.int (0 : Int32)), (.ref a1)])) t
    refine XS.iconst X_2.here hx rfl (hb hby d9_21) ?_
    show Steps p.tables e below (T_2.setTop (mkF m 22 #[.val (.ref a1), .val (.int (1 : Int32)), .val (.ref b_2)] [(.int (0 : Int32)), (.ref b_2), (.int (0 : Int32)), (.ref a1)])) t
    refine XS.aloadN X_2.here hx rfl (hb hby d9_22) rfl rfl ?_
    exact kt
  have f_3 := (V0.ext E_2)
  have vq_4 := f_3
  obtain ⟨c_4, a_4, -, s_4, m_4, -, -⟩ := vq_4
  refine own_go (T' := T_2) (g' := (mkF m 24 #[.val (.ref a1), .val (.int (1 : Int32)), .val (.ref b_2)] [(.int (16 : Int32)), (.int (0 : Int32)), (.ref b_2), (.int (0 : Int32)), (.ref a1)])) (fun t kt => ?_) ?_
  · refine X_2.arraylength hx (by rw [e_2]; exact a_4.1) (State.isArrayOf_alike hZ.alike a_4.2.1) (g := (mkF m 23 #[.val (.ref a1), .val (.int (1 : Int32)), .val (.ref b_2)] [(.ref a1), (.int (0 : Int32)), (.ref b_2), (.int (0 : Int32)), (.ref a1)])) rfl rfl (hb hby d9_23) _ ?_
    rw [len_of s_4 m_4]
    exact kt
  refine own_go (T' := T_2) (g' := (mkF m 25 #[.val (.ref a1), .val (.int (1 : Int32)), .val (.ref b_2)] [(.int (1 : Int32)), (.int (16 : Int32)), (.int (0 : Int32)), (.ref b_2), (.int (0 : Int32)), (.ref a1)])) (fun t kt => ?_) ?_
  · show Steps p.tables e below (T_2.setTop (mkF m 24 #[.val (.ref a1), .val (.int (1 : Int32)), .val (.ref b_2)] [(.int (16 : Int32)), (.int (0 : Int32)), (.ref b_2), (.int (0 : Int32)), (.ref a1)])) t
    refine XS.iloadN X_2.here hx rfl (hb hby d9_24) rfl ?_
    exact kt
  obtain ⟨_, _, ⟨T_5, L_5, k_5, n_5⟩, -, X_5, ⟨Lc_5, hQ_5, l_5, y_5, z_5⟩, st_5⟩ := Jvm.LawKit.callS X_2 hx (y := (⟨"java/lang/Math", "min", "(II)I"⟩ : MethodName)) hown (mvT hZ (hw _ (List.mem_of_getElem? (i := 70) rfl))) (mvT hZ (hw _ (List.mem_of_getElem? (i := 71) rfl))) (mvT hZ (hw _ (List.mem_of_getElem? (i := 72) rfl))) (mvT hZ (hw _ (List.mem_of_getElem? (i := 73) rfl))) (by decide) (backOf (W := 4) (rmn1 l Z a0 hw []   h_2 n0 Z_2 ) hZ (hw _ (List.mem_of_getElem? (i := 73) rfl)) (hw _ (List.mem_of_getElem? (i := 72) rfl)) (by decide) (by decide)) (g := (mkF m 25 #[.val (.ref a1), .val (.int (1 : Int32)), .val (.ref b_2)] [(.int (1 : Int32)), (.int (16 : Int32)), (.int (0 : Int32)), (.ref b_2), (.int (0 : Int32)), (.ref a1)])) rfl (by rw [hml]; rfl) (argsL := [(.int (16 : Int32)), (.int (1 : Int32))]) (rest := [(.int (0 : Int32)), (.ref b_2), (.int (0 : Int32)), (.ref a1)]) (lenOf pd_5 rfl) rfl (by show 2 * 0 + _ ≤ _; exact Nat.le_of_eq rfl) (hb hby d9_25) (fun _ _ => ⟨rfl, e_2, (by decide : 1 + 0 ≤ _), (by decide : 1 + 0 ≤ _)⟩)
  dsimp only [Pt.U, Pt.locs, Pt.cells, Pt.slots] at X_5 l_5 y_5 z_5 st_5 hQ_5
  subst l_5 y_5 z_5
  obtain ⟨rfl, N_5q, e_5⟩ := hQ_5
  have N_5 := Fr.app N0 N_5q
  refine own_go (g' := (mkF m 28 #[.val (.ref a1), .val (.int (1 : Int32)), .val (.ref b_2)] [(.int (1 : Int32)), (.int (0 : Int32)), (.ref b_2), (.int (0 : Int32)), (.ref a1)])) st_5 ?_
  obtain ⟨T_6, h_6, L_6, X_6, e_6, N_6, K_6, V_6, st_6⟩ := cpA X_5 hx hZ hown (hw _ (List.mem_of_getElem? (i := 74) rfl)) (hw _ (List.mem_of_getElem? (i := 77) rfl)) (hw _ (List.mem_of_getElem? (i := 75) rfl)) (hw _ (List.mem_of_getElem? (i := 76) rfl)) e_5 (us := [(vs.getD 0 (.int (0 : Int32)))]) f_3 V_2 (Or.inl ⟨rfl, rfl⟩) (sp := (0 : Int32)) (dp := (0 : Int32)) (nn := (1 : Int32)) (by decide) (by decide) (by decide) (Nat.le_of_ble_eq_true rfl) (Nat.le_of_ble_eq_true rfl) rfl (Nat.le_of_ble_eq_true rfl) N_5 g_b_2 (g := (mkF m 28 #[.val (.ref a1), .val (.int (1 : Int32)), .val (.ref b_2)] [(.int (1 : Int32)), (.int (0 : Int32)), (.ref b_2), (.int (0 : Int32)), (.ref a1)])) rfl (by rw [hml]; rfl) rfl (hb hby d9_28) (by decide) (W := 0) (by show 2 * 0 + _ ≤ _; exact Nat.le_of_eq rfl) (by decide)
  replace V_6 : Arv Z h_6 b_2 k_2 .int (1 : Int32) [(vs.getD 0 (.int (0 : Int32)))] (.int (0 : Int32)) := V_6
  have Z_6 : n0 ≤ h_6.size := Nat.le_trans Z_2 K_6.1
  have kk_6 : Keep h0 h_6 [] := kk_2.trans K_6 (allS (Or.inr sz_b_2) all0)
  refine own_go (g' := (mkF m 31 #[.val (.ref a1), .val (.int (1 : Int32)), .val (.ref b_2)] [])) st_6 ?_
  refine own_go (T' := T_6) (g' := (mkF m 32 #[.val (.ref a1), .val (.int (1 : Int32)), .val (.ref b_2)] [(.ref b_2)])) (fun t kt => ?_) ?_
  · show Steps p.tables e below (T_6.setTop (mkF m 31 #[.val (.ref a1), .val (.int (1 : Int32)), .val (.ref b_2)] [])) t
    refine XS.aloadN X_6.here hx rfl (hb hby d9_31) rfl rfl ?_
    exact kt
  obtain ⟨fs, hr, hrun, hended, hW, hsame⟩ := X_6.leave (v := some (.ref b_2)) (fun h => by rw [Bd.returns] at h; cases h)
  refine ⟨_, _, ?_, hrun, hended, _, _, rfl, ?_, ⟨_, rfl⟩, hW, hsame.mono (by decide) (by decide)⟩
  · show Steps p.tables e below (T_6.setTop (mkF m 32 #[.val (.ref a1), .val (.int (1 : Int32)), .val (.ref b_2)] [(.ref b_2)])) _
    jvm_step X_6.here [X_6.here.top, hx, (hb hby d9_32), X_6.method', Bd.returns, Value.isRef, FieldType.isReference]
    first | (intro acts; rw [hr _ acts rfl rfl rfl]) | rw [hr _ _ rfl rfl rfl]
    exact Steps.refl _
  · show Q_rcp1 Z _ _ _ h0 n0 _ T_6.heap _
    rw [e_6]
    exact ⟨_, _, rfl, N_6, kk_6, sz_b_2, V_6⟩
def Q_rmn3 (Z : State)  (h0 : Heap) (n0 : Nat) (v : Option Value) (h : Heap) (L : List Loc) : Prop := v = some (.int (3 : Int32)) ∧ Fr n0 L ∧ h = h0
set_option maxRecDepth 65536 in
set_option maxHeartbeats 40000000 in
theorem rmn3 (l : Launch) (Z : State) (a0 : Array Value) (hw : ∀ d ∈ tables_1, d.before a0 Z = true) (ws : List Jvm.Cond)  (h0 : Heap) (n0 : Nat) (Z0 : n0 ≤ h0.size)  :
    MetFree l (⟨"java/lang/Math", "min", "(II)I"⟩ : MethodName) (head1 (Jvm.Cond.code (⟨"java/lang/Math", "min", "(II)I"⟩ : MethodName) jdk_29_method_69_code 2 (some .int) :: ws) ({ frames := 0, cells := 0, slots := 0, locals := 0 } : Room)) (fun a U => a = #[(.int (16 : Int32)), (.int (3 : Int32))] ∧ Z.Warmed39 U.vm ∧ U.heap = h0) (fun _ _ _ _ _ => True) (fun _ U o U' => ∃ v L, o = .returned v ∧ Q_rmn3 Z  h0 n0 v U'.heap L ∧ FrameEnd U o U' L ({ frames := 0, cells := 0, slots := 0, locals := 0 } : Room).cells ({ frames := 0, cells := 0, slots := 0, locals := 0 } : Room).slots) := by
  refine MetFree.of_bodySF (Jvm.Free.JP.mathPlain rfl (by decide +kernel)) hisR ?_
  intro p e s m args below meth c s₁ Bd hml0 hP hK
  obtain ⟨rfl, hZ, hh⟩ := hP
  have hx := Bd.exec
  have hby := Bd.bytes
  have hml : c.maxLocals = 2 := hml0
  have hown : s.vm.findClass "java/lang/Math" = some m.cls := findClass_of_methodNamed Bd.named
  have hnm := (name_of_methodNamed Bd.named Bd.method).1
  have X0 : Stand p l e ({ frames := 0, cells := 0, slots := 0, locals := 0 } : Room) s m #[(.int (16 : Int32)), (.int (3 : Int32))] below meth c s₁ [] 0 0 := Stand.of_body Bd
  have e0 : s₁.heap = h0 := by rw [← hh, Bd.state]; rfl
  have N0 := Fr.nil n0
  refine own_go (g' := (mkF m 0 #[.val (.int (16 : Int32)), .val (.int (3 : Int32))] [])) (fun t k => castTop (ef_10 m ((16 : Int32)) ((3 : Int32))) k) ?_
  refine own_go (T' := s₁) (g' := (mkF m 10 #[.val (.int (16 : Int32)), .val (.int (3 : Int32))] [(.int (3 : Int32))])) (fun t kt => ?_) ?_
  · show Steps p.tables e below (s₁.setTop (mkF m 0 #[.val (.int (16 : Int32)), .val (.int (3 : Int32))] [])) t
    refine XS.iloadN X0.here hx rfl (hb hby d10_0) rfl ?_
    show Steps p.tables e below (s₁.setTop (mkF m 1 #[.val (.int (16 : Int32)), .val (.int (3 : Int32))] [(.int (16 : Int32))])) t
    refine XS.iloadN X0.here hx rfl (hb hby d10_1) rfl ?_
    show Steps p.tables e below (s₁.setTop (mkF m 2 #[.val (.int (16 : Int32)), .val (.int (3 : Int32))] [(.int (3 : Int32)), (.int (16 : Int32))])) t
    refine XS.icmpYes X0.here hx rfl (pc0 := 2) (pc' := 9) rfl (hb hby d10_2) rfl (tlt (by decide : (3 : Int32) < (16 : Int32))).2.2.1 (by decide) (by decide) ?_
    show Steps p.tables e below (s₁.setTop (mkF m 9 #[.val (.int (16 : Int32)), .val (.int (3 : Int32))] [])) t
    refine XS.iloadN X0.here hx rfl (hb hby d10_9) rfl ?_
    exact kt
  obtain ⟨fs, hr, hrun, hended, hW, hsame⟩ := X0.leave (v := some (.int (3 : Int32))) (fun h => by rw [Bd.returns] at h; cases h)
  refine ⟨_, _, ?_, hrun, hended, _, _, rfl, ?_, ⟨_, rfl⟩, hW, hsame.mono (by decide) (by decide)⟩
  · exact retI X0 hx Bd.returns (hb hby d10_10) hr
  · show Q_rmn3 Z  h0 n0 _ s₁.heap _
    rw [e0]
    exact ⟨rfl, N0, rfl⟩
def Q_rcp3 (Z : State) (a1 : Addr) (kA : ClassId) (vs : List Value) (h0 : Heap) (n0 : Nat) (v : Option Value) (h : Heap) (L : List Loc) : Prop := ∃ b kB, v = some (.ref b) ∧ Fr n0 L ∧ Keep h0 h [] ∧ h0.size ≤ b ∧ Arv Z h b kB .int (3 : Int32) [(vs.getD 0 (.int (0 : Int32))), (vs.getD 1 (.int (0 : Int32))), (vs.getD 2 (.int (0 : Int32)))] (.int (0 : Int32))
set_option maxRecDepth 65536 in
set_option maxHeartbeats 40000000 in
theorem rcp3 (l : Launch) (Z : State) (a0 : Array Value) (hw : ∀ d ∈ tables_1, d.before a0 Z = true) (ws : List Jvm.Cond) (a1 : Addr) (kA : ClassId) (vs : List Value) (h0 : Heap) (n0 : Nat) (Z0 : n0 ≤ h0.size) (V0 : Arv Z h0 a1 kA .int (16 : Int32) vs (.int (0 : Int32))) :
    MetFree l (⟨"java/util/Arrays", "copyOf", "([II)[I"⟩ : MethodName) (head1 (Jvm.Cond.code (⟨"java/util/Arrays", "copyOf", "([II)[I"⟩ : MethodName) jdk_65_method_123_code 3 (some (.array .int)) :: ws) ({ frames := 1, cells := 1, slots := 3, locals := 24 } : Room)) (fun a U => a = #[(.ref a1), (.int (3 : Int32))] ∧ Z.Warmed39 U.vm ∧ U.heap = h0) (fun _ _ _ _ _ => True) (fun _ U o U' => ∃ v L, o = .returned v ∧ Q_rcp3 Z a1 kA vs h0 n0 v U'.heap L ∧ FrameEnd U o U' L ({ frames := 1, cells := 1, slots := 3, locals := 24 } : Room).cells ({ frames := 1, cells := 1, slots := 3, locals := 24 } : Room).slots) := by
  refine MetFree.of_bodySF (plainFor_of_name pn_9) hisR ?_
  intro p e s m args below meth c s₁ Bd hml0 hP hK
  obtain ⟨rfl, hZ, hh⟩ := hP
  have hx := Bd.exec
  have hby := Bd.bytes
  have hml : c.maxLocals = 3 := hml0
  have hown : s.vm.findClass "java/util/Arrays" = some m.cls := findClass_of_methodNamed Bd.named
  have hnm := (name_of_methodNamed Bd.named Bd.method).1
  have X0 : Stand p l e ({ frames := 1, cells := 1, slots := 3, locals := 24 } : Room) s m #[(.ref a1), (.int (3 : Int32))] below meth c s₁ [] 0 0 := Stand.of_body Bd
  have e0 : s₁.heap = h0 := by rw [← hh, Bd.state]; rfl
  have N0 := Fr.nil n0
  refine own_go (g' := (mkF m 0 #[.val (.ref a1), .val (.int (3 : Int32)), .unset] [])) (fun t k => castTop (ef_9 m (a1) ((3 : Int32))) k) ?_
  refine own_go (T' := s₁) (g' := (mkF m 2 #[.val (.ref a1), .val (.int (3 : Int32)), .unset] [(.ref a1), (.int (3 : Int32))])) (fun t kt => ?_) ?_
  · show Steps p.tables e below (s₁.setTop (mkF m 0 #[.val (.ref a1), .val (.int (3 : Int32)), .unset] [])) t
    refine XS.iloadN X0.here hx rfl (hb hby d9_0) rfl ?_
    show Steps p.tables e below (s₁.setTop (mkF m 1 #[.val (.ref a1), .val (.int (3 : Int32)), .unset] [(.int (3 : Int32))])) t
    refine XS.aloadN X0.here hx rfl (hb hby d9_1) rfl rfl ?_
    exact kt
  have vq_1 := V0
  obtain ⟨c_1, a_1, -, s_1, m_1, -, -⟩ := vq_1
  refine own_go (T' := s₁) (g' := (mkF m 3 #[.val (.ref a1), .val (.int (3 : Int32)), .unset] [(.int (16 : Int32)), (.int (3 : Int32))])) (fun t kt => ?_) ?_
  · refine X0.arraylength hx (by rw [e0]; exact a_1.1) (State.isArrayOf_alike hZ.alike a_1.2.1) (g := (mkF m 2 #[.val (.ref a1), .val (.int (3 : Int32)), .unset] [(.ref a1), (.int (3 : Int32))])) rfl rfl (hb hby d9_2) _ ?_
    rw [len_of s_1 m_1]
    exact kt
  refine own_go (T' := s₁) (g' := (mkF m 15 #[.val (.ref a1), .val (.int (3 : Int32)), .unset] [(.int (3 : Int32))])) (fun t kt => ?_) ?_
  · show Steps p.tables e below (s₁.setTop (mkF m 3 #[.val (.ref a1), .val (.int (3 : Int32)), .unset] [(.int (16 : Int32)), (.int (3 : Int32))])) t
    refine XS.icmpYes X0.here hx rfl (pc0 := 3) (pc' := 14) rfl (hb hby d9_3) rfl (feq (by decide : ¬ ((3 : Int32) = (16 : Int32)))).2 (by decide) (by decide) ?_
    show Steps p.tables e below (s₁.setTop (mkF m 14 #[.val (.ref a1), .val (.int (3 : Int32)), .unset] [])) t
    refine XS.iloadN X0.here hx rfl (hb hby d9_14) rfl ?_
    exact kt
  obtain ⟨T_2, h_2, k_2, X_2, e_2, E_2, A_2, B_2, st_2⟩ := newPE X0 hx hZ (hw _ (List.mem_of_getElem? (i := 9) rfl)) e0 (g := (mkF m 15 #[.val (.ref a1), .val (.int (3 : Int32)), .unset] [(.int (3 : Int32))])) rfl (hb hby d9_15) rfl (by decide) (cap := 3) (by decide) (by decide) (by decide) (by decide) (ad := "[I") (by decide)
  obtain ⟨b_2, g_2⟩ : ∃ z, z = h0.size := ⟨_, rfl⟩
  rw [← g_2] at A_2 B_2 st_2
  have ne_a1_b_2 : a1 ≠ b_2 := Nat.ne_of_lt (Nat.lt_of_lt_of_le V0.lt (Nat.le_of_eq g_2.symm))
  have g_b_2 : n0 ≤ b_2 := Nat.le_trans Z0 (Nat.le_of_eq g_2.symm)
  have sz_b_2 : h0.size ≤ b_2 := Nat.le_trans (Keep.refl h0 []).1 (Nat.le_of_eq g_2.symm)
  have Z_2 : n0 ≤ h_2.size := Nat.le_trans Z0 E_2.1
  have kk_2 : Keep h0 h_2 [] := (Keep.refl h0 []).ext E_2
  have V_2 : Arv Z h_2 b_2 k_2 .int (3 : Int32) [(.int (0 : Int32)), (.int (0 : Int32)), (.int (0 : Int32))] (.int (0 : Int32)) := (Arv.new A_2 (by decide)).pad (pad_rep [] (.int (0 : Int32)) 3)
  refine own_go (g' := (mkF m 17 #[.val (.ref a1), .val (.int (3 : Int32)), .unset] [(.ref b_2)])) st_2 ?_
  refine own_go (T' := T_2) (g' := (mkF m 23 #[.val (.ref a1), .val (.int (3 : Int32)), .val (.ref b_2)] [(.ref a1), (.int (0 : Int32)), (.ref b_2), (.int (0 : Int32)), (.ref a1)])) (fun t kt => ?_) ?_
  · show Steps p.tables e below (T_2.setTop (mkF m 17 #[.val (.ref a1), .val (.int (3 : Int32)), .unset] [(.ref b_2)])) t
    refine XS.astoreN X_2.here hx rfl (hb hby d9_17) rfl rfl (l' := #[.val (.ref a1), .val (.int (3 : Int32)), .val (.ref b_2)]) rfl ?_
    show Steps p.tables e below (T_2.setTop (mkF m 18 #[.val (.ref a1), .val (.int (3 : Int32)), .val (.ref b_2)] [])) t
    refine XS.aloadN X_2.here hx rfl (hb hby d9_18) rfl rfl ?_
    show Steps p.tables e below (T_2.setTop (mkF m 19 #[.val (.ref a1), .val (.int (3 : Int32)), .val (.ref b_2)] [(.ref a1)])) t
    refine XS.iconst X_2.here hx rfl (hb hby d9_19) ?_
    show Steps p.tables e below (T_2.setTop (mkF m 20 #[.val (.ref a1), .val (.int (3 : Int32)), .val (.ref b_2)] [(.int (0 : Int32)), (.ref a1)])) t
    refine XS.aloadN X_2.here hx rfl (hb hby d9_20) rfl rfl ?_
    show Steps p.tables e below (T_2.setTop (mkF m 21 #[.val (.ref a1), .val (.int (3 : Int32)), .val (.ref b_2)] [(.ref b_2), (.int (0 : Int32)), (.ref a1)])) t
    refine XS.iconst X_2.here hx rfl (hb hby d9_21) ?_
    show Steps p.tables e below (T_2.setTop (mkF m 22 #[.val (.ref a1), .val (.int (3 : Int32)), .val (.ref b_2)] [(.int (0 : Int32)), (.ref b_2), (.int (0 : Int32)), (.ref a1)])) t
    refine XS.aloadN X_2.here hx rfl (hb hby d9_22) rfl rfl ?_
    exact kt
  have f_3 := (V0.ext E_2)
  have vq_4 := f_3
  obtain ⟨c_4, a_4, -, s_4, m_4, -, -⟩ := vq_4
  refine own_go (T' := T_2) (g' := (mkF m 24 #[.val (.ref a1), .val (.int (3 : Int32)), .val (.ref b_2)] [(.int (16 : Int32)), (.int (0 : Int32)), (.ref b_2), (.int (0 : Int32)), (.ref a1)])) (fun t kt => ?_) ?_
  · refine X_2.arraylength hx (by rw [e_2]; exact a_4.1) (State.isArrayOf_alike hZ.alike a_4.2.1) (g := (mkF m 23 #[.val (.ref a1), .val (.int (3 : Int32)), .val (.ref b_2)] [(.ref a1), (.int (0 : Int32)), (.ref b_2), (.int (0 : Int32)), (.ref a1)])) rfl rfl (hb hby d9_23) _ ?_
    rw [len_of s_4 m_4]
    exact kt
  refine own_go (T' := T_2) (g' := (mkF m 25 #[.val (.ref a1), .val (.int (3 : Int32)), .val (.ref b_2)] [(.int (3 : Int32)), (.int (16 : Int32)), (.int (0 : Int32)), (.ref b_2), (.int (0 : Int32)), (.ref a1)])) (fun t kt => ?_) ?_
  · show Steps p.tables e below (T_2.setTop (mkF m 24 #[.val (.ref a1), .val (.int (3 : Int32)), .val (.ref b_2)] [(.int (16 : Int32)), (.int (0 : Int32)), (.ref b_2), (.int (0 : Int32)), (.ref a1)])) t
    refine XS.iloadN X_2.here hx rfl (hb hby d9_24) rfl ?_
    exact kt
  obtain ⟨_, _, ⟨T_5, L_5, k_5, n_5⟩, -, X_5, ⟨Lc_5, hQ_5, l_5, y_5, z_5⟩, st_5⟩ := Jvm.LawKit.callS X_2 hx (y := (⟨"java/lang/Math", "min", "(II)I"⟩ : MethodName)) hown (mvT hZ (hw _ (List.mem_of_getElem? (i := 70) rfl))) (mvT hZ (hw _ (List.mem_of_getElem? (i := 71) rfl))) (mvT hZ (hw _ (List.mem_of_getElem? (i := 72) rfl))) (mvT hZ (hw _ (List.mem_of_getElem? (i := 73) rfl))) (by decide) (backOf (W := 4) (rmn3 l Z a0 hw []   h_2 n0 Z_2 ) hZ (hw _ (List.mem_of_getElem? (i := 73) rfl)) (hw _ (List.mem_of_getElem? (i := 72) rfl)) (by decide) (by decide)) (g := (mkF m 25 #[.val (.ref a1), .val (.int (3 : Int32)), .val (.ref b_2)] [(.int (3 : Int32)), (.int (16 : Int32)), (.int (0 : Int32)), (.ref b_2), (.int (0 : Int32)), (.ref a1)])) rfl (by rw [hml]; rfl) (argsL := [(.int (16 : Int32)), (.int (3 : Int32))]) (rest := [(.int (0 : Int32)), (.ref b_2), (.int (0 : Int32)), (.ref a1)]) (lenOf pd_5 rfl) rfl (by show 2 * 0 + _ ≤ _; exact Nat.le_of_eq rfl) (hb hby d9_25) (fun _ _ => ⟨rfl, e_2, (by decide : 1 + 0 ≤ _), (by decide : 3 + 0 ≤ _)⟩)
  dsimp only [Pt.U, Pt.locs, Pt.cells, Pt.slots] at X_5 l_5 y_5 z_5 st_5 hQ_5
  subst l_5 y_5 z_5
  obtain ⟨rfl, N_5q, e_5⟩ := hQ_5
  have N_5 := Fr.app N0 N_5q
  refine own_go (g' := (mkF m 28 #[.val (.ref a1), .val (.int (3 : Int32)), .val (.ref b_2)] [(.int (3 : Int32)), (.int (0 : Int32)), (.ref b_2), (.int (0 : Int32)), (.ref a1)])) st_5 ?_
  obtain ⟨T_6, h_6, L_6, X_6, e_6, N_6, K_6, V_6, st_6⟩ := cpA X_5 hx hZ hown (hw _ (List.mem_of_getElem? (i := 74) rfl)) (hw _ (List.mem_of_getElem? (i := 77) rfl)) (hw _ (List.mem_of_getElem? (i := 75) rfl)) (hw _ (List.mem_of_getElem? (i := 76) rfl)) e_5 (us := [(vs.getD 0 (.int (0 : Int32))), (vs.getD 1 (.int (0 : Int32))), (vs.getD 2 (.int (0 : Int32)))]) f_3 V_2 (Or.inl ⟨rfl, rfl⟩) (sp := (0 : Int32)) (dp := (0 : Int32)) (nn := (3 : Int32)) (by decide) (by decide) (by decide) (Nat.le_of_ble_eq_true rfl) (Nat.le_of_ble_eq_true rfl) rfl (Nat.le_of_ble_eq_true rfl) N_5 g_b_2 (g := (mkF m 28 #[.val (.ref a1), .val (.int (3 : Int32)), .val (.ref b_2)] [(.int (3 : Int32)), (.int (0 : Int32)), (.ref b_2), (.int (0 : Int32)), (.ref a1)])) rfl (by rw [hml]; rfl) rfl (hb hby d9_28) (by decide) (W := 0) (by show 2 * 0 + _ ≤ _; exact Nat.le_of_eq rfl) (by decide)
  replace V_6 : Arv Z h_6 b_2 k_2 .int (3 : Int32) [(vs.getD 0 (.int (0 : Int32))), (vs.getD 1 (.int (0 : Int32))), (vs.getD 2 (.int (0 : Int32)))] (.int (0 : Int32)) := V_6
  have Z_6 : n0 ≤ h_6.size := Nat.le_trans Z_2 K_6.1
  have kk_6 : Keep h0 h_6 [] := kk_2.trans K_6 (allS (Or.inr sz_b_2) all0)
  refine own_go (g' := (mkF m 31 #[.val (.ref a1), .val (.int (3 : Int32)), .val (.ref b_2)] [])) st_6 ?_
  refine own_go (T' := T_6) (g' := (mkF m 32 #[.val (.ref a1), .val (.int (3 : Int32)), .val (.ref b_2)] [(.ref b_2)])) (fun t kt => ?_) ?_
  · show Steps p.tables e below (T_6.setTop (mkF m 31 #[.val (.ref a1), .val (.int (3 : Int32)), .val (.ref b_2)] [])) t
    refine XS.aloadN X_6.here hx rfl (hb hby d9_31) rfl rfl ?_
    exact kt
  obtain ⟨fs, hr, hrun, hended, hW, hsame⟩ := X_6.leave (v := some (.ref b_2)) (fun h => by rw [Bd.returns] at h; cases h)
  refine ⟨_, _, ?_, hrun, hended, _, _, rfl, ?_, ⟨_, rfl⟩, hW, hsame.mono (by decide) (by decide)⟩
  · show Steps p.tables e below (T_6.setTop (mkF m 32 #[.val (.ref a1), .val (.int (3 : Int32)), .val (.ref b_2)] [(.ref b_2)])) _
    jvm_step X_6.here [X_6.here.top, hx, (hb hby d9_32), X_6.method', Bd.returns, Value.isRef, FieldType.isReference]
    first | (intro acts; rw [hr _ acts rfl rfl rfl]) | rw [hr _ _ rfl rfl rfl]
    exact Steps.refl _
  · show Q_rcp3 Z _ _ _ h0 n0 _ T_6.heap _
    rw [e_6]
    exact ⟨_, _, rfl, N_6, kk_6, sz_b_2, V_6⟩
theorem pn_8 : plainName "com/example/repco/repco/service/TransitionGraph" = true := by first | (simp [plainName, overriddenIn]; done) | decide +kernel
theorem ef_8 (m : MethodId) (x0 : Addr) (x1 : Addr) (x2 : Addr) (x3 : Addr) : entryFrame m #[(.ref x0), (.ref x1), (.ref x2), (.ref x3)] 4 = mkF m 0 #[.val (.ref x0), .val (.ref x1), .val (.ref x2), .val (.ref x3)] [] := by first | (simp [entryFrame, mkF, argsToLocals, Value.category]; done) | rfl
def Q_rtg (Z : State) (a1 : Addr) (a2 : Addr) (a3 : Addr) (a4 : Addr) (x1 : Addr) (x2 : Addr) (x3 : Addr) (k1 : ClassId) (k2 : ClassId) (k3 : ClassId) (vf : List Value) (vl : List Value) (vt : List Value) (h0 : Heap) (n0 : Nat) (v : Option Value) (h : Heap) (L : List Loc) : Prop := ∃ y2 y3 j2 j3, v = none ∧ Fr n0 L ∧ Keep h0 h [a1] ∧ Fld Z h a1 "com/example/repco/repco/service/TransitionGraph" "labelOf" "[I" (.ref y2) ∧ Fld Z h a1 "com/example/repco/repco/service/TransitionGraph" "targetOf" "[I" (.ref y3) ∧ Arv Z h y2 j2 .int (3 : Int32) [(vl.getD 0 (.int (0 : Int32))), (vl.getD 1 (.int (0 : Int32))), (vl.getD 2 (.int (0 : Int32)))] (.int (0 : Int32)) ∧ Arv Z h y3 j3 .int (3 : Int32) [(vt.getD 0 (.int (0 : Int32))), (vt.getD 1 (.int (0 : Int32))), (vt.getD 2 (.int (0 : Int32)))] (.int (0 : Int32))
theorem d8_0 : decode prog_56_method_1_code 0 = .ok (.aload_n 0, 1) := by decide +kernel
theorem d8_1 : decode prog_56_method_1_code 1 = .ok (.invokespecial 1, 3) := by decide +kernel
theorem d8_4 : decode prog_56_method_1_code 4 = .ok (.aload_n 0, 1) := by decide +kernel
theorem d8_5 : decode prog_56_method_1_code 5 = .ok (.aload_n 1, 1) := by decide +kernel
theorem d8_6 : decode prog_56_method_1_code 6 = .ok (.putfield 7, 3) := by decide +kernel
theorem d8_9 : decode prog_56_method_1_code 9 = .ok (.aload_n 0, 1) := by decide +kernel
theorem d8_10 : decode prog_56_method_1_code 10 = .ok (.aload_n 2, 1) := by decide +kernel
theorem d8_11 : decode prog_56_method_1_code 11 = .ok (.putfield 13, 3) := by decide +kernel
theorem d8_14 : decode prog_56_method_1_code 14 = .ok (.aload_n 0, 1) := by decide +kernel
theorem d8_15 : decode prog_56_method_1_code 15 = .ok (.aload_n 3, 1) := by decide +kernel
theorem d8_16 : decode prog_56_method_1_code 16 = .ok (.getfield 17, 3) := by decide +kernel
theorem d8_19 : decode prog_56_method_1_code 19 = .ok (.aload_n 3, 1) := by decide +kernel
theorem d8_20 : decode prog_56_method_1_code 20 = .ok (.getfield 22, 3) := by decide +kernel
theorem d8_23 : decode prog_56_method_1_code 23 = .ok (.iconst 1, 1) := by decide +kernel
theorem d8_24 : decode prog_56_method_1_code 24 = .ok (.iadd, 1) := by decide +kernel
theorem d8_25 : decode prog_56_method_1_code 25 = .ok (.invokestatic 26, 3) := by decide +kernel
theorem pd_4 : parseMethodDescriptor "([II)[I" = some ⟨[(.array .int), .int], some (.array .int)⟩ := by decide +kernel
theorem d8_28 : decode prog_56_method_1_code 28 = .ok (.putfield 32, 3) := by decide +kernel
theorem d8_31 : decode prog_56_method_1_code 31 = .ok (.aload_n 0, 1) := by decide +kernel
theorem d8_32 : decode prog_56_method_1_code 32 = .ok (.aload_n 3, 1) := by decide +kernel
theorem d8_33 : decode prog_56_method_1_code 33 = .ok (.getfield 33, 3) := by decide +kernel
theorem d8_36 : decode prog_56_method_1_code 36 = .ok (.aload_n 3, 1) := by decide +kernel
theorem d8_37 : decode prog_56_method_1_code 37 = .ok (.getfield 35, 3) := by decide +kernel
theorem d8_40 : decode prog_56_method_1_code 40 = .ok (.invokestatic 26, 3) := by decide +kernel
theorem d8_43 : decode prog_56_method_1_code 43 = .ok (.putfield 38, 3) := by decide +kernel
theorem d8_46 : decode prog_56_method_1_code 46 = .ok (.aload_n 0, 1) := by decide +kernel
theorem d8_47 : decode prog_56_method_1_code 47 = .ok (.aload_n 3, 1) := by decide +kernel
theorem d8_48 : decode prog_56_method_1_code 48 = .ok (.getfield 41, 3) := by decide +kernel
theorem d8_51 : decode prog_56_method_1_code 51 = .ok (.aload_n 3, 1) := by decide +kernel
theorem d8_52 : decode prog_56_method_1_code 52 = .ok (.getfield 35, 3) := by decide +kernel
theorem d8_55 : decode prog_56_method_1_code 55 = .ok (.invokestatic 26, 3) := by decide +kernel
theorem d8_58 : decode prog_56_method_1_code 58 = .ok (.putfield 44, 3) := by decide +kernel
theorem d8_61 : decode prog_56_method_1_code 61 = .ok (.aload_n 0, 1) := by decide +kernel
theorem d8_62 : decode prog_56_method_1_code 62 = .ok (.getfield 32, 3) := by decide +kernel
theorem d8_65 : decode prog_56_method_1_code 65 = .ok (.aload_n 3, 1) := by decide +kernel
theorem d8_66 : decode prog_56_method_1_code 66 = .ok (.getfield 22, 3) := by decide +kernel
theorem d8_69 : decode prog_56_method_1_code 69 = .ok (.aload_n 3, 1) := by decide +kernel
theorem d8_70 : decode prog_56_method_1_code 70 = .ok (.getfield 35, 3) := by decide +kernel
theorem d8_73 : decode prog_56_method_1_code 73 = .ok (.iastore, 1) := by decide +kernel
theorem d8_74 : decode prog_56_method_1_code 74 = .ok (.return_, 1) := by decide +kernel
set_option maxRecDepth 65536 in
set_option maxHeartbeats 40000000 in
theorem rtg (l : Launch) (Z : State) (a0 : Array Value) (hw : ∀ d ∈ tables_1, d.before a0 Z = true) (ws : List Jvm.Cond) (a1 : Addr) (a2 : Addr) (a3 : Addr) (a4 : Addr) (x1 : Addr) (x2 : Addr) (x3 : Addr) (k1 : ClassId) (k2 : ClassId) (k3 : ClassId) (vf : List Value) (vl : List Value) (vt : List Value) (h0 : Heap) (n0 : Nat) (Z0 : n0 ≤ h0.size) (E_a1 : Exa Z h0 a1 "com/example/repco/repco/service/TransitionGraph") (G_labels : Fld Z h0 a1 "com/example/repco/repco/service/TransitionGraph" "labels" "Ljava/util/List;" .null) (G_roots : Fld Z h0 a1 "com/example/repco/repco/service/TransitionGraph" "roots" "[I" .null) (G_first : Fld Z h0 a1 "com/example/repco/repco/service/TransitionGraph" "first" "[I" .null) (G_labelOf : Fld Z h0 a1 "com/example/repco/repco/service/TransitionGraph" "labelOf" "[I" .null) (G_targetOf : Fld Z h0 a1 "com/example/repco/repco/service/TransitionGraph" "targetOf" "[I" .null) (F1 : Fld Z h0 a4 "com/example/repco/repco/service/TransitionGraph$Builder" "first" "[I" (.ref x1)) (F2 : Fld Z h0 a4 "com/example/repco/repco/service/TransitionGraph$Builder" "labels" "[I" (.ref x2)) (F3 : Fld Z h0 a4 "com/example/repco/repco/service/TransitionGraph$Builder" "targets" "[I" (.ref x3)) (F4 : Fld Z h0 a4 "com/example/repco/repco/service/TransitionGraph$Builder" "size" "I" (.int (3 : Int32))) (F5 : Fld Z h0 a4 "com/example/repco/repco/service/TransitionGraph$Builder" "nodes" "I" (.int (0 : Int32))) (V1 : Arv Z h0 x1 k1 .int (16 : Int32) vf (.int (0 : Int32))) (V2 : Arv Z h0 x2 k2 .int (16 : Int32) vl (.int (0 : Int32))) (V3 : Arv Z h0 x3 k3 .int (16 : Int32) vt (.int (0 : Int32))) (g_a1 : n0 ≤ a1) (n1a4 : a1 ≠ a4) (n1x1 : a1 ≠ x1) (n1x2 : a1 ≠ x2) (n1x3 : a1 ≠ x3) :
    MetFree l (⟨"com/example/repco/repco/service/TransitionGraph", "<init>", "(Ljava/util/List;[ILcom/example/repco/repco/service/TransitionGraph$Builder;)V"⟩ : MethodName) (head1 (Jvm.Cond.code (⟨"com/example/repco/repco/service/TransitionGraph", "<init>", "(Ljava/util/List;[ILcom/example/repco/repco/service/TransitionGraph$Builder;)V"⟩ : MethodName) prog_56_method_1_code 4 none :: ws) ({ frames := 2, cells := 3, slots := 7, locals := 50 } : Room)) (fun a U => a = #[(.ref a1), (.ref a2), (.ref a3), (.ref a4)] ∧ Z.Warmed39 U.vm ∧ U.heap = h0) (fun _ _ _ _ _ => True) (fun _ U o U' => ∃ v L, o = .returned v ∧ Q_rtg Z a1 a2 a3 a4 x1 x2 x3 k1 k2 k3 vf vl vt h0 n0 v U'.heap L ∧ FrameEnd U o U' L ({ frames := 2, cells := 3, slots := 7, locals := 50 } : Room).cells ({ frames := 2, cells := 3, slots := 7, locals := 50 } : Room).slots) := by
  refine MetFree.of_bodySF (plainFor_of_name pn_8) hisR ?_
  intro p e s m args below meth c s₁ Bd hml0 hP hK
  obtain ⟨rfl, hZ, hh⟩ := hP
  have hx := Bd.exec
  have hby := Bd.bytes
  have hml : c.maxLocals = 4 := hml0
  have hown : s.vm.findClass "com/example/repco/repco/service/TransitionGraph" = some m.cls := findClass_of_methodNamed Bd.named
  have hnm := (name_of_methodNamed Bd.named Bd.method).1
  have X0 : Stand p l e ({ frames := 2, cells := 3, slots := 7, locals := 50 } : Room) s m #[(.ref a1), (.ref a2), (.ref a3), (.ref a4)] below meth c s₁ [] 0 0 := Stand.of_body Bd
  have e0 : s₁.heap = h0 := by rw [← hh, Bd.state]; rfl
  have N0 := Fr.nil n0
  refine own_go (g' := (mkF m 0 #[.val (.ref a1), .val (.ref a2), .val (.ref a3), .val (.ref a4)] [])) (fun t k => castTop (ef_8 m (a1) (a2) (a3) (a4)) k) ?_
  refine own_go (T' := s₁) (g' := (mkF m 1 #[.val (.ref a1), .val (.ref a2), .val (.ref a3), .val (.ref a4)] [(.ref a1)])) (fun t kt => ?_) ?_
  · show Steps p.tables e below (s₁.setTop (mkF m 0 #[.val (.ref a1), .val (.ref a2), .val (.ref a3), .val (.ref a4)] [])) t
    refine XS.aloadN X0.here hx rfl (hb hby d8_0) rfl rfl ?_
    exact kt
  obtain ⟨T_1, X_1, e_1, st_1⟩ := initO X0 hx hZ hown (hw _ (List.mem_of_getElem? (i := 58) rfl)) (hw _ (List.mem_of_getElem? (i := 7) rfl)) (hw _ (List.mem_of_getElem? (i := 8) rfl)) e0 (g := (mkF m 1 #[.val (.ref a1), .val (.ref a2), .val (.ref a3), .val (.ref a4)] [(.ref a1)])) rfl (by rw [hml]; rfl) rfl (hb hby d8_1) (by decide) (W := 0) (by show 2 * 0 + _ ≤ _; exact Nat.le_of_eq rfl) (by decide)
  refine own_go (g' := (mkF m 4 #[.val (.ref a1), .val (.ref a2), .val (.ref a3), .val (.ref a4)] [])) st_1 ?_
  refine own_go (T' := T_1) (g' := (mkF m 6 #[.val (.ref a1), .val (.ref a2), .val (.ref a3), .val (.ref a4)] [(.ref a2), (.ref a1)])) (fun t kt => ?_) ?_
  · show Steps p.tables e below (T_1.setTop (mkF m 4 #[.val (.ref a1), .val (.ref a2), .val (.ref a3), .val (.ref a4)] [])) t
    refine XS.aloadN X_1.here hx rfl (hb hby d8_4) rfl rfl ?_
    show Steps p.tables e below (T_1.setTop (mkF m 5 #[.val (.ref a1), .val (.ref a2), .val (.ref a3), .val (.ref a4)] [(.ref a1)])) t
    refine XS.aloadN X_1.here hx rfl (hb hby d8_5) rfl rfl ?_
    exact kt
  obtain ⟨T_2, h_2, X_2, e_2, W_2, st_2⟩ := putF X_1 hx hZ hown (host := "") (Or.inl (hw _ (List.mem_of_getElem? (i := 59) rfl))) Via.refl e_1 G_labels E_a1 (Or.inr ⟨(hw _ (List.mem_of_getElem? (i := 60) rfl)), rfl, hnm⟩) (hw _ (List.mem_of_getElem? (i := 53) rfl)) (ty := (.object "java/util/List")) (by decide) rfl rfl (g := (mkF m 6 #[.val (.ref a1), .val (.ref a2), .val (.ref a3), .val (.ref a4)] [(.ref a2), (.ref a1)])) rfl rfl (hb hby d8_6)
  have Fw_2 := G_labels.same W_2
  have Z_2 : n0 ≤ h_2.size := Nat.le_trans Z0 (Keep.of_wr W_2).1
  have kk_2 : Keep h0 h_2 [a1] := (Keep.refl h0 [a1]).wr W_2 (Or.inl (List.mem_of_getElem? (i := 0) rfl))
  have N_2 := Fr.snoc X_2 N0 g_a1
  refine own_go (g' := (mkF m 9 #[.val (.ref a1), .val (.ref a2), .val (.ref a3), .val (.ref a4)] [])) st_2 ?_
  refine own_go (T' := T_2) (g' := (mkF m 11 #[.val (.ref a1), .val (.ref a2), .val (.ref a3), .val (.ref a4)] [(.ref a3), (.ref a1)])) (fun t kt => ?_) ?_
  · show Steps p.tables e below (T_2.setTop (mkF m 9 #[.val (.ref a1), .val (.ref a2), .val (.ref a3), .val (.ref a4)] [])) t
    refine XS.aloadN X_2.here hx rfl (hb hby d8_9) rfl rfl ?_
    show Steps p.tables e below (T_2.setTop (mkF m 10 #[.val (.ref a1), .val (.ref a2), .val (.ref a3), .val (.ref a4)] [(.ref a1)])) t
    refine XS.aloadN X_2.here hx rfl (hb hby d8_10) rfl rfl ?_
    exact kt
  have f_4 := (E_a1.wr W_2)
  have f_5 := (G_roots.other W_2 (Or.inr (slot_ne (Or.inr (hw _ (List.mem_of_getElem? (i := 62) rfl))) (Or.inr (hw _ (List.mem_of_getElem? (i := 60) rfl))) (by decide) (t := (.array .int)) (t' := (.object "java/util/List")) (by decide) (by decide))))
  obtain ⟨T_3, h_3, X_3, e_3, W_3, st_3⟩ := putF X_2 hx hZ hown (host := "") (Or.inl (hw _ (List.mem_of_getElem? (i := 61) rfl))) Via.refl e_2 f_5 f_4 (Or.inr ⟨(hw _ (List.mem_of_getElem? (i := 62) rfl)), rfl, hnm⟩) (hw _ (List.mem_of_getElem? (i := 53) rfl)) (ty := (.array .int)) (by decide) rfl rfl (g := (mkF m 11 #[.val (.ref a1), .val (.ref a2), .val (.ref a3), .val (.ref a4)] [(.ref a3), (.ref a1)])) rfl rfl (hb hby d8_11)
  have Fw_3 := f_5.same W_3
  have Z_3 : n0 ≤ h_3.size := Nat.le_trans Z_2 (Keep.of_wr W_3).1
  have kk_3 : Keep h0 h_3 [a1] := kk_2.wr W_3 (Or.inl (List.mem_of_getElem? (i := 0) rfl))
  have N_3 := Fr.snoc X_3 N_2 g_a1
  refine own_go (g' := (mkF m 14 #[.val (.ref a1), .val (.ref a2), .val (.ref a3), .val (.ref a4)] [])) st_3 ?_
  refine own_go (T' := T_3) (g' := (mkF m 16 #[.val (.ref a1), .val (.ref a2), .val (.ref a3), .val (.ref a4)] [(.ref a4), (.ref a1)])) (fun t kt => ?_) ?_
  · show Steps p.tables e below (T_3.setTop (mkF m 14 #[.val (.ref a1), .val (.ref a2), .val (.ref a3), .val (.ref a4)] [])) t
    refine XS.aloadN X_3.here hx rfl (hb hby d8_14) rfl rfl ?_
    show Steps p.tables e below (T_3.setTop (mkF m 15 #[.val (.ref a1), .val (.ref a2), .val (.ref a3), .val (.ref a4)] [(.ref a1)])) t
    refine XS.aloadN X_3.here hx rfl (hb hby d8_15) rfl rfl ?_
    exact kt
  have f_7 := ((F1.other W_2 (Or.inl (Ne.symm n1a4))).other W_3 (Or.inl (Ne.symm n1a4)))
  refine own_go (g' := (mkF m 19 #[.val (.ref a1), .val (.ref a2), .val (.ref a3), .val (.ref a4)] [(.ref x1), (.ref a1)])) (own_getR X_3 hx hZ hown (hw _ (List.mem_of_getElem? (i := 63) rfl)) e_3 f_7 (g := (mkF m 16 #[.val (.ref a1), .val (.ref a2), .val (.ref a3), .val (.ref a4)] [(.ref a4), (.ref a1)])) rfl rfl (hb hby d8_16)) ?_
  refine own_go (T' := T_3) (g' := (mkF m 20 #[.val (.ref a1), .val (.ref a2), .val (.ref a3), .val (.ref a4)] [(.ref a4), (.ref x1), (.ref a1)])) (fun t kt => ?_) ?_
  · show Steps p.tables e below (T_3.setTop (mkF m 19 #[.val (.ref a1), .val (.ref a2), .val (.ref a3), .val (.ref a4)] [(.ref x1), (.ref a1)])) t
    refine XS.aloadN X_3.here hx rfl (hb hby d8_19) rfl rfl ?_
    exact kt
  have f_9 := ((F5.other W_2 (Or.inl (Ne.symm n1a4))).other W_3 (Or.inl (Ne.symm n1a4)))
  refine own_go (g' := (mkF m 23 #[.val (.ref a1), .val (.ref a2), .val (.ref a3), .val (.ref a4)] [(.int (0 : Int32)), (.ref x1), (.ref a1)])) (own_getR X_3 hx hZ hown (hw _ (List.mem_of_getElem? (i := 64) rfl)) e_3 f_9 (g := (mkF m 20 #[.val (.ref a1), .val (.ref a2), .val (.ref a3), .val (.ref a4)] [(.ref a4), (.ref x1), (.ref a1)])) rfl rfl (hb hby d8_20)) ?_
  refine own_go (T' := T_3) (g' := (mkF m 25 #[.val (.ref a1), .val (.ref a2), .val (.ref a3), .val (.ref a4)] [(.int (1 : Int32)), (.ref x1), (.ref a1)])) (fun t kt => ?_) ?_
  · show Steps p.tables e below (T_3.setTop (mkF m 23 #[.val (.ref a1), .val (.ref a2), .val (.ref a3), .val (.ref a4)] [(.int (0 : Int32)), (.ref x1), (.ref a1)])) t
    refine XS.iconst X_3.here hx rfl (hb hby d8_23) ?_
    show Steps p.tables e below (T_3.setTop (mkF m 24 #[.val (.ref a1), .val (.ref a2), .val (.ref a3), .val (.ref a4)] [(.int (1 : Int32)), (.int (0 : Int32)), (.ref x1), (.ref a1)])) t
    refine XS.iadd X_3.here hx rfl (hb hby d8_24) rfl ?_
    exact kt
  have f_10 := ((V1.other W_2 (Ne.symm n1x1)).other W_3 (Ne.symm n1x1))
  obtain ⟨_, _, ⟨T_11, L_11, k_11, n_11⟩, -, X_11, ⟨Lc_11, hQ_11, l_11, y_11, z_11⟩, st_11⟩ := Jvm.LawKit.callS X_3 hx (y := (⟨"java/util/Arrays", "copyOf", "([II)[I"⟩ : MethodName)) hown (mvT hZ (hw _ (List.mem_of_getElem? (i := 66) rfl))) (mvT hZ (hw _ (List.mem_of_getElem? (i := 67) rfl))) (mvT hZ (hw _ (List.mem_of_getElem? (i := 68) rfl))) (mvT hZ (hw _ (List.mem_of_getElem? (i := 69) rfl))) (by decide) (backOf (W := 1) (rcp1 l Z a0 hw [] x1 k1 vf h_3 n0 Z_3 f_10) hZ (hw _ (List.mem_of_getElem? (i := 69) rfl)) (hw _ (List.mem_of_getElem? (i := 68) rfl)) (by decide) (by decide)) (g := (mkF m 25 #[.val (.ref a1), .val (.ref a2), .val (.ref a3), .val (.ref a4)] [(.int (1 : Int32)), (.ref x1), (.ref a1)])) rfl (by rw [hml]; rfl) (argsL := [(.ref x1), (.int (1 : Int32))]) (rest := [(.ref a1)]) (lenOf pd_4 rfl) rfl (by show 2 * 0 + _ ≤ _; exact Nat.le_of_eq rfl) (hb hby d8_25) (fun _ _ => ⟨rfl, e_3, (by decide : 0 + 1 ≤ _), (by decide : 0 + 1 ≤ _)⟩)
  dsimp only [Pt.U, Pt.locs, Pt.cells, Pt.slots] at X_11 l_11 y_11 z_11 st_11 hQ_11
  subst l_11 y_11 z_11
  obtain ⟨y_11, kB_11, rfl, N_11q, K_11, sy_11, V_11⟩ := hQ_11
  have N_11 := Fr.app N_3 N_11q
  have f_12 := (f_4.wr W_3)
  have ne_a1_y_11 : a1 ≠ y_11 := Nat.ne_of_lt (Nat.lt_of_lt_of_le f_12.lt sy_11)
  have ne_a4_y_11 : a4 ≠ y_11 := Nat.ne_of_lt (Nat.lt_of_lt_of_le f_7.lt sy_11)
  have ne_x1_y_11 : x1 ≠ y_11 := Nat.ne_of_lt (Nat.lt_of_lt_of_le f_10.lt sy_11)
  have f_13 := ((V2.other W_2 (Ne.symm n1x2)).other W_3 (Ne.symm n1x2))
  have ne_x2_y_11 : x2 ≠ y_11 := Nat.ne_of_lt (Nat.lt_of_lt_of_le f_13.lt sy_11)
  have f_14 := ((V3.other W_2 (Ne.symm n1x3)).other W_3 (Ne.symm n1x3))
  have ne_x3_y_11 : x3 ≠ y_11 := Nat.ne_of_lt (Nat.lt_of_lt_of_le f_14.lt sy_11)
  have g_y_11 : n0 ≤ y_11 := Nat.le_trans Z_3 sy_11
  have sz_y_11 : h0.size ≤ y_11 := Nat.le_trans kk_3.1 sy_11
  have Z_11 : n0 ≤ T_11.heap.size := Nat.le_trans Z_3 K_11.1
  have kk_11 : Keep h0 T_11.heap [a1] := kk_3.trans K_11 all0
  refine own_go (g' := (mkF m 28 #[.val (.ref a1), .val (.ref a2), .val (.ref a3), .val (.ref a4)] [(.ref y_11), (.ref a1)])) st_11 ?_
  have f_16 := (f_12.keep K_11)
  have f_17 := (((G_first.other W_2 (Or.inr (slot_ne (Or.inr (hw _ (List.mem_of_getElem? (i := 79) rfl))) (Or.inr (hw _ (List.mem_of_getElem? (i := 60) rfl))) (by decide) (t := (.array .int)) (t' := (.object "java/util/List")) (by decide) (by decide)))).other W_3 (Or.inr (slot_ne (Or.inr (hw _ (List.mem_of_getElem? (i := 79) rfl))) (Or.inr (hw _ (List.mem_of_getElem? (i := 62) rfl))) (by decide) (t := (.array .int)) (t' := (.array .int)) (by decide) (by decide)))).keep K_11 nin0)
  obtain ⟨T_15, h_15, X_15, e_15, W_15, st_15⟩ := putF X_11 hx hZ hown (host := "") (Or.inl (hw _ (List.mem_of_getElem? (i := 78) rfl))) Via.refl rfl f_17 f_16 (Or.inr ⟨(hw _ (List.mem_of_getElem? (i := 79) rfl)), rfl, hnm⟩) (hw _ (List.mem_of_getElem? (i := 53) rfl)) (ty := (.array .int)) (by decide) rfl rfl (g := (mkF m 28 #[.val (.ref a1), .val (.ref a2), .val (.ref a3), .val (.ref a4)] [(.ref y_11), (.ref a1)])) rfl rfl (hb hby d8_28)
  have Fw_15 := f_17.same W_15
  have Z_15 : n0 ≤ h_15.size := Nat.le_trans Z_11 (Keep.of_wr W_15).1
  have kk_15 : Keep h0 h_15 [a1] := kk_11.wr W_15 (Or.inl (List.mem_of_getElem? (i := 0) rfl))
  have N_15 := Fr.snoc X_15 N_11 g_a1
  refine own_go (g' := (mkF m 31 #[.val (.ref a1), .val (.ref a2), .val (.ref a3), .val (.ref a4)] [])) st_15 ?_
  refine own_go (T' := T_15) (g' := (mkF m 33 #[.val (.ref a1), .val (.ref a2), .val (.ref a3), .val (.ref a4)] [(.ref a4), (.ref a1)])) (fun t kt => ?_) ?_
  · show Steps p.tables e below (T_15.setTop (mkF m 31 #[.val (.ref a1), .val (.ref a2), .val (.ref a3), .val (.ref a4)] [])) t
    refine XS.aloadN X_15.here hx rfl (hb hby d8_31) rfl rfl ?_
    show Steps p.tables e below (T_15.setTop (mkF m 32 #[.val (.ref a1), .val (.ref a2), .val (.ref a3), .val (.ref a4)] [(.ref a1)])) t
    refine XS.aloadN X_15.here hx rfl (hb hby d8_32) rfl rfl ?_
    exact kt
  have f_19 := ((((F2.other W_2 (Or.inl (Ne.symm n1a4))).other W_3 (Or.inl (Ne.symm n1a4))).keep K_11 nin0).other W_15 (Or.inl (Ne.symm n1a4)))
  refine own_go (g' := (mkF m 36 #[.val (.ref a1), .val (.ref a2), .val (.ref a3), .val (.ref a4)] [(.ref x2), (.ref a1)])) (own_getR X_15 hx hZ hown (hw _ (List.mem_of_getElem? (i := 80) rfl)) e_15 f_19 (g := (mkF m 33 #[.val (.ref a1), .val (.ref a2), .val (.ref a3), .val (.ref a4)] [(.ref a4), (.ref a1)])) rfl rfl (hb hby d8_33)) ?_
  refine own_go (T' := T_15) (g' := (mkF m 37 #[.val (.ref a1), .val (.ref a2), .val (.ref a3), .val (.ref a4)] [(.ref a4), (.ref x2), (.ref a1)])) (fun t kt => ?_) ?_
  · show Steps p.tables e below (T_15.setTop (mkF m 36 #[.val (.ref a1), .val (.ref a2), .val (.ref a3), .val (.ref a4)] [(.ref x2), (.ref a1)])) t
    refine XS.aloadN X_15.here hx rfl (hb hby d8_36) rfl rfl ?_
    exact kt
  have f_21 := ((((F4.other W_2 (Or.inl (Ne.symm n1a4))).other W_3 (Or.inl (Ne.symm n1a4))).keep K_11 nin0).other W_15 (Or.inl (Ne.symm n1a4)))
  refine own_go (g' := (mkF m 40 #[.val (.ref a1), .val (.ref a2), .val (.ref a3), .val (.ref a4)] [(.int (3 : Int32)), (.ref x2), (.ref a1)])) (own_getR X_15 hx hZ hown (hw _ (List.mem_of_getElem? (i := 81) rfl)) e_15 f_21 (g := (mkF m 37 #[.val (.ref a1), .val (.ref a2), .val (.ref a3), .val (.ref a4)] [(.ref a4), (.ref x2), (.ref a1)])) rfl rfl (hb hby d8_37)) ?_
  have f_22 := ((f_13.keep K_11 nin0).other W_15 (Ne.symm n1x2))
  obtain ⟨_, _, ⟨T_23, L_23, k_23, n_23⟩, -, X_23, ⟨Lc_23, hQ_23, l_23, y_23, z_23⟩, st_23⟩ := Jvm.LawKit.callS X_15 hx (y := (⟨"java/util/Arrays", "copyOf", "([II)[I"⟩ : MethodName)) hown (mvT hZ (hw _ (List.mem_of_getElem? (i := 66) rfl))) (mvT hZ (hw _ (List.mem_of_getElem? (i := 67) rfl))) (mvT hZ (hw _ (List.mem_of_getElem? (i := 68) rfl))) (mvT hZ (hw _ (List.mem_of_getElem? (i := 69) rfl))) (by decide) (backOf (W := 1) (rcp3 l Z a0 hw [] x2 k2 vl h_15 n0 Z_15 f_22) hZ (hw _ (List.mem_of_getElem? (i := 69) rfl)) (hw _ (List.mem_of_getElem? (i := 68) rfl)) (by decide) (by decide)) (g := (mkF m 40 #[.val (.ref a1), .val (.ref a2), .val (.ref a3), .val (.ref a4)] [(.int (3 : Int32)), (.ref x2), (.ref a1)])) rfl (by rw [hml]; rfl) (argsL := [(.ref x2), (.int (3 : Int32))]) (rest := [(.ref a1)]) (lenOf pd_4 rfl) rfl (by show 2 * 0 + _ ≤ _; exact Nat.le_of_eq rfl) (hb hby d8_40) (fun _ _ => ⟨rfl, e_15, (by decide : 1 + 1 ≤ _), (by decide : 1 + 3 ≤ _)⟩)
  dsimp only [Pt.U, Pt.locs, Pt.cells, Pt.slots] at X_23 l_23 y_23 z_23 st_23 hQ_23
  subst l_23 y_23 z_23
  obtain ⟨y_23, kB_23, rfl, N_23q, K_23, sy_23, V_23⟩ := hQ_23
  have N_23 := Fr.app N_15 N_23q
  have f_24 := (f_16.wr W_15)
  have ne_a1_y_23 : a1 ≠ y_23 := Nat.ne_of_lt (Nat.lt_of_lt_of_le f_24.lt sy_23)
  have f_25 := ((f_7.keep K_11 nin0).other W_15 (Or.inl (Ne.symm n1a4)))
  have ne_a4_y_23 : a4 ≠ y_23 := Nat.ne_of_lt (Nat.lt_of_lt_of_le f_25.lt sy_23)
  have f_26 := ((f_10.keep K_11 nin0).other W_15 (Ne.symm n1x1))
  have ne_x1_y_23 : x1 ≠ y_23 := Nat.ne_of_lt (Nat.lt_of_lt_of_le f_26.lt sy_23)
  have ne_x2_y_23 : x2 ≠ y_23 := Nat.ne_of_lt (Nat.lt_of_lt_of_le f_22.lt sy_23)
  have f_27 := ((f_14.keep K_11 nin0).other W_15 (Ne.symm n1x3))
  have ne_x3_y_23 : x3 ≠ y_23 := Nat.ne_of_lt (Nat.lt_of_lt_of_le f_27.lt sy_23)
  have f_28 := (V_11.other W_15 (Ne.symm ne_a1_y_11))
  have ne_y_11_y_23 : y_11 ≠ y_23 := Nat.ne_of_lt (Nat.lt_of_lt_of_le f_28.lt sy_23)
  have g_y_23 : n0 ≤ y_23 := Nat.le_trans Z_15 sy_23
  have sz_y_23 : h0.size ≤ y_23 := Nat.le_trans kk_15.1 sy_23
  have Z_23 : n0 ≤ T_23.heap.size := Nat.le_trans Z_15 K_23.1
  have kk_23 : Keep h0 T_23.heap [a1] := kk_15.trans K_23 all0
  refine own_go (g' := (mkF m 43 #[.val (.ref a1), .val (.ref a2), .val (.ref a3), .val (.ref a4)] [(.ref y_23), (.ref a1)])) st_23 ?_
  have f_30 := (f_24.keep K_23)
  have f_31 := (((((G_labelOf.other W_2 (Or.inr (slot_ne (Or.inr (hw _ (List.mem_of_getElem? (i := 83) rfl))) (Or.inr (hw _ (List.mem_of_getElem? (i := 60) rfl))) (by decide) (t := (.array .int)) (t' := (.object "java/util/List")) (by decide) (by decide)))).other W_3 (Or.inr (slot_ne (Or.inr (hw _ (List.mem_of_getElem? (i := 83) rfl))) (Or.inr (hw _ (List.mem_of_getElem? (i := 62) rfl))) (by decide) (t := (.array .int)) (t' := (.array .int)) (by decide) (by decide)))).keep K_11 nin0).other W_15 (Or.inr (slot_ne (Or.inr (hw _ (List.mem_of_getElem? (i := 83) rfl))) (Or.inr (hw _ (List.mem_of_getElem? (i := 79) rfl))) (by decide) (t := (.array .int)) (t' := (.array .int)) (by decide) (by decide)))).keep K_23 nin0)
  obtain ⟨T_29, h_29, X_29, e_29, W_29, st_29⟩ := putF X_23 hx hZ hown (host := "") (Or.inl (hw _ (List.mem_of_getElem? (i := 82) rfl))) Via.refl rfl f_31 f_30 (Or.inr ⟨(hw _ (List.mem_of_getElem? (i := 83) rfl)), rfl, hnm⟩) (hw _ (List.mem_of_getElem? (i := 53) rfl)) (ty := (.array .int)) (by decide) rfl rfl (g := (mkF m 43 #[.val (.ref a1), .val (.ref a2), .val (.ref a3), .val (.ref a4)] [(.ref y_23), (.ref a1)])) rfl rfl (hb hby d8_43)
  have Fw_29 := f_31.same W_29
  have Z_29 : n0 ≤ h_29.size := Nat.le_trans Z_23 (Keep.of_wr W_29).1
  have kk_29 : Keep h0 h_29 [a1] := kk_23.wr W_29 (Or.inl (List.mem_of_getElem? (i := 0) rfl))
  have N_29 := Fr.snoc X_29 N_23 g_a1
  refine own_go (g' := (mkF m 46 #[.val (.ref a1), .val (.ref a2), .val (.ref a3), .val (.ref a4)] [])) st_29 ?_
  refine own_go (T' := T_29) (g' := (mkF m 48 #[.val (.ref a1), .val (.ref a2), .val (.ref a3), .val (.ref a4)] [(.ref a4), (.ref a1)])) (fun t kt => ?_) ?_
  · show Steps p.tables e below (T_29.setTop (mkF m 46 #[.val (.ref a1), .val (.ref a2), .val (.ref a3), .val (.ref a4)] [])) t
    refine XS.aloadN X_29.here hx rfl (hb hby d8_46) rfl rfl ?_
    show Steps p.tables e below (T_29.setTop (mkF m 47 #[.val (.ref a1), .val (.ref a2), .val (.ref a3), .val (.ref a4)] [(.ref a1)])) t
    refine XS.aloadN X_29.here hx rfl (hb hby d8_47) rfl rfl ?_
    exact kt
  have f_33 := ((((((F3.other W_2 (Or.inl (Ne.symm n1a4))).other W_3 (Or.inl (Ne.symm n1a4))).keep K_11 nin0).other W_15 (Or.inl (Ne.symm n1a4))).keep K_23 nin0).other W_29 (Or.inl (Ne.symm n1a4)))
  refine own_go (g' := (mkF m 51 #[.val (.ref a1), .val (.ref a2), .val (.ref a3), .val (.ref a4)] [(.ref x3), (.ref a1)])) (own_getR X_29 hx hZ hown (hw _ (List.mem_of_getElem? (i := 84) rfl)) e_29 f_33 (g := (mkF m 48 #[.val (.ref a1), .val (.ref a2), .val (.ref a3), .val (.ref a4)] [(.ref a4), (.ref a1)])) rfl rfl (hb hby d8_48)) ?_
  refine own_go (T' := T_29) (g' := (mkF m 52 #[.val (.ref a1), .val (.ref a2), .val (.ref a3), .val (.ref a4)] [(.ref a4), (.ref x3), (.ref a1)])) (fun t kt => ?_) ?_
  · show Steps p.tables e below (T_29.setTop (mkF m 51 #[.val (.ref a1), .val (.ref a2), .val (.ref a3), .val (.ref a4)] [(.ref x3), (.ref a1)])) t
    refine XS.aloadN X_29.here hx rfl (hb hby d8_51) rfl rfl ?_
    exact kt
  have f_35 := ((f_21.keep K_23 nin0).other W_29 (Or.inl (Ne.symm n1a4)))
  refine own_go (g' := (mkF m 55 #[.val (.ref a1), .val (.ref a2), .val (.ref a3), .val (.ref a4)] [(.int (3 : Int32)), (.ref x3), (.ref a1)])) (own_getR X_29 hx hZ hown (hw _ (List.mem_of_getElem? (i := 81) rfl)) e_29 f_35 (g := (mkF m 52 #[.val (.ref a1), .val (.ref a2), .val (.ref a3), .val (.ref a4)] [(.ref a4), (.ref x3), (.ref a1)])) rfl rfl (hb hby d8_52)) ?_
  have f_36 := ((f_27.keep K_23 nin0).other W_29 (Ne.symm n1x3))
  obtain ⟨_, _, ⟨T_37, L_37, k_37, n_37⟩, -, X_37, ⟨Lc_37, hQ_37, l_37, y_37, z_37⟩, st_37⟩ := Jvm.LawKit.callS X_29 hx (y := (⟨"java/util/Arrays", "copyOf", "([II)[I"⟩ : MethodName)) hown (mvT hZ (hw _ (List.mem_of_getElem? (i := 66) rfl))) (mvT hZ (hw _ (List.mem_of_getElem? (i := 67) rfl))) (mvT hZ (hw _ (List.mem_of_getElem? (i := 68) rfl))) (mvT hZ (hw _ (List.mem_of_getElem? (i := 69) rfl))) (by decide) (backOf (W := 1) (rcp3 l Z a0 hw [] x3 k3 vt h_29 n0 Z_29 f_36) hZ (hw _ (List.mem_of_getElem? (i := 69) rfl)) (hw _ (List.mem_of_getElem? (i := 68) rfl)) (by decide) (by decide)) (g := (mkF m 55 #[.val (.ref a1), .val (.ref a2), .val (.ref a3), .val (.ref a4)] [(.int (3 : Int32)), (.ref x3), (.ref a1)])) rfl (by rw [hml]; rfl) (argsL := [(.ref x3), (.int (3 : Int32))]) (rest := [(.ref a1)]) (lenOf pd_4 rfl) rfl (by show 2 * 0 + _ ≤ _; exact Nat.le_of_eq rfl) (hb hby d8_55) (fun _ _ => ⟨rfl, e_29, (by decide : 2 + 1 ≤ _), (by decide : 4 + 3 ≤ _)⟩)
  dsimp only [Pt.U, Pt.locs, Pt.cells, Pt.slots] at X_37 l_37 y_37 z_37 st_37 hQ_37
  subst l_37 y_37 z_37
  obtain ⟨y_37, kB_37, rfl, N_37q, K_37, sy_37, V_37⟩ := hQ_37
  have N_37 := Fr.app N_29 N_37q
  have f_38 := (f_30.wr W_29)
  have ne_a1_y_37 : a1 ≠ y_37 := Nat.ne_of_lt (Nat.lt_of_lt_of_le f_38.lt sy_37)
  have f_39 := ((f_25.keep K_23 nin0).other W_29 (Or.inl (Ne.symm n1a4)))
  have ne_a4_y_37 : a4 ≠ y_37 := Nat.ne_of_lt (Nat.lt_of_lt_of_le f_39.lt sy_37)
  have f_40 := ((f_26.keep K_23 nin0).other W_29 (Ne.symm n1x1))
  have ne_x1_y_37 : x1 ≠ y_37 := Nat.ne_of_lt (Nat.lt_of_lt_of_le f_40.lt sy_37)
  have f_41 := ((f_22.keep K_23 nin0).other W_29 (Ne.symm n1x2))
  have ne_x2_y_37 : x2 ≠ y_37 := Nat.ne_of_lt (Nat.lt_of_lt_of_le f_41.lt sy_37)
  have ne_x3_y_37 : x3 ≠ y_37 := Nat.ne_of_lt (Nat.lt_of_lt_of_le f_36.lt sy_37)
  have f_42 := ((f_28.keep K_23 nin0).other W_29 (Ne.symm ne_a1_y_11))
  have ne_y_11_y_37 : y_11 ≠ y_37 := Nat.ne_of_lt (Nat.lt_of_lt_of_le f_42.lt sy_37)
  have f_43 := (V_23.other W_29 (Ne.symm ne_a1_y_23))
  have ne_y_23_y_37 : y_23 ≠ y_37 := Nat.ne_of_lt (Nat.lt_of_lt_of_le f_43.lt sy_37)
  have g_y_37 : n0 ≤ y_37 := Nat.le_trans Z_29 sy_37
  have sz_y_37 : h0.size ≤ y_37 := Nat.le_trans kk_29.1 sy_37
  have Z_37 : n0 ≤ T_37.heap.size := Nat.le_trans Z_29 K_37.1
  have kk_37 : Keep h0 T_37.heap [a1] := kk_29.trans K_37 all0
  refine own_go (g' := (mkF m 58 #[.val (.ref a1), .val (.ref a2), .val (.ref a3), .val (.ref a4)] [(.ref y_37), (.ref a1)])) st_37 ?_
  have f_45 := (f_38.keep K_37)
  have f_46 := (((((((G_targetOf.other W_2 (Or.inr (slot_ne (Or.inr (hw _ (List.mem_of_getElem? (i := 86) rfl))) (Or.inr (hw _ (List.mem_of_getElem? (i := 60) rfl))) (by decide) (t := (.array .int)) (t' := (.object "java/util/List")) (by decide) (by decide)))).other W_3 (Or.inr (slot_ne (Or.inr (hw _ (List.mem_of_getElem? (i := 86) rfl))) (Or.inr (hw _ (List.mem_of_getElem? (i := 62) rfl))) (by decide) (t := (.array .int)) (t' := (.array .int)) (by decide) (by decide)))).keep K_11 nin0).other W_15 (Or.inr (slot_ne (Or.inr (hw _ (List.mem_of_getElem? (i := 86) rfl))) (Or.inr (hw _ (List.mem_of_getElem? (i := 79) rfl))) (by decide) (t := (.array .int)) (t' := (.array .int)) (by decide) (by decide)))).keep K_23 nin0).other W_29 (Or.inr (slot_ne (Or.inr (hw _ (List.mem_of_getElem? (i := 86) rfl))) (Or.inr (hw _ (List.mem_of_getElem? (i := 83) rfl))) (by decide) (t := (.array .int)) (t' := (.array .int)) (by decide) (by decide)))).keep K_37 nin0)
  obtain ⟨T_44, h_44, X_44, e_44, W_44, st_44⟩ := putF X_37 hx hZ hown (host := "") (Or.inl (hw _ (List.mem_of_getElem? (i := 85) rfl))) Via.refl rfl f_46 f_45 (Or.inr ⟨(hw _ (List.mem_of_getElem? (i := 86) rfl)), rfl, hnm⟩) (hw _ (List.mem_of_getElem? (i := 53) rfl)) (ty := (.array .int)) (by decide) rfl rfl (g := (mkF m 58 #[.val (.ref a1), .val (.ref a2), .val (.ref a3), .val (.ref a4)] [(.ref y_37), (.ref a1)])) rfl rfl (hb hby d8_58)
  have Fw_44 := f_46.same W_44
  have Z_44 : n0 ≤ h_44.size := Nat.le_trans Z_37 (Keep.of_wr W_44).1
  have kk_44 : Keep h0 h_44 [a1] := kk_37.wr W_44 (Or.inl (List.mem_of_getElem? (i := 0) rfl))
  have N_44 := Fr.snoc X_44 N_37 g_a1
  refine own_go (g' := (mkF m 61 #[.val (.ref a1), .val (.ref a2), .val (.ref a3), .val (.ref a4)] [])) st_44 ?_
  refine own_go (T' := T_44) (g' := (mkF m 62 #[.val (.ref a1), .val (.ref a2), .val (.ref a3), .val (.ref a4)] [(.ref a1)])) (fun t kt => ?_) ?_
  · show Steps p.tables e below (T_44.setTop (mkF m 61 #[.val (.ref a1), .val (.ref a2), .val (.ref a3), .val (.ref a4)] [])) t
    refine XS.aloadN X_44.here hx rfl (hb hby d8_61) rfl rfl ?_
    exact kt
  have f_48 := ((((Fw_15.keep K_23 nin0).other W_29 (Or.inr (slot_ne (Or.inr (hw _ (List.mem_of_getElem? (i := 79) rfl))) (Or.inr (hw _ (List.mem_of_getElem? (i := 83) rfl))) (by decide) (t := (.array .int)) (t' := (.array .int)) (by decide) (by decide)))).keep K_37 nin0).other W_44 (Or.inr (slot_ne (Or.inr (hw _ (List.mem_of_getElem? (i := 79) rfl))) (Or.inr (hw _ (List.mem_of_getElem? (i := 86) rfl))) (by decide) (t := (.array .int)) (t' := (.array .int)) (by decide) (by decide))))
  obtain ⟨T_47, X_47, e_47, st_47⟩ := getF X_44 hx hZ hown (host := "") (Or.inl (hw _ (List.mem_of_getElem? (i := 78) rfl))) Via.refl e_44 f_48 (g := (mkF m 62 #[.val (.ref a1), .val (.ref a2), .val (.ref a3), .val (.ref a4)] [(.ref a1)])) rfl rfl (hb hby d8_62)
  refine own_go (g' := (mkF m 65 #[.val (.ref a1), .val (.ref a2), .val (.ref a3), .val (.ref a4)] [(.ref y_11)])) st_47 ?_
  refine own_go (T' := T_47) (g' := (mkF m 66 #[.val (.ref a1), .val (.ref a2), .val (.ref a3), .val (.ref a4)] [(.ref a4), (.ref y_11)])) (fun t kt => ?_) ?_
  · show Steps p.tables e below (T_47.setTop (mkF m 65 #[.val (.ref a1), .val (.ref a2), .val (.ref a3), .val (.ref a4)] [(.ref y_11)])) t
    refine XS.aloadN X_47.here hx rfl (hb hby d8_65) rfl rfl ?_
    exact kt
  have f_50 := ((((((f_9.keep K_11 nin0).other W_15 (Or.inl (Ne.symm n1a4))).keep K_23 nin0).other W_29 (Or.inl (Ne.symm n1a4))).keep K_37 nin0).other W_44 (Or.inl (Ne.symm n1a4)))
  refine own_go (g' := (mkF m 69 #[.val (.ref a1), .val (.ref a2), .val (.ref a3), .val (.ref a4)] [(.int (0 : Int32)), (.ref y_11)])) (own_getR X_47 hx hZ hown (hw _ (List.mem_of_getElem? (i := 64) rfl)) e_47 f_50 (g := (mkF m 66 #[.val (.ref a1), .val (.ref a2), .val (.ref a3), .val (.ref a4)] [(.ref a4), (.ref y_11)])) rfl rfl (hb hby d8_66)) ?_
  refine own_go (T' := T_47) (g' := (mkF m 70 #[.val (.ref a1), .val (.ref a2), .val (.ref a3), .val (.ref a4)] [(.ref a4), (.int (0 : Int32)), (.ref y_11)])) (fun t kt => ?_) ?_
  · show Steps p.tables e below (T_47.setTop (mkF m 69 #[.val (.ref a1), .val (.ref a2), .val (.ref a3), .val (.ref a4)] [(.int (0 : Int32)), (.ref y_11)])) t
    refine XS.aloadN X_47.here hx rfl (hb hby d8_69) rfl rfl ?_
    exact kt
  have f_52 := ((f_35.keep K_37 nin0).other W_44 (Or.inl (Ne.symm n1a4)))
  refine own_go (g' := (mkF m 73 #[.val (.ref a1), .val (.ref a2), .val (.ref a3), .val (.ref a4)] [(.int (3 : Int32)), (.int (0 : Int32)), (.ref y_11)])) (own_getR X_47 hx hZ hown (hw _ (List.mem_of_getElem? (i := 81) rfl)) e_47 f_52 (g := (mkF m 70 #[.val (.ref a1), .val (.ref a2), .val (.ref a3), .val (.ref a4)] [(.ref a4), (.int (0 : Int32)), (.ref y_11)])) rfl rfl (hb hby d8_70)) ?_
  have f_54 := ((f_42.keep K_37 nin0).other W_44 (Ne.symm ne_a1_y_11))
  have vq_53 := f_54
  obtain ⟨c_53, a_53, q_53, s_53, m_53, H_53, G_53⟩ := vq_53
  have hin_53 : ¬ ((0 : Int32) < 0 ∨ c_53.slots.size ≤ ((0 : Int32)).toNatClampNeg) := inb_of s_53 ⟨by decide, by decide⟩
  obtain ⟨T_53, h_53, X_53, e_53, W_53, st_53⟩ := stI X_47 hx hZ e_47 a_53 (j := (0 : Int32)) hin_53 (g := (mkF m 73 #[.val (.ref a1), .val (.ref a2), .val (.ref a3), .val (.ref a4)] [(.int (3 : Int32)), (.int (0 : Int32)), (.ref y_11)])) rfl rfl (hb hby d8_73)
  have V_53 : Arv Z h_53 y_11 kB_11 .int (1 : Int32) [(.int (3 : Int32))] (.int (0 : Int32)) := Arv.set a_53 q_53 s_53 m_53 H_53 G_53 rfl W_53 0 rfl (Nat.le_of_ble_eq_true rfl)
  have Z_53 : n0 ≤ h_53.size := Nat.le_trans Z_44 (Keep.of_wr W_53).1
  have kk_53 : Keep h0 h_53 [a1] := kk_44.wr W_53 (Or.inr sz_y_11)
  have N_53 := Fr.snoc X_53 N_44 g_y_11
  refine own_go (g' := (mkF m 74 #[.val (.ref a1), .val (.ref a2), .val (.ref a3), .val (.ref a4)] [])) st_53 ?_
  have f_55 := (((Fw_29.keep K_37 nin0).other W_44 (Or.inr (slot_ne (Or.inr (hw _ (List.mem_of_getElem? (i := 83) rfl))) (Or.inr (hw _ (List.mem_of_getElem? (i := 86) rfl))) (by decide) (t := (.array .int)) (t' := (.array .int)) (by decide) (by decide)))).other W_53 (Or.inl ne_a1_y_11))
  have f_56 := (Fw_44.other W_53 (Or.inl ne_a1_y_11))
  have f_57 := (((f_43.keep K_37 nin0).other W_44 (Ne.symm ne_a1_y_23)).other W_53 (Ne.symm ne_y_11_y_23))
  have f_58 := ((V_37.other W_44 (Ne.symm ne_a1_y_37)).other W_53 (Ne.symm ne_y_11_y_37))
  obtain ⟨fs, hr, hrun, hended, hW, hsame⟩ := X_53.leave (v := none) (fun _ => rfl)
  refine ⟨_, _, ?_, hrun, hended, _, _, rfl, ?_, ⟨_, rfl⟩, hW, hsame.mono (by decide) (by decide)⟩
  · exact X_53.returnOut hx Bd.returns (hb hby d8_74) hr
  · show Q_rtg Z _ _ _ _ _ _ _ _ _ _ _ _ _ h0 n0 _ T_53.heap _
    rw [e_53]
    exact ⟨_, _, _, _, rfl, N_53, kk_53, f_55, f_56, f_57, f_58⟩
theorem pn_7 : plainName "com/example/repco/repco/service/TransitionGraph$Builder" = true := by first | (simp [plainName, overriddenIn]; done) | decide +kernel
theorem ef_7 (m : MethodId) (x0 : Addr) (x1 : Addr) (x2 : Addr) : entryFrame m #[(.ref x0), (.ref x1), (.ref x2)] 3 = mkF m 0 #[.val (.ref x0), .val (.ref x1), .val (.ref x2)] [] := by first | (simp [entryFrame, mkF, argsToLocals, Value.category]; done) | rfl
def Q_rbu (Z : State) (a1 : Addr) (a2 : Addr) (a3 : Addr) (x1 : Addr) (x2 : Addr) (x3 : Addr) (k1 : ClassId) (k2 : ClassId) (k3 : ClassId) (vf : List Value) (vl : List Value) (vt : List Value) (h0 : Heap) (n0 : Nat) (v : Option Value) (h : Heap) (L : List Loc) : Prop := ∃ g y2 y3 j2 j3, v = some (.ref g) ∧ Fr n0 L ∧ Keep h0 h [] ∧ h0.size ≤ g ∧ Exa Z h g "com/example/repco/repco/service/TransitionGraph" ∧ Fld Z h g "com/example/repco/repco/service/TransitionGraph" "labelOf" "[I" (.ref y2) ∧ Fld Z h g "com/example/repco/repco/service/TransitionGraph" "targetOf" "[I" (.ref y3) ∧ Arv Z h y2 j2 .int (3 : Int32) [(vl.getD 0 (.int (0 : Int32))), (vl.getD 1 (.int (0 : Int32))), (vl.getD 2 (.int (0 : Int32)))] (.int (0 : Int32)) ∧ Arv Z h y3 j3 .int (3 : Int32) [(vt.getD 0 (.int (0 : Int32))), (vt.getD 1 (.int (0 : Int32))), (vt.getD 2 (.int (0 : Int32)))] (.int (0 : Int32))
theorem d7_0 : decode prog_57_method_4_code 0 = .ok (.new 32, 3) := by decide +kernel
theorem d7_3 : decode prog_57_method_4_code 3 = .ok (.dup, 1) := by decide +kernel
theorem d7_4 : decode prog_57_method_4_code 4 = .ok (.aload_n 1, 1) := by decide +kernel
theorem d7_5 : decode prog_57_method_4_code 5 = .ok (.aload_n 2, 1) := by decide +kernel
theorem d7_6 : decode prog_57_method_4_code 6 = .ok (.aload_n 0, 1) := by decide +kernel
theorem d7_7 : decode prog_57_method_4_code 7 = .ok (.invokespecial 34, 3) := by decide +kernel
theorem pd_3 : parseMethodDescriptor "(Ljava/util/List;[ILcom/example/repco/repco/service/TransitionGraph$Builder;)V" = some ⟨[(.object "java/util/List"), (.array .int), (.object "com/example/repco/repco/service/TransitionGraph$Builder")], none⟩ := by decide +kernel
theorem d7_10 : decode prog_57_method_4_code 10 = .ok (.areturn, 1) := by decide +kernel
set_option maxRecDepth 65536 in
set_option maxHeartbeats 40000000 in
theorem rbu (l : Launch) (Z : State) (a0 : Array Value) (hw : ∀ d ∈ tables_1, d.before a0 Z = true) (ws : List Jvm.Cond) (a1 : Addr) (a2 : Addr) (a3 : Addr) (x1 : Addr) (x2 : Addr) (x3 : Addr) (k1 : ClassId) (k2 : ClassId) (k3 : ClassId) (vf : List Value) (vl : List Value) (vt : List Value) (h0 : Heap) (n0 : Nat) (Z0 : n0 ≤ h0.size) (F1 : Fld Z h0 a1 "com/example/repco/repco/service/TransitionGraph$Builder" "first" "[I" (.ref x1)) (F2 : Fld Z h0 a1 "com/example/repco/repco/service/TransitionGraph$Builder" "labels" "[I" (.ref x2)) (F3 : Fld Z h0 a1 "com/example/repco/repco/service/TransitionGraph$Builder" "targets" "[I" (.ref x3)) (F4 : Fld Z h0 a1 "com/example/repco/repco/service/TransitionGraph$Builder" "size" "I" (.int (3 : Int32))) (F5 : Fld Z h0 a1 "com/example/repco/repco/service/TransitionGraph$Builder" "nodes" "I" (.int (0 : Int32))) (V1 : Arv Z h0 x1 k1 .int (16 : Int32) vf (.int (0 : Int32))) (V2 : Arv Z h0 x2 k2 .int (16 : Int32) vl (.int (0 : Int32))) (V3 : Arv Z h0 x3 k3 .int (16 : Int32) vt (.int (0 : Int32))) :
    MetFree l (⟨"com/example/repco/repco/service/TransitionGraph$Builder", "build", "(Ljava/util/List;[I)Lcom/example/repco/repco/service/TransitionGraph;"⟩ : MethodName) (head1 (Jvm.Cond.code (⟨"com/example/repco/repco/service/TransitionGraph$Builder", "build", "(Ljava/util/List;[I)Lcom/example/repco/repco/service/TransitionGraph;"⟩ : MethodName) prog_57_method_4_code 3 (some (.object "com/example/repco/repco/service/TransitionGraph")) :: ws) ({ frames := 3, cells := 4, slots := 12, locals := 68 } : Room)) (fun a U => a = #[(.ref a1), (.ref a2), (.ref a3)] ∧ Z.Warmed39 U.vm ∧ U.heap = h0) (fun _ _ _ _ _ => True) (fun _ U o U' => ∃ v L, o = .returned v ∧ Q_rbu Z a1 a2 a3 x1 x2 x3 k1 k2 k3 vf vl vt h0 n0 v U'.heap L ∧ FrameEnd U o U' L ({ frames := 3, cells := 4, slots := 12, locals := 68 } : Room).cells ({ frames := 3, cells := 4, slots := 12, locals := 68 } : Room).slots) := by
  refine MetFree.of_bodySF (plainFor_of_name pn_7) hisR ?_
  intro p e s m args below meth c s₁ Bd hml0 hP hK
  obtain ⟨rfl, hZ, hh⟩ := hP
  have hx := Bd.exec
  have hby := Bd.bytes
  have hml : c.maxLocals = 3 := hml0
  have hown : s.vm.findClass "com/example/repco/repco/service/TransitionGraph$Builder" = some m.cls := findClass_of_methodNamed Bd.named
  have hnm := (name_of_methodNamed Bd.named Bd.method).1
  have X0 : Stand p l e ({ frames := 3, cells := 4, slots := 12, locals := 68 } : Room) s m #[(.ref a1), (.ref a2), (.ref a3)] below meth c s₁ [] 0 0 := Stand.of_body Bd
  have e0 : s₁.heap = h0 := by rw [← hh, Bd.state]; rfl
  have N0 := Fr.nil n0
  refine own_go (g' := (mkF m 0 #[.val (.ref a1), .val (.ref a2), .val (.ref a3)] [])) (fun t k => castTop (ef_7 m (a1) (a2) (a3)) k) ?_
  obtain ⟨T_1, h_1, X_1, e_1, E_1, A_1, D_1, -, st_1⟩ := newO X0 hx hZ hown (hw _ (List.mem_of_getElem? (i := 52) rfl)) (hw _ (List.mem_of_getElem? (i := 53) rfl)) (hw _ (List.mem_of_getElem? (i := 54) rfl)) e0 (g := (mkF m 0 #[.val (.ref a1), .val (.ref a2), .val (.ref a3)] [])) rfl (hb hby d7_0) (by decide) (by decide)
  obtain ⟨b_1, g_1⟩ : ∃ z, z = h0.size := ⟨_, rfl⟩
  rw [← g_1] at A_1 D_1 st_1
  have ne_a1_b_1 : a1 ≠ b_1 := Nat.ne_of_lt (Nat.lt_of_lt_of_le F1.lt (Nat.le_of_eq g_1.symm))
  have ne_x1_b_1 : x1 ≠ b_1 := Nat.ne_of_lt (Nat.lt_of_lt_of_le V1.lt (Nat.le_of_eq g_1.symm))
  have ne_x2_b_1 : x2 ≠ b_1 := Nat.ne_of_lt (Nat.lt_of_lt_of_le V2.lt (Nat.le_of_eq g_1.symm))
  have ne_x3_b_1 : x3 ≠ b_1 := Nat.ne_of_lt (Nat.lt_of_lt_of_le V3.lt (Nat.le_of_eq g_1.symm))
  have g_b_1 : n0 ≤ b_1 := Nat.le_trans Z0 (Nat.le_of_eq g_1.symm)
  have sz_b_1 : h0.size ≤ b_1 := Nat.le_trans (Keep.refl h0 []).1 (Nat.le_of_eq g_1.symm)
  have Z_1 : n0 ≤ h_1.size := Nat.le_trans Z0 E_1.1
  have kk_1 : Keep h0 h_1 [] := (Keep.refl h0 []).ext E_1
  have F_labels_b_1 : Fld Z h_1 b_1 "com/example/repco/repco/service/TransitionGraph" "labels" "Ljava/util/List;" .null := D_1 (Or.inr (hw _ (List.mem_of_getElem? (i := 60) rfl))) (ty := (.object "java/util/List")) (by decide)
  have F_roots_b_1 : Fld Z h_1 b_1 "com/example/repco/repco/service/TransitionGraph" "roots" "[I" .null := D_1 (Or.inr (hw _ (List.mem_of_getElem? (i := 62) rfl))) (ty := (.array .int)) (by decide)
  have F_first_b_1 : Fld Z h_1 b_1 "com/example/repco/repco/service/TransitionGraph" "first" "[I" .null := D_1 (Or.inr (hw _ (List.mem_of_getElem? (i := 79) rfl))) (ty := (.array .int)) (by decide)
  have F_labelOf_b_1 : Fld Z h_1 b_1 "com/example/repco/repco/service/TransitionGraph" "labelOf" "[I" .null := D_1 (Or.inr (hw _ (List.mem_of_getElem? (i := 83) rfl))) (ty := (.array .int)) (by decide)
  have F_targetOf_b_1 : Fld Z h_1 b_1 "com/example/repco/repco/service/TransitionGraph" "targetOf" "[I" .null := D_1 (Or.inr (hw _ (List.mem_of_getElem? (i := 86) rfl))) (ty := (.array .int)) (by decide)
  refine own_go (g' := (mkF m 3 #[.val (.ref a1), .val (.ref a2), .val (.ref a3)] [(.ref b_1)])) st_1 ?_
  refine own_go (T' := T_1) (g' := (mkF m 7 #[.val (.ref a1), .val (.ref a2), .val (.ref a3)] [(.ref a1), (.ref a3), (.ref a2), (.ref b_1), (.ref b_1)])) (fun t kt => ?_) ?_
  · show Steps p.tables e below (T_1.setTop (mkF m 3 #[.val (.ref a1), .val (.ref a2), .val (.ref a3)] [(.ref b_1)])) t
    refine XS.dup X_1.here hx rfl (hb hby d7_3) rfl rfl ?_
    show Steps p.tables e below (T_1.setTop (mkF m 4 #[.val (.ref a1), .val (.ref a2), .val (.ref a3)] [(.ref b_1), (.ref b_1)])) t
    refine XS.aloadN X_1.here hx rfl (hb hby d7_4) rfl rfl ?_
    show Steps p.tables e below (T_1.setTop (mkF m 5 #[.val (.ref a1), .val (.ref a2), .val (.ref a3)] [(.ref a2), (.ref b_1), (.ref b_1)])) t
    refine XS.aloadN X_1.here hx rfl (hb hby d7_5) rfl rfl ?_
    show Steps p.tables e below (T_1.setTop (mkF m 6 #[.val (.ref a1), .val (.ref a2), .val (.ref a3)] [(.ref a3), (.ref a2), (.ref b_1), (.ref b_1)])) t
    refine XS.aloadN X_1.here hx rfl (hb hby d7_6) rfl rfl ?_
    exact kt
  have f_2 := (F1.ext E_1)
  have f_3 := (F2.ext E_1)
  have f_4 := (F3.ext E_1)
  have f_5 := (F4.ext E_1)
  have f_6 := (F5.ext E_1)
  have f_7 := (V1.ext E_1)
  have f_8 := (V2.ext E_1)
  have f_9 := (V3.ext E_1)
  obtain ⟨_, _, ⟨T_10, L_10, k_10, n_10⟩, -, X_10, ⟨Lc_10, hQ_10, l_10, y_10, z_10⟩, st_10⟩ := X_1.specialBackNest hx (y := (⟨"com/example/repco/repco/service/TransitionGraph", "<init>", "(Ljava/util/List;[ILcom/example/repco/repco/service/TransitionGraph$Builder;)V"⟩ : MethodName)) rfl hown (own_mvM hZ (hw _ (List.mem_of_getElem? (i := 55) rfl))) (mvT hZ (hw _ (List.mem_of_getElem? (i := 56) rfl))) (mvT hZ (hw _ (List.mem_of_getElem? (i := 57) rfl))) (by decide) (backOf (W := 1) (rtg l Z a0 hw [] (b_1) (a2) (a3) (a1) x1 x2 x3 k1 k2 k3 vf vl vt h_1 n0 Z_1 A_1 F_labels_b_1 F_roots_b_1 F_first_b_1 F_labelOf_b_1 F_targetOf_b_1 f_2 f_3 f_4 f_5 f_6 f_7 f_8 f_9 g_b_1 (Ne.symm ne_a1_b_1) (Ne.symm ne_x1_b_1) (Ne.symm ne_x2_b_1) (Ne.symm ne_x3_b_1)) hZ (hw _ (List.mem_of_getElem? (i := 57) rfl)) (hw _ (List.mem_of_getElem? (i := 54) rfl)) (by decide) (by decide)) (g := (mkF m 7 #[.val (.ref a1), .val (.ref a2), .val (.ref a3)] [(.ref a1), (.ref a3), (.ref a2), (.ref b_1), (.ref b_1)])) rfl (by rw [hml]; rfl) (Steps.refl _) (a := b_1) (argsL := [(.ref a2), (.ref a3), (.ref a1)]) (rest := [(.ref b_1)]) (lenOf pd_3 rfl) rfl (by show 2 * 0 + _ ≤ _; exact Nat.le_of_eq rfl) (hb hby d7_7) (fun _ _ => ⟨rfl, e_1, (by decide : 1 + 3 ≤ _), (by decide : 5 + 7 ≤ _)⟩)
  dsimp only [Pt.U, Pt.locs, Pt.cells, Pt.slots] at X_10 l_10 y_10 z_10 st_10 hQ_10
  subst l_10 y_10 z_10
  obtain ⟨y2__10, y3__10, j2__10, j3__10, rfl, N_10q, K_10, P1__10, P2__10, P3__10, P4__10⟩ := hQ_10
  have N_10 := Fr.app N0 N_10q
  have Z_10 : n0 ≤ T_10.heap.size := Nat.le_trans Z_1 K_10.1
  have kk_10 : Keep h0 T_10.heap [] := kk_1.trans K_10 (allS (Or.inr sz_b_1) all0)
  refine own_go (g' := (mkF m 10 #[.val (.ref a1), .val (.ref a2), .val (.ref a3)] [(.ref b_1)])) (fun t kt => st_10.trans kt) ?_
  have f_11 := (A_1.keep K_10)
  obtain ⟨fs, hr, hrun, hended, hW, hsame⟩ := X_10.leave (v := some (.ref b_1)) (fun h => by rw [Bd.returns] at h; cases h)
  refine ⟨_, _, ?_, hrun, hended, _, _, rfl, ?_, ⟨_, rfl⟩, hW, hsame.mono (by decide) (by decide)⟩
  · show Steps p.tables e below (T_10.setTop (mkF m 10 #[.val (.ref a1), .val (.ref a2), .val (.ref a3)] [(.ref b_1)])) _
    jvm_step X_10.here [X_10.here.top, hx, (hb hby d7_10), X_10.method', Bd.returns, Value.isRef, FieldType.isReference]
    first | (intro acts; rw [hr _ acts rfl rfl rfl]) | rw [hr _ _ rfl rfl rfl]
    exact Steps.refl _
  · show Q_rbu Z _ _ _ _ _ _ _ _ _ _ _ _ h0 n0 _ T_10.heap _
    exact ⟨_, _, _, _, _, rfl, N_10, kk_10, sz_b_1, f_11, P1__10, P2__10, P3__10, P4__10⟩
theorem pn_11 : plainName "com/example/repco/repco/service/TransitionGraph" = true := by first | (simp [plainName, overriddenIn]; done) | decide +kernel
theorem ef_11 (m : MethodId) (x0 : Addr) : entryFrame m #[(.ref x0)] 1 = mkF m 0 #[.val (.ref x0)] [] := by first | (simp [entryFrame, mkF, argsToLocals, Value.category]; done) | rfl
def Q_rtc (Z : State) (a1 : Addr) (y : Addr) (kB : ClassId) (u0 : Int32) (u1 : Int32) (u2 : Int32) (h0 : Heap) (n0 : Nat) (v : Option Value) (h : Heap) (L : List Loc) : Prop := v = some (.int (3 : Int32)) ∧ Fr n0 L ∧ h = h0
theorem d11_0 : decode prog_56_method_5_code 0 = .ok (.aload_n 0, 1) := by decide +kernel
theorem d11_1 : decode prog_56_method_5_code 1 = .ok (.getfield 38, 3) := by decide +kernel
theorem d11_4 : decode prog_56_method_5_code 4 = .ok (.arraylength, 1) := by decide +kernel
theorem d11_5 : decode prog_56_method_5_code 5 = .ok (.ireturn, 1) := by decide +kernel
set_option maxRecDepth 65536 in
set_option maxHeartbeats 40000000 in
theorem rtc (l : Launch) (Z : State) (a0 : Array Value) (hw : ∀ d ∈ tables_1, d.before a0 Z = true) (ws : List Jvm.Cond) (a1 : Addr) (y : Addr) (kB : ClassId) (u0 : Int32) (u1 : Int32) (u2 : Int32) (h0 : Heap) (n0 : Nat) (Z0 : n0 ≤ h0.size) (F1 : Fld Z h0 a1 "com/example/repco/repco/service/TransitionGraph" "labelOf" "[I" (.ref y)) (V1 : Arv Z h0 y kB .int (3 : Int32) [(.int u0), (.int u1), (.int u2)] (.int (0 : Int32))) :
    MetFree l (⟨"com/example/repco/repco/service/TransitionGraph", "transitionCount", "()I"⟩ : MethodName) (head1 (Jvm.Cond.code (⟨"com/example/repco/repco/service/TransitionGraph", "transitionCount", "()I"⟩ : MethodName) prog_56_method_5_code 1 (some .int) :: ws) ({ frames := 0, cells := 0, slots := 0, locals := 0 } : Room)) (fun a U => a = #[(.ref a1)] ∧ Z.Warmed39 U.vm ∧ U.heap = h0) (fun _ _ _ _ _ => True) (fun _ U o U' => ∃ v L, o = .returned v ∧ Q_rtc Z a1 y kB u0 u1 u2 h0 n0 v U'.heap L ∧ FrameEnd U o U' L ({ frames := 0, cells := 0, slots := 0, locals := 0 } : Room).cells ({ frames := 0, cells := 0, slots := 0, locals := 0 } : Room).slots) := by
  refine MetFree.of_bodySF (plainFor_of_name pn_11) hisR ?_
  intro p e s m args below meth c s₁ Bd hml0 hP hK
  obtain ⟨rfl, hZ, hh⟩ := hP
  have hx := Bd.exec
  have hby := Bd.bytes
  have hml : c.maxLocals = 1 := hml0
  have hown : s.vm.findClass "com/example/repco/repco/service/TransitionGraph" = some m.cls := findClass_of_methodNamed Bd.named
  have hnm := (name_of_methodNamed Bd.named Bd.method).1
  have X0 : Stand p l e ({ frames := 0, cells := 0, slots := 0, locals := 0 } : Room) s m #[(.ref a1)] below meth c s₁ [] 0 0 := Stand.of_body Bd
  have e0 : s₁.heap = h0 := by rw [← hh, Bd.state]; rfl
  have N0 := Fr.nil n0
  refine own_go (g' := (mkF m 0 #[.val (.ref a1)] [])) (fun t k => castTop (ef_11 m (a1)) k) ?_
  refine own_go (T' := s₁) (g' := (mkF m 1 #[.val (.ref a1)] [(.ref a1)])) (fun t kt => ?_) ?_
  · show Steps p.tables e below (s₁.setTop (mkF m 0 #[.val (.ref a1)] [])) t
    refine XS.aloadN X0.here hx rfl (hb hby d11_0) rfl rfl ?_
    exact kt
  obtain ⟨T_1, X_1, e_1, st_1⟩ := getF X0 hx hZ hown (host := "") (Or.inl (hw _ (List.mem_of_getElem? (i := 82) rfl))) Via.refl e0 F1 (g := (mkF m 1 #[.val (.ref a1)] [(.ref a1)])) rfl rfl (hb hby d11_1)
  refine own_go (g' := (mkF m 4 #[.val (.ref a1)] [(.ref y)])) st_1 ?_
  have vq_2 := V1
  obtain ⟨c_2, a_2, -, s_2, m_2, -, -⟩ := vq_2
  refine own_go (T' := T_1) (g' := (mkF m 5 #[.val (.ref a1)] [(.int (3 : Int32))])) (fun t kt => ?_) ?_
  · refine X_1.arraylength hx (by rw [e_1]; exact a_2.1) (State.isArrayOf_alike hZ.alike a_2.2.1) (g := (mkF m 4 #[.val (.ref a1)] [(.ref y)])) rfl rfl (hb hby d11_4) _ ?_
    rw [len_of s_2 m_2]
    exact kt
  obtain ⟨fs, hr, hrun, hended, hW, hsame⟩ := X_1.leave (v := some (.int (3 : Int32))) (fun h => by rw [Bd.returns] at h; cases h)
  refine ⟨_, _, ?_, hrun, hended, _, _, rfl, ?_, ⟨_, rfl⟩, hW, hsame.mono (by decide) (by decide)⟩
  · exact retI X_1 hx Bd.returns (hb hby d11_5) hr
  · show Q_rtc Z _ _ _ _ _ _ h0 n0 _ T_1.heap _
    rw [e_1]
    exact ⟨rfl, N0, rfl⟩
theorem pn_12 : plainName "com/example/repco/repco/service/TransitionGraph" = true := by first | (simp [plainName, overriddenIn]; done) | decide +kernel
theorem ef_12 (m : MethodId) (x0 : Addr) (x1 : Int32) : entryFrame m #[(.ref x0), (.int x1)] 2 = mkF m 0 #[.val (.ref x0), .val (.int x1)] [] := by first | (simp [entryFrame, mkF, argsToLocals, Value.category]; done) | rfl
def Q_rlab0 (Z : State) (a1 : Addr) (y : Addr) (kB : ClassId) (u0 : Int32) (u1 : Int32) (u2 : Int32) (h0 : Heap) (n0 : Nat) (v : Option Value) (h : Heap) (L : List Loc) : Prop := v = some (.int u0) ∧ Fr n0 L ∧ h = h0
theorem d12_0 : decode prog_56_method_10_code 0 = .ok (.aload_n 0, 1) := by decide +kernel
theorem d12_1 : decode prog_56_method_10_code 1 = .ok (.getfield 38, 3) := by decide +kernel
theorem d12_4 : decode prog_56_method_10_code 4 = .ok (.iload_n 1, 1) := by decide +kernel
theorem d12_5 : decode prog_56_method_10_code 5 = .ok (.iaload, 1) := by decide +kernel
theorem d12_6 : decode prog_56_method_10_code 6 = .ok (.ireturn, 1) := by decide +kernel
set_option maxRecDepth 65536 in
set_option maxHeartbeats 40000000 in
theorem rlab0 (l : Launch) (Z : State) (a0 : Array Value) (hw : ∀ d ∈ tables_1, d.before a0 Z = true) (ws : List Jvm.Cond) (a1 : Addr) (y : Addr) (kB : ClassId) (u0 : Int32) (u1 : Int32) (u2 : Int32) (h0 : Heap) (n0 : Nat) (Z0 : n0 ≤ h0.size) (F1 : Fld Z h0 a1 "com/example/repco/repco/service/TransitionGraph" "labelOf" "[I" (.ref y)) (V1 : Arv Z h0 y kB .int (3 : Int32) [(.int u0), (.int u1), (.int u2)] (.int (0 : Int32))) :
    MetFree l (⟨"com/example/repco/repco/service/TransitionGraph", "label", "(I)I"⟩ : MethodName) (head1 (Jvm.Cond.code (⟨"com/example/repco/repco/service/TransitionGraph", "label", "(I)I"⟩ : MethodName) prog_56_method_10_code 2 (some .int) :: ws) ({ frames := 0, cells := 0, slots := 0, locals := 0 } : Room)) (fun a U => a = #[(.ref a1), (.int (0 : Int32))] ∧ Z.Warmed39 U.vm ∧ U.heap = h0) (fun _ _ _ _ _ => True) (fun _ U o U' => ∃ v L, o = .returned v ∧ Q_rlab0 Z a1 y kB u0 u1 u2 h0 n0 v U'.heap L ∧ FrameEnd U o U' L ({ frames := 0, cells := 0, slots := 0, locals := 0 } : Room).cells ({ frames := 0, cells := 0, slots := 0, locals := 0 } : Room).slots) := by
  refine MetFree.of_bodySF (plainFor_of_name pn_12) hisR ?_
  intro p e s m args below meth c s₁ Bd hml0 hP hK
  obtain ⟨rfl, hZ, hh⟩ := hP
  have hx := Bd.exec
  have hby := Bd.bytes
  have hml : c.maxLocals = 2 := hml0
  have hown : s.vm.findClass "com/example/repco/repco/service/TransitionGraph" = some m.cls := findClass_of_methodNamed Bd.named
  have hnm := (name_of_methodNamed Bd.named Bd.method).1
  have X0 : Stand p l e ({ frames := 0, cells := 0, slots := 0, locals := 0 } : Room) s m #[(.ref a1), (.int (0 : Int32))] below meth c s₁ [] 0 0 := Stand.of_body Bd
  have e0 : s₁.heap = h0 := by rw [← hh, Bd.state]; rfl
  have N0 := Fr.nil n0
  refine own_go (g' := (mkF m 0 #[.val (.ref a1), .val (.int (0 : Int32))] [])) (fun t k => castTop (ef_12 m (a1) ((0 : Int32))) k) ?_
  refine own_go (T' := s₁) (g' := (mkF m 1 #[.val (.ref a1), .val (.int (0 : Int32))] [(.ref a1)])) (fun t kt => ?_) ?_
  · show Steps p.tables e below (s₁.setTop (mkF m 0 #[.val (.ref a1), .val (.int (0 : Int32))] [])) t
    refine XS.aloadN X0.here hx rfl (hb hby d12_0) rfl rfl ?_
    exact kt
  obtain ⟨T_1, X_1, e_1, st_1⟩ := getF X0 hx hZ hown (host := "") (Or.inl (hw _ (List.mem_of_getElem? (i := 82) rfl))) Via.refl e0 F1 (g := (mkF m 1 #[.val (.ref a1), .val (.int (0 : Int32))] [(.ref a1)])) rfl rfl (hb hby d12_1)
  refine own_go (g' := (mkF m 4 #[.val (.ref a1), .val (.int (0 : Int32))] [(.ref y)])) st_1 ?_
  refine own_go (T' := T_1) (g' := (mkF m 5 #[.val (.ref a1), .val (.int (0 : Int32))] [(.int (0 : Int32)), (.ref y)])) (fun t kt => ?_) ?_
  · show Steps p.tables e below (T_1.setTop (mkF m 4 #[.val (.ref a1), .val (.int (0 : Int32))] [(.ref y)])) t
    refine XS.iloadN X_1.here hx rfl (hb hby d12_4) rfl ?_
    exact kt
  have vq_2 := V1
  obtain ⟨c_2, a_2, q_2, s_2, m_2, H_2, G_2⟩ := vq_2
  have hin_2 : ¬ ((0 : Int32) < 0 ∨ c_2.slots.size ≤ ((0 : Int32)).toNatClampNeg) := inb_of s_2 ⟨by decide, by decide⟩
  have hat_2 : c_2.slots[((0 : Int32)).toNatClampNeg]? = some (.int u0) := H_2.at hin_2 rfl
  refine own_go (T' := T_1) (g' := (mkF m 6 #[.val (.ref a1), .val (.int (0 : Int32))] [(.int u0)])) (fun t kt => ?_) ?_
  · refine X_1.iaload hx (j := (0 : Int32)) (v := (.int u0)) (by rw [e_1]; exact a_2.1) (State.isArrayOf_alike hZ.alike a_2.2.1) a_2.2.2 hin_2 hat_2 (g := (mkF m 5 #[.val (.ref a1), .val (.int (0 : Int32))] [(.int (0 : Int32)), (.ref y)])) rfl rfl (hb hby d12_5) _ ?_
    exact kt
  obtain ⟨fs, hr, hrun, hended, hW, hsame⟩ := X_1.leave (v := some (.int u0)) (fun h => by rw [Bd.returns] at h; cases h)
  refine ⟨_, _, ?_, hrun, hended, _, _, rfl, ?_, ⟨_, rfl⟩, hW, hsame.mono (by decide) (by decide)⟩
  · exact retI X_1 hx Bd.returns (hb hby d12_6) hr
  · show Q_rlab0 Z _ _ _ _ _ _ h0 n0 _ T_1.heap _
    rw [e_1]
    exact ⟨rfl, N0, rfl⟩
def Q_rlab1 (Z : State) (a1 : Addr) (y : Addr) (kB : ClassId) (u0 : Int32) (u1 : Int32) (u2 : Int32) (h0 : Heap) (n0 : Nat) (v : Option Value) (h : Heap) (L : List Loc) : Prop := v = some (.int u1) ∧ Fr n0 L ∧ h = h0
set_option maxRecDepth 65536 in
set_option maxHeartbeats 40000000 in
theorem rlab1 (l : Launch) (Z : State) (a0 : Array Value) (hw : ∀ d ∈ tables_1, d.before a0 Z = true) (ws : List Jvm.Cond) (a1 : Addr) (y : Addr) (kB : ClassId) (u0 : Int32) (u1 : Int32) (u2 : Int32) (h0 : Heap) (n0 : Nat) (Z0 : n0 ≤ h0.size) (F1 : Fld Z h0 a1 "com/example/repco/repco/service/TransitionGraph" "labelOf" "[I" (.ref y)) (V1 : Arv Z h0 y kB .int (3 : Int32) [(.int u0), (.int u1), (.int u2)] (.int (0 : Int32))) :
    MetFree l (⟨"com/example/repco/repco/service/TransitionGraph", "label", "(I)I"⟩ : MethodName) (head1 (Jvm.Cond.code (⟨"com/example/repco/repco/service/TransitionGraph", "label", "(I)I"⟩ : MethodName) prog_56_method_10_code 2 (some .int) :: ws) ({ frames := 0, cells := 0, slots := 0, locals := 0 } : Room)) (fun a U => a = #[(.ref a1), (.int (1 : Int32))] ∧ Z.Warmed39 U.vm ∧ U.heap = h0) (fun _ _ _ _ _ => True) (fun _ U o U' => ∃ v L, o = .returned v ∧ Q_rlab1 Z a1 y kB u0 u1 u2 h0 n0 v U'.heap L ∧ FrameEnd U o U' L ({ frames := 0, cells := 0, slots := 0, locals := 0 } : Room).cells ({ frames := 0, cells := 0, slots := 0, locals := 0 } : Room).slots) := by
  refine MetFree.of_bodySF (plainFor_of_name pn_12) hisR ?_
  intro p e s m args below meth c s₁ Bd hml0 hP hK
  obtain ⟨rfl, hZ, hh⟩ := hP
  have hx := Bd.exec
  have hby := Bd.bytes
  have hml : c.maxLocals = 2 := hml0
  have hown : s.vm.findClass "com/example/repco/repco/service/TransitionGraph" = some m.cls := findClass_of_methodNamed Bd.named
  have hnm := (name_of_methodNamed Bd.named Bd.method).1
  have X0 : Stand p l e ({ frames := 0, cells := 0, slots := 0, locals := 0 } : Room) s m #[(.ref a1), (.int (1 : Int32))] below meth c s₁ [] 0 0 := Stand.of_body Bd
  have e0 : s₁.heap = h0 := by rw [← hh, Bd.state]; rfl
  have N0 := Fr.nil n0
  refine own_go (g' := (mkF m 0 #[.val (.ref a1), .val (.int (1 : Int32))] [])) (fun t k => castTop (ef_12 m (a1) ((1 : Int32))) k) ?_
  refine own_go (T' := s₁) (g' := (mkF m 1 #[.val (.ref a1), .val (.int (1 : Int32))] [(.ref a1)])) (fun t kt => ?_) ?_
  · show Steps p.tables e below (s₁.setTop (mkF m 0 #[.val (.ref a1), .val (.int (1 : Int32))] [])) t
    refine XS.aloadN X0.here hx rfl (hb hby d12_0) rfl rfl ?_
    exact kt
  obtain ⟨T_1, X_1, e_1, st_1⟩ := getF X0 hx hZ hown (host := "") (Or.inl (hw _ (List.mem_of_getElem? (i := 82) rfl))) Via.refl e0 F1 (g := (mkF m 1 #[.val (.ref a1), .val (.int (1 : Int32))] [(.ref a1)])) rfl rfl (hb hby d12_1)
  refine own_go (g' := (mkF m 4 #[.val (.ref a1), .val (.int (1 : Int32))] [(.ref y)])) st_1 ?_
  refine own_go (T' := T_1) (g' := (mkF m 5 #[.val (.ref a1), .val (.int (1 : Int32))] [(.int (1 : Int32)), (.ref y)])) (fun t kt => ?_) ?_
  · show Steps p.tables e below (T_1.setTop (mkF m 4 #[.val (.ref a1), .val (.int (1 : Int32))] [(.ref y)])) t
    refine XS.iloadN X_1.here hx rfl (hb hby d12_4) rfl ?_
    exact kt
  have vq_2 := V1
  obtain ⟨c_2, a_2, q_2, s_2, m_2, H_2, G_2⟩ := vq_2
  have hin_2 : ¬ ((1 : Int32) < 0 ∨ c_2.slots.size ≤ ((1 : Int32)).toNatClampNeg) := inb_of s_2 ⟨by decide, by decide⟩
  have hat_2 : c_2.slots[((1 : Int32)).toNatClampNeg]? = some (.int u1) := H_2.at hin_2 rfl
  refine own_go (T' := T_1) (g' := (mkF m 6 #[.val (.ref a1), .val (.int (1 : Int32))] [(.int u1)])) (fun t kt => ?_) ?_
  · refine X_1.iaload hx (j := (1 : Int32)) (v := (.int u1)) (by rw [e_1]; exact a_2.1) (State.isArrayOf_alike hZ.alike a_2.2.1) a_2.2.2 hin_2 hat_2 (g := (mkF m 5 #[.val (.ref a1), .val (.int (1 : Int32))] [(.int (1 : Int32)), (.ref y)])) rfl rfl (hb hby d12_5) _ ?_
    exact kt
  obtain ⟨fs, hr, hrun, hended, hW, hsame⟩ := X_1.leave (v := some (.int u1)) (fun h => by rw [Bd.returns] at h; cases h)
  refine ⟨_, _, ?_, hrun, hended, _, _, rfl, ?_, ⟨_, rfl⟩, hW, hsame.mono (by decide) (by decide)⟩
  · exact retI X_1 hx Bd.returns (hb hby d12_6) hr
  · show Q_rlab1 Z _ _ _ _ _ _ h0 n0 _ T_1.heap _
    rw [e_1]
    exact ⟨rfl, N0, rfl⟩
def Q_rlab2 (Z : State) (a1 : Addr) (y : Addr) (kB : ClassId) (u0 : Int32) (u1 : Int32) (u2 : Int32) (h0 : Heap) (n0 : Nat) (v : Option Value) (h : Heap) (L : List Loc) : Prop := v = some (.int u2) ∧ Fr n0 L ∧ h = h0
set_option maxRecDepth 65536 in
set_option maxHeartbeats 40000000 in
theorem rlab2 (l : Launch) (Z : State) (a0 : Array Value) (hw : ∀ d ∈ tables_1, d.before a0 Z = true) (ws : List Jvm.Cond) (a1 : Addr) (y : Addr) (kB : ClassId) (u0 : Int32) (u1 : Int32) (u2 : Int32) (h0 : Heap) (n0 : Nat) (Z0 : n0 ≤ h0.size) (F1 : Fld Z h0 a1 "com/example/repco/repco/service/TransitionGraph" "labelOf" "[I" (.ref y)) (V1 : Arv Z h0 y kB .int (3 : Int32) [(.int u0), (.int u1), (.int u2)] (.int (0 : Int32))) :
    MetFree l (⟨"com/example/repco/repco/service/TransitionGraph", "label", "(I)I"⟩ : MethodName) (head1 (Jvm.Cond.code (⟨"com/example/repco/repco/service/TransitionGraph", "label", "(I)I"⟩ : MethodName) prog_56_method_10_code 2 (some .int) :: ws) ({ frames := 0, cells := 0, slots := 0, locals := 0 } : Room)) (fun a U => a = #[(.ref a1), (.int (2 : Int32))] ∧ Z.Warmed39 U.vm ∧ U.heap = h0) (fun _ _ _ _ _ => True) (fun _ U o U' => ∃ v L, o = .returned v ∧ Q_rlab2 Z a1 y kB u0 u1 u2 h0 n0 v U'.heap L ∧ FrameEnd U o U' L ({ frames := 0, cells := 0, slots := 0, locals := 0 } : Room).cells ({ frames := 0, cells := 0, slots := 0, locals := 0 } : Room).slots) := by
  refine MetFree.of_bodySF (plainFor_of_name pn_12) hisR ?_
  intro p e s m args below meth c s₁ Bd hml0 hP hK
  obtain ⟨rfl, hZ, hh⟩ := hP
  have hx := Bd.exec
  have hby := Bd.bytes
  have hml : c.maxLocals = 2 := hml0
  have hown : s.vm.findClass "com/example/repco/repco/service/TransitionGraph" = some m.cls := findClass_of_methodNamed Bd.named
  have hnm := (name_of_methodNamed Bd.named Bd.method).1
  have X0 : Stand p l e ({ frames := 0, cells := 0, slots := 0, locals := 0 } : Room) s m #[(.ref a1), (.int (2 : Int32))] below meth c s₁ [] 0 0 := Stand.of_body Bd
  have e0 : s₁.heap = h0 := by rw [← hh, Bd.state]; rfl
  have N0 := Fr.nil n0
  refine own_go (g' := (mkF m 0 #[.val (.ref a1), .val (.int (2 : Int32))] [])) (fun t k => castTop (ef_12 m (a1) ((2 : Int32))) k) ?_
  refine own_go (T' := s₁) (g' := (mkF m 1 #[.val (.ref a1), .val (.int (2 : Int32))] [(.ref a1)])) (fun t kt => ?_) ?_
  · show Steps p.tables e below (s₁.setTop (mkF m 0 #[.val (.ref a1), .val (.int (2 : Int32))] [])) t
    refine XS.aloadN X0.here hx rfl (hb hby d12_0) rfl rfl ?_
    exact kt
  obtain ⟨T_1, X_1, e_1, st_1⟩ := getF X0 hx hZ hown (host := "") (Or.inl (hw _ (List.mem_of_getElem? (i := 82) rfl))) Via.refl e0 F1 (g := (mkF m 1 #[.val (.ref a1), .val (.int (2 : Int32))] [(.ref a1)])) rfl rfl (hb hby d12_1)
  refine own_go (g' := (mkF m 4 #[.val (.ref a1), .val (.int (2 : Int32))] [(.ref y)])) st_1 ?_
  refine own_go (T' := T_1) (g' := (mkF m 5 #[.val (.ref a1), .val (.int (2 : Int32))] [(.int (2 : Int32)), (.ref y)])) (fun t kt => ?_) ?_
  · show Steps p.tables e below (T_1.setTop (mkF m 4 #[.val (.ref a1), .val (.int (2 : Int32))] [(.ref y)])) t
    refine XS.iloadN X_1.here hx rfl (hb hby d12_4) rfl ?_
    exact kt
  have vq_2 := V1
  obtain ⟨c_2, a_2, q_2, s_2, m_2, H_2, G_2⟩ := vq_2
  have hin_2 : ¬ ((2 : Int32) < 0 ∨ c_2.slots.size ≤ ((2 : Int32)).toNatClampNeg) := inb_of s_2 ⟨by decide, by decide⟩
  have hat_2 : c_2.slots[((2 : Int32)).toNatClampNeg]? = some (.int u2) := H_2.at hin_2 rfl
  refine own_go (T' := T_1) (g' := (mkF m 6 #[.val (.ref a1), .val (.int (2 : Int32))] [(.int u2)])) (fun t kt => ?_) ?_
  · refine X_1.iaload hx (j := (2 : Int32)) (v := (.int u2)) (by rw [e_1]; exact a_2.1) (State.isArrayOf_alike hZ.alike a_2.2.1) a_2.2.2 hin_2 hat_2 (g := (mkF m 5 #[.val (.ref a1), .val (.int (2 : Int32))] [(.int (2 : Int32)), (.ref y)])) rfl rfl (hb hby d12_5) _ ?_
    exact kt
  obtain ⟨fs, hr, hrun, hended, hW, hsame⟩ := X_1.leave (v := some (.int u2)) (fun h => by rw [Bd.returns] at h; cases h)
  refine ⟨_, _, ?_, hrun, hended, _, _, rfl, ?_, ⟨_, rfl⟩, hW, hsame.mono (by decide) (by decide)⟩
  · exact retI X_1 hx Bd.returns (hb hby d12_6) hr
  · show Q_rlab2 Z _ _ _ _ _ _ h0 n0 _ T_1.heap _
    rw [e_1]
    exact ⟨rfl, N0, rfl⟩
theorem pn_13 : plainName "com/example/repco/repco/service/TransitionGraph" = true := by first | (simp [plainName, overriddenIn]; done) | decide +kernel
theorem ef_13 (m : MethodId) (x0 : Addr) (x1 : Int32) : entryFrame m #[(.ref x0), (.int x1)] 2 = mkF m 0 #[.val (.ref x0), .val (.int x1)] [] := by first | (simp [entryFrame, mkF, argsToLocals, Value.category]; done) | rfl
def Q_rtar0 (Z : State) (a1 : Addr) (y : Addr) (kB : ClassId) (u0 : Int32) (u1 : Int32) (u2 : Int32) (h0 : Heap) (n0 : Nat) (v : Option Value) (h : Heap) (L : List Loc) : Prop := v = some (.int u0) ∧ Fr n0 L ∧ h = h0
theorem d13_0 : decode prog_56_method_11_code 0 = .ok (.aload_n 0, 1) := by decide +kernel
theorem d13_1 : decode prog_56_method_11_code 1 = .ok (.getfield 44, 3) := by decide +kernel
theorem d13_4 : decode prog_56_method_11_code 4 = .ok (.iload_n 1, 1) := by decide +kernel
theorem d13_5 : decode prog_56_method_11_code 5 = .ok (.iaload, 1) := by decide +kernel
theorem d13_6 : decode prog_56_method_11_code 6 = .ok (.ireturn, 1) := by decide +kernel
set_option maxRecDepth 65536 in
set_option maxHeartbeats 40000000 in
theorem rtar0 (l : Launch) (Z : State) (a0 : Array Value) (hw : ∀ d ∈ tables_1, d.before a0 Z = true) (ws : List Jvm.Cond) (a1 : Addr) (y : Addr) (kB : ClassId) (u0 : Int32) (u1 : Int32) (u2 : Int32) (h0 : Heap) (n0 : Nat) (Z0 : n0 ≤ h0.size) (F1 : Fld Z h0 a1 "com/example/repco/repco/service/TransitionGraph" "targetOf" "[I" (.ref y)) (V1 : Arv Z h0 y kB .int (3 : Int32) [(.int u0), (.int u1), (.int u2)] (.int (0 : Int32))) :
    MetFree l (⟨"com/example/repco/repco/service/TransitionGraph", "target", "(I)I"⟩ : MethodName) (head1 (Jvm.Cond.code (⟨"com/example/repco/repco/service/TransitionGraph", "target", "(I)I"⟩ : MethodName) prog_56_method_11_code 2 (some .int) :: ws) ({ frames := 0, cells := 0, slots := 0, locals := 0 } : Room)) (fun a U => a = #[(.ref a1), (.int (0 : Int32))] ∧ Z.Warmed39 U.vm ∧ U.heap = h0) (fun _ _ _ _ _ => True) (fun _ U o U' => ∃ v L, o = .returned v ∧ Q_rtar0 Z a1 y kB u0 u1 u2 h0 n0 v U'.heap L ∧ FrameEnd U o U' L ({ frames := 0, cells := 0, slots := 0, locals := 0 } : Room).cells ({ frames := 0, cells := 0, slots := 0, locals := 0 } : Room).slots) := by
  refine MetFree.of_bodySF (plainFor_of_name pn_13) hisR ?_
  intro p e s m args below meth c s₁ Bd hml0 hP hK
  obtain ⟨rfl, hZ, hh⟩ := hP
  have hx := Bd.exec
  have hby := Bd.bytes
  have hml : c.maxLocals = 2 := hml0
  have hown : s.vm.findClass "com/example/repco/repco/service/TransitionGraph" = some m.cls := findClass_of_methodNamed Bd.named
  have hnm := (name_of_methodNamed Bd.named Bd.method).1
  have X0 : Stand p l e ({ frames := 0, cells := 0, slots := 0, locals := 0 } : Room) s m #[(.ref a1), (.int (0 : Int32))] below meth c s₁ [] 0 0 := Stand.of_body Bd
  have e0 : s₁.heap = h0 := by rw [← hh, Bd.state]; rfl
  have N0 := Fr.nil n0
  refine own_go (g' := (mkF m 0 #[.val (.ref a1), .val (.int (0 : Int32))] [])) (fun t k => castTop (ef_13 m (a1) ((0 : Int32))) k) ?_
  refine own_go (T' := s₁) (g' := (mkF m 1 #[.val (.ref a1), .val (.int (0 : Int32))] [(.ref a1)])) (fun t kt => ?_) ?_
  · show Steps p.tables e below (s₁.setTop (mkF m 0 #[.val (.ref a1), .val (.int (0 : Int32))] [])) t
    refine XS.aloadN X0.here hx rfl (hb hby d13_0) rfl rfl ?_
    exact kt
  obtain ⟨T_1, X_1, e_1, st_1⟩ := getF X0 hx hZ hown (host := "") (Or.inl (hw _ (List.mem_of_getElem? (i := 85) rfl))) Via.refl e0 F1 (g := (mkF m 1 #[.val (.ref a1), .val (.int (0 : Int32))] [(.ref a1)])) rfl rfl (hb hby d13_1)
  refine own_go (g' := (mkF m 4 #[.val (.ref a1), .val (.int (0 : Int32))] [(.ref y)])) st_1 ?_
  refine own_go (T' := T_1) (g' := (mkF m 5 #[.val (.ref a1), .val (.int (0 : Int32))] [(.int (0 : Int32)), (.ref y)])) (fun t kt => ?_) ?_
  · show Steps p.tables e below (T_1.setTop (mkF m 4 #[.val (.ref a1), .val (.int (0 : Int32))] [(.ref y)])) t
    refine XS.iloadN X_1.here hx rfl (hb hby d13_4) rfl ?_
    exact kt
  have vq_2 := V1
  obtain ⟨c_2, a_2, q_2, s_2, m_2, H_2, G_2⟩ := vq_2
  have hin_2 : ¬ ((0 : Int32) < 0 ∨ c_2.slots.size ≤ ((0 : Int32)).toNatClampNeg) := inb_of s_2 ⟨by decide, by decide⟩
  have hat_2 : c_2.slots[((0 : Int32)).toNatClampNeg]? = some (.int u0) := H_2.at hin_2 rfl
  refine own_go (T' := T_1) (g' := (mkF m 6 #[.val (.ref a1), .val (.int (0 : Int32))] [(.int u0)])) (fun t kt => ?_) ?_
  · refine X_1.iaload hx (j := (0 : Int32)) (v := (.int u0)) (by rw [e_1]; exact a_2.1) (State.isArrayOf_alike hZ.alike a_2.2.1) a_2.2.2 hin_2 hat_2 (g := (mkF m 5 #[.val (.ref a1), .val (.int (0 : Int32))] [(.int (0 : Int32)), (.ref y)])) rfl rfl (hb hby d13_5) _ ?_
    exact kt
  obtain ⟨fs, hr, hrun, hended, hW, hsame⟩ := X_1.leave (v := some (.int u0)) (fun h => by rw [Bd.returns] at h; cases h)
  refine ⟨_, _, ?_, hrun, hended, _, _, rfl, ?_, ⟨_, rfl⟩, hW, hsame.mono (by decide) (by decide)⟩
  · exact retI X_1 hx Bd.returns (hb hby d13_6) hr
  · show Q_rtar0 Z _ _ _ _ _ _ h0 n0 _ T_1.heap _
    rw [e_1]
    exact ⟨rfl, N0, rfl⟩
def Q_rtar1 (Z : State) (a1 : Addr) (y : Addr) (kB : ClassId) (u0 : Int32) (u1 : Int32) (u2 : Int32) (h0 : Heap) (n0 : Nat) (v : Option Value) (h : Heap) (L : List Loc) : Prop := v = some (.int u1) ∧ Fr n0 L ∧ h = h0
set_option maxRecDepth 65536 in
set_option maxHeartbeats 40000000 in
theorem rtar1 (l : Launch) (Z : State) (a0 : Array Value) (hw : ∀ d ∈ tables_1, d.before a0 Z = true) (ws : List Jvm.Cond) (a1 : Addr) (y : Addr) (kB : ClassId) (u0 : Int32) (u1 : Int32) (u2 : Int32) (h0 : Heap) (n0 : Nat) (Z0 : n0 ≤ h0.size) (F1 : Fld Z h0 a1 "com/example/repco/repco/service/TransitionGraph" "targetOf" "[I" (.ref y)) (V1 : Arv Z h0 y kB .int (3 : Int32) [(.int u0), (.int u1), (.int u2)] (.int (0 : Int32))) :
    MetFree l (⟨"com/example/repco/repco/service/TransitionGraph", "target", "(I)I"⟩ : MethodName) (head1 (Jvm.Cond.code (⟨"com/example/repco/repco/service/TransitionGraph", "target", "(I)I"⟩ : MethodName) prog_56_method_11_code 2 (some .int) :: ws) ({ frames := 0, cells := 0, slots := 0, locals := 0 } : Room)) (fun a U => a = #[(.ref a1), (.int (1 : Int32))] ∧ Z.Warmed39 U.vm ∧ U.heap = h0) (fun _ _ _ _ _ => True) (fun _ U o U' => ∃ v L, o = .returned v ∧ Q_rtar1 Z a1 y kB u0 u1 u2 h0 n0 v U'.heap L ∧ FrameEnd U o U' L ({ frames := 0, cells := 0, slots := 0, locals := 0 } : Room).cells ({ frames := 0, cells := 0, slots := 0, locals := 0 } : Room).slots) := by
  refine MetFree.of_bodySF (plainFor_of_name pn_13) hisR ?_
  intro p e s m args below meth c s₁ Bd hml0 hP hK
  obtain ⟨rfl, hZ, hh⟩ := hP
  have hx := Bd.exec
  have hby := Bd.bytes
  have hml : c.maxLocals = 2 := hml0
  have hown : s.vm.findClass "com/example/repco/repco/service/TransitionGraph" = some m.cls := findClass_of_methodNamed Bd.named
  have hnm := (name_of_methodNamed Bd.named Bd.method).1
  have X0 : Stand p l e ({ frames := 0, cells := 0, slots := 0, locals := 0 } : Room) s m #[(.ref a1), (.int (1 : Int32))] below meth c s₁ [] 0 0 := Stand.of_body Bd
  have e0 : s₁.heap = h0 := by rw [← hh, Bd.state]; rfl
  have N0 := Fr.nil n0
  refine own_go (g' := (mkF m 0 #[.val (.ref a1), .val (.int (1 : Int32))] [])) (fun t k => castTop (ef_13 m (a1) ((1 : Int32))) k) ?_
  refine own_go (T' := s₁) (g' := (mkF m 1 #[.val (.ref a1), .val (.int (1 : Int32))] [(.ref a1)])) (fun t kt => ?_) ?_
  · show Steps p.tables e below (s₁.setTop (mkF m 0 #[.val (.ref a1), .val (.int (1 : Int32))] [])) t
    refine XS.aloadN X0.here hx rfl (hb hby d13_0) rfl rfl ?_
    exact kt
  obtain ⟨T_1, X_1, e_1, st_1⟩ := getF X0 hx hZ hown (host := "") (Or.inl (hw _ (List.mem_of_getElem? (i := 85) rfl))) Via.refl e0 F1 (g := (mkF m 1 #[.val (.ref a1), .val (.int (1 : Int32))] [(.ref a1)])) rfl rfl (hb hby d13_1)
  refine own_go (g' := (mkF m 4 #[.val (.ref a1), .val (.int (1 : Int32))] [(.ref y)])) st_1 ?_
  refine own_go (T' := T_1) (g' := (mkF m 5 #[.val (.ref a1), .val (.int (1 : Int32))] [(.int (1 : Int32)), (.ref y)])) (fun t kt => ?_) ?_
  · show Steps p.tables e below (T_1.setTop (mkF m 4 #[.val (.ref a1), .val (.int (1 : Int32))] [(.ref y)])) t
    refine XS.iloadN X_1.here hx rfl (hb hby d13_4) rfl ?_
    exact kt
  have vq_2 := V1
  obtain ⟨c_2, a_2, q_2, s_2, m_2, H_2, G_2⟩ := vq_2
  have hin_2 : ¬ ((1 : Int32) < 0 ∨ c_2.slots.size ≤ ((1 : Int32)).toNatClampNeg) := inb_of s_2 ⟨by decide, by decide⟩
  have hat_2 : c_2.slots[((1 : Int32)).toNatClampNeg]? = some (.int u1) := H_2.at hin_2 rfl
  refine own_go (T' := T_1) (g' := (mkF m 6 #[.val (.ref a1), .val (.int (1 : Int32))] [(.int u1)])) (fun t kt => ?_) ?_
  · refine X_1.iaload hx (j := (1 : Int32)) (v := (.int u1)) (by rw [e_1]; exact a_2.1) (State.isArrayOf_alike hZ.alike a_2.2.1) a_2.2.2 hin_2 hat_2 (g := (mkF m 5 #[.val (.ref a1), .val (.int (1 : Int32))] [(.int (1 : Int32)), (.ref y)])) rfl rfl (hb hby d13_5) _ ?_
    exact kt
  obtain ⟨fs, hr, hrun, hended, hW, hsame⟩ := X_1.leave (v := some (.int u1)) (fun h => by rw [Bd.returns] at h; cases h)
  refine ⟨_, _, ?_, hrun, hended, _, _, rfl, ?_, ⟨_, rfl⟩, hW, hsame.mono (by decide) (by decide)⟩
  · exact retI X_1 hx Bd.returns (hb hby d13_6) hr
  · show Q_rtar1 Z _ _ _ _ _ _ h0 n0 _ T_1.heap _
    rw [e_1]
    exact ⟨rfl, N0, rfl⟩
def Q_rtar2 (Z : State) (a1 : Addr) (y : Addr) (kB : ClassId) (u0 : Int32) (u1 : Int32) (u2 : Int32) (h0 : Heap) (n0 : Nat) (v : Option Value) (h : Heap) (L : List Loc) : Prop := v = some (.int u2) ∧ Fr n0 L ∧ h = h0
set_option maxRecDepth 65536 in
set_option maxHeartbeats 40000000 in
theorem rtar2 (l : Launch) (Z : State) (a0 : Array Value) (hw : ∀ d ∈ tables_1, d.before a0 Z = true) (ws : List Jvm.Cond) (a1 : Addr) (y : Addr) (kB : ClassId) (u0 : Int32) (u1 : Int32) (u2 : Int32) (h0 : Heap) (n0 : Nat) (Z0 : n0 ≤ h0.size) (F1 : Fld Z h0 a1 "com/example/repco/repco/service/TransitionGraph" "targetOf" "[I" (.ref y)) (V1 : Arv Z h0 y kB .int (3 : Int32) [(.int u0), (.int u1), (.int u2)] (.int (0 : Int32))) :
    MetFree l (⟨"com/example/repco/repco/service/TransitionGraph", "target", "(I)I"⟩ : MethodName) (head1 (Jvm.Cond.code (⟨"com/example/repco/repco/service/TransitionGraph", "target", "(I)I"⟩ : MethodName) prog_56_method_11_code 2 (some .int) :: ws) ({ frames := 0, cells := 0, slots := 0, locals := 0 } : Room)) (fun a U => a = #[(.ref a1), (.int (2 : Int32))] ∧ Z.Warmed39 U.vm ∧ U.heap = h0) (fun _ _ _ _ _ => True) (fun _ U o U' => ∃ v L, o = .returned v ∧ Q_rtar2 Z a1 y kB u0 u1 u2 h0 n0 v U'.heap L ∧ FrameEnd U o U' L ({ frames := 0, cells := 0, slots := 0, locals := 0 } : Room).cells ({ frames := 0, cells := 0, slots := 0, locals := 0 } : Room).slots) := by
  refine MetFree.of_bodySF (plainFor_of_name pn_13) hisR ?_
  intro p e s m args below meth c s₁ Bd hml0 hP hK
  obtain ⟨rfl, hZ, hh⟩ := hP
  have hx := Bd.exec
  have hby := Bd.bytes
  have hml : c.maxLocals = 2 := hml0
  have hown : s.vm.findClass "com/example/repco/repco/service/TransitionGraph" = some m.cls := findClass_of_methodNamed Bd.named
  have hnm := (name_of_methodNamed Bd.named Bd.method).1
  have X0 : Stand p l e ({ frames := 0, cells := 0, slots := 0, locals := 0 } : Room) s m #[(.ref a1), (.int (2 : Int32))] below meth c s₁ [] 0 0 := Stand.of_body Bd
  have e0 : s₁.heap = h0 := by rw [← hh, Bd.state]; rfl
  have N0 := Fr.nil n0
  refine own_go (g' := (mkF m 0 #[.val (.ref a1), .val (.int (2 : Int32))] [])) (fun t k => castTop (ef_13 m (a1) ((2 : Int32))) k) ?_
  refine own_go (T' := s₁) (g' := (mkF m 1 #[.val (.ref a1), .val (.int (2 : Int32))] [(.ref a1)])) (fun t kt => ?_) ?_
  · show Steps p.tables e below (s₁.setTop (mkF m 0 #[.val (.ref a1), .val (.int (2 : Int32))] [])) t
    refine XS.aloadN X0.here hx rfl (hb hby d13_0) rfl rfl ?_
    exact kt
  obtain ⟨T_1, X_1, e_1, st_1⟩ := getF X0 hx hZ hown (host := "") (Or.inl (hw _ (List.mem_of_getElem? (i := 85) rfl))) Via.refl e0 F1 (g := (mkF m 1 #[.val (.ref a1), .val (.int (2 : Int32))] [(.ref a1)])) rfl rfl (hb hby d13_1)
  refine own_go (g' := (mkF m 4 #[.val (.ref a1), .val (.int (2 : Int32))] [(.ref y)])) st_1 ?_
  refine own_go (T' := T_1) (g' := (mkF m 5 #[.val (.ref a1), .val (.int (2 : Int32))] [(.int (2 : Int32)), (.ref y)])) (fun t kt => ?_) ?_
  · show Steps p.tables e below (T_1.setTop (mkF m 4 #[.val (.ref a1), .val (.int (2 : Int32))] [(.ref y)])) t
    refine XS.iloadN X_1.here hx rfl (hb hby d13_4) rfl ?_
    exact kt
  have vq_2 := V1
  obtain ⟨c_2, a_2, q_2, s_2, m_2, H_2, G_2⟩ := vq_2
  have hin_2 : ¬ ((2 : Int32) < 0 ∨ c_2.slots.size ≤ ((2 : Int32)).toNatClampNeg) := inb_of s_2 ⟨by decide, by decide⟩
  have hat_2 : c_2.slots[((2 : Int32)).toNatClampNeg]? = some (.int u2) := H_2.at hin_2 rfl
  refine own_go (T' := T_1) (g' := (mkF m 6 #[.val (.ref a1), .val (.int (2 : Int32))] [(.int u2)])) (fun t kt => ?_) ?_
  · refine X_1.iaload hx (j := (2 : Int32)) (v := (.int u2)) (by rw [e_1]; exact a_2.1) (State.isArrayOf_alike hZ.alike a_2.2.1) a_2.2.2 hin_2 hat_2 (g := (mkF m 5 #[.val (.ref a1), .val (.int (2 : Int32))] [(.int (2 : Int32)), (.ref y)])) rfl rfl (hb hby d13_5) _ ?_
    exact kt
  obtain ⟨fs, hr, hrun, hended, hW, hsame⟩ := X_1.leave (v := some (.int u2)) (fun h => by rw [Bd.returns] at h; cases h)
  refine ⟨_, _, ?_, hrun, hended, _, _, rfl, ?_, ⟨_, rfl⟩, hW, hsame.mono (by decide) (by decide)⟩
  · exact retI X_1 hx Bd.returns (hb hby d13_6) hr
  · show Q_rtar2 Z _ _ _ _ _ _ h0 n0 _ T_1.heap _
    rw [e_1]
    exact ⟨rfl, N0, rfl⟩
theorem pn_0 : plainName "com/example/repco/repco/service/BuilderAddPinLaw" = true := by first | (simp [plainName, overriddenIn]; done) | decide +kernel
theorem ef_0 (m : MethodId) (x0 : Int32) (x1 : Int32) (x2 : Int32) (x3 : Int32) (x4 : Int32) (x5 : Int32) : entryFrame m #[(.int x0), (.int x1), (.int x2), (.int x3), (.int x4), (.int x5)] maxLocals = mkF m 0 #[.val (.int x0), .val (.int x1), .val (.int x2), .val (.int x3), .val (.int x4), .val (.int x5), .unset, .unset, .unset, .unset] [] := by first | (simp [entryFrame, mkF, argsToLocals, Value.category, maxLocals]; done) | rfl
def Q_rm0 (Z : State) (p1 : Int32) (p2 : Int32) (p3 : Int32) (p4 : Int32) (p5 : Int32) (p6 : Int32) (dc : Addr) (h0 : Heap) (n0 : Nat) (v : Option Value) (h : Heap) (L : List Loc) : Prop := v = some (.int (1 : Int32)) ∧ Fr n0 L
theorem pd_1 : parseMethodDescriptor "(II)V" = some ⟨[.int, .int], none⟩ := by decide +kernel
theorem pd_2 : parseMethodDescriptor "(Ljava/util/List;[I)Lcom/example/repco/repco/service/TransitionGraph;" = some ⟨[(.object "java/util/List"), (.array .int)], some (.object "com/example/repco/repco/service/TransitionGraph")⟩ := by decide +kernel
theorem pd_7 : parseMethodDescriptor "()I" = some ⟨[], some .int⟩ := by decide +kernel
theorem pd_8 : parseMethodDescriptor "(I)I" = some ⟨[.int], some .int⟩ := by decide +kernel
set_option maxRecDepth 65536 in
set_option maxHeartbeats 40000000 in
theorem rm0 (l : Launch) (Z : State) (a0 : Array Value) (hw : ∀ d ∈ tables_1, d.before a0 Z = true) (ws : List Jvm.Cond) (p1 : Int32) (p2 : Int32) (p3 : Int32) (p4 : Int32) (p5 : Int32) (p6 : Int32) (dc : Addr) (h0 : Heap) (n0 : Nat) (Z0 : n0 ≤ h0.size) (O0 : Old Z n0 h0) (S0 : Sta Z Z.heap "java/util/ArrayList" "DEFAULTCAPACITY_EMPTY_ELEMENTDATA" "[Ljava/lang/Object;" (.ref dc)) :
    MetFree l x (head1 (Jvm.Cond.code x code maxLocals ret :: ws) room_1) (fun a U => a = #[(.int p1), (.int p2), (.int p3), (.int p4), (.int p5), (.int p6)] ∧ Z.Warmed39 U.vm ∧ U.heap = h0) (fun _ _ _ _ _ => True) (fun _ U o U' => ∃ v L, o = .returned v ∧ Q_rm0 Z p1 p2 p3 p4 p5 p6 dc h0 n0 v U'.heap L ∧ FrameEnd U o U' L room_1.cells room_1.slots) := by
  refine MetFree.of_bodySF (plainFor_of_name pn_0) hisR ?_
  intro p e s m args below meth c s₁ Bd hml0 hP hK
  obtain ⟨rfl, hZ, hh⟩ := hP
  have hx := Bd.exec
  have hby := Bd.bytes
  have hml : c.maxLocals = 10 := hml0
  have hown : s.vm.findClass "com/example/repco/repco/service/BuilderAddPinLaw" = some m.cls := findClass_of_methodNamed Bd.named
  have hnm := (name_of_methodNamed Bd.named Bd.method).1
  have X0 : Stand p l e room_1 s m #[(.int p1), (.int p2), (.int p3), (.int p4), (.int p5), (.int p6)] below meth c s₁ [] 0 0 := Stand.of_body Bd
  have e0 : s₁.heap = h0 := by rw [← hh, Bd.state]; rfl
  have N0 := Fr.nil n0
  refine own_go (g' := (mkF m 0 #[.val (.int p1), .val (.int p2), .val (.int p3), .val (.int p4), .val (.int p5), .val (.int p6), .unset, .unset, .unset, .unset] [])) (fun t k => castTop (ef_0 m (p1) (p2) (p3) (p4) (p5) (p6)) k) ?_
  obtain ⟨T_1, h_1, X_1, e_1, E_1, A_1, D_1, -, st_1⟩ := newO X0 hx hZ hown (hw _ (List.mem_of_getElem? (i := 0) rfl)) (hw _ (List.mem_of_getElem? (i := 1) rfl)) (hw _ (List.mem_of_getElem? (i := 2) rfl)) e0 (g := (mkF m 0 #[.val (.int p1), .val (.int p2), .val (.int p3), .val (.int p4), .val (.int p5), .val (.int p6), .unset, .unset, .unset, .unset] [])) rfl (hb hby at_0) (by decide) (by decide)
  obtain ⟨b_1, g_1⟩ : ∃ z, z = h0.size := ⟨_, rfl⟩
  rw [← g_1] at A_1 D_1 st_1
  have g_b_1 : n0 ≤ b_1 := Nat.le_trans Z0 (Nat.le_of_eq g_1.symm)
  have Z_1 : n0 ≤ h_1.size := Nat.le_trans Z0 E_1.1
  have F_first_b_1 : Fld Z h_1 b_1 "com/example/repco/repco/service/TransitionGraph$Builder" "first" "[I" .null := D_1 (Or.inl (hw _ (List.mem_of_getElem? (i := 11) rfl))) (ty := (.array .int)) (by decide)
  have F_labels_b_1 : Fld Z h_1 b_1 "com/example/repco/repco/service/TransitionGraph$Builder" "labels" "[I" .null := D_1 (Or.inl (hw _ (List.mem_of_getElem? (i := 13) rfl))) (ty := (.array .int)) (by decide)
  have F_targets_b_1 : Fld Z h_1 b_1 "com/example/repco/repco/service/TransitionGraph$Builder" "targets" "[I" .null := D_1 (Or.inl (hw _ (List.mem_of_getElem? (i := 15) rfl))) (ty := (.array .int)) (by decide)
  have F_size_b_1 : Fld Z h_1 b_1 "com/example/repco/repco/service/TransitionGraph$Builder" "size" "I" (.int (0 : Int32)) := D_1 (Or.inl (hw _ (List.mem_of_getElem? (i := 22) rfl))) (ty := .int) (by decide)
  have F_nodes_b_1 : Fld Z h_1 b_1 "com/example/repco/repco/service/TransitionGraph$Builder" "nodes" "I" (.int (0 : Int32)) := D_1 (Or.inl (hw _ (List.mem_of_getElem? (i := 65) rfl))) (ty := .int) (by decide)
  refine own_go (g' := (mkF m 3 #[.val (.int p1), .val (.int p2), .val (.int p3), .val (.int p4), .val (.int p5), .val (.int p6), .unset, .unset, .unset, .unset] [(.ref b_1)])) st_1 ?_
  refine own_go (T' := T_1) (g' := (mkF m 4 #[.val (.int p1), .val (.int p2), .val (.int p3), .val (.int p4), .val (.int p5), .val (.int p6), .unset, .unset, .unset, .unset] [(.ref b_1), (.ref b_1)])) (fun t kt => ?_) ?_
  · show Steps p.tables e below (T_1.setTop (mkF m 3 #[.val (.int p1), .val (.int p2), .val (.int p3), .val (.int p4), .val (.int p5), .val (.int p6), .unset, .unset, .unset, .unset] [(.ref b_1)])) t
    refine XS.dup X_1.here hx rfl (hb hby at_3) rfl rfl ?_
    exact kt
  obtain ⟨_, _, ⟨T_2, L_2, k_2, n_2⟩, -, X_2, ⟨Lc_2, hQ_2, l_2, y_2, z_2⟩, st_2⟩ := X_1.specialBack hx (y := (⟨"com/example/repco/repco/service/TransitionGraph$Builder", "<init>", "()V"⟩ : MethodName)) rfl hown (mvT hZ (hw _ (List.mem_of_getElem? (i := 3) rfl))) (mvT hZ (hw _ (List.mem_of_getElem? (i := 4) rfl))) (mvT hZ (hw _ (List.mem_of_getElem? (i := 5) rfl))) (by decide) (backOf (W := 1) (rbi l Z a0 hw [] (b_1)  h_1 n0 Z_1 A_1 F_first_b_1 F_labels_b_1 F_targets_b_1 F_size_b_1 F_nodes_b_1 g_b_1) hZ (hw _ (List.mem_of_getElem? (i := 5) rfl)) (hw _ (List.mem_of_getElem? (i := 2) rfl)) (by decide) (by decide)) (g := (mkF m 4 #[.val (.int p1), .val (.int p2), .val (.int p3), .val (.int p4), .val (.int p5), .val (.int p6), .unset, .unset, .unset, .unset] [(.ref b_1), (.ref b_1)])) rfl (by rw [hml]; rfl) (Steps.refl _) (a := b_1) (argsL := []) (rest := [(.ref b_1)]) (lenOf pd_0 rfl) rfl (by show 2 * 0 + _ ≤ _; exact Nat.le_of_eq rfl) (hb hby at_4) (fun _ _ => ⟨rfl, e_1, (by decide : 1 + 3 ≤ _), (by decide : 5 + 48 ≤ _)⟩)
  dsimp only [Pt.U, Pt.locs, Pt.cells, Pt.slots] at X_2 l_2 y_2 z_2 st_2 hQ_2
  subst l_2 y_2 z_2
  obtain ⟨x1, x2, x3, k1, k2, k3, rfl, N_2q, K_2, z1, z2, z3, n12, n13, n23, B1, B2, B3, B4, B5, V1, V2, V3⟩ := hQ_2
  have N_2 := Fr.app N0 N_2q
  have Z_2 : n0 ≤ T_2.heap.size := Nat.le_trans Z_1 K_2.1
  refine own_go (g' := (mkF m 7 #[.val (.int p1), .val (.int p2), .val (.int p3), .val (.int p4), .val (.int p5), .val (.int p6), .unset, .unset, .unset, .unset] [(.ref b_1)])) (fun t kt => st_2.trans kt) ?_
  have ne_b_1_x1 : b_1 ≠ x1 := Nat.ne_of_lt (Nat.lt_of_lt_of_le A_1.lt z1)
  have g_x1 : n0 ≤ x1 := Nat.le_trans Z_1 z1
  have ne_b_1_x2 : b_1 ≠ x2 := Nat.ne_of_lt (Nat.lt_of_lt_of_le A_1.lt z2)
  have g_x2 : n0 ≤ x2 := Nat.le_trans Z_1 z2
  have ne_b_1_x3 : b_1 ≠ x3 := Nat.ne_of_lt (Nat.lt_of_lt_of_le A_1.lt z3)
  have g_x3 : n0 ≤ x3 := Nat.le_trans Z_1 z3
  refine own_go (T' := T_2) (g' := (mkF m 13 #[.val (.int p1), .val (.int p2), .val (.int p3), .val (.int p4), .val (.int p5), .val (.int p6), .val (.ref b_1), .unset, .unset, .unset] [(.int p2), (.int p1), (.ref b_1)])) (fun t kt => ?_) ?_
  · show Steps p.tables e below (T_2.setTop (mkF m 7 #[.val (.int p1), .val (.int p2), .val (.int p3), .val (.int p4), .val (.int p5), .val (.int p6), .unset, .unset, .unset, .unset] [(.ref b_1)])) t
    refine XS.astore X_2.here hx rfl (hb hby at_7) rfl rfl (l' := #[.val (.int p1), .val (.int p2), .val (.int p3), .val (.int p4), .val (.int p5), .val (.int p6), .val (.ref b_1), .unset, .unset, .unset]) rfl ?_
    show Steps p.tables e below (T_2.setTop (mkF m 9 #[.val (.int p1), .val (.int p2), .val (.int p3), .val (.int p4), .val (.int p5), .val (.int p6), .val (.ref b_1), .unset, .unset, .unset] [])) t
    refine XS.aload X_2.here hx rfl (hb hby at_9) rfl rfl ?_
    show Steps p.tables e below (T_2.setTop (mkF m 11 #[.val (.int p1), .val (.int p2), .val (.int p3), .val (.int p4), .val (.int p5), .val (.int p6), .val (.ref b_1), .unset, .unset, .unset] [(.ref b_1)])) t
    refine XS.iloadN X_2.here hx rfl (hb hby at_11) rfl ?_
    show Steps p.tables e below (T_2.setTop (mkF m 12 #[.val (.int p1), .val (.int p2), .val (.int p3), .val (.int p4), .val (.int p5), .val (.int p6), .val (.ref b_1), .unset, .unset, .unset] [(.int p1), (.ref b_1)])) t
    refine XS.iloadN X_2.here hx rfl (hb hby at_12) rfl ?_
    exact kt
  have f_3 := (A_1.keep K_2)
  obtain ⟨cq_4, kq_4, q_4a, q_4b, q_4c⟩ := isOf hZ rfl f_3
  obtain ⟨_, _, ⟨T_4, L_4, k_4, n_4⟩, -, X_4, ⟨Lc_4, hQ_4, l_4, y_4, z_4⟩, st_4⟩ := X_2.virtualBack hx (y := (⟨"com/example/repco/repco/service/TransitionGraph$Builder", "add", "(II)V"⟩ : MethodName)) (z := (⟨"com/example/repco/repco/service/TransitionGraph$Builder", "add", "(II)V"⟩ : MethodName)) hown (mvT hZ (hw _ (List.mem_of_getElem? (i := 16) rfl))) (mvT hZ (hw _ (List.mem_of_getElem? (i := 17) rfl))) (notFace_of_selects (args := #[]) (mvT hZ (hw _ (List.mem_of_getElem? (i := 19) rfl)))) (mvT hZ (hw _ (List.mem_of_getElem? (i := 19) rfl))) (mvT hZ (hw _ (List.mem_of_getElem? (i := 18) rfl))) (by decide) (backOf (W := 0) (radd0 l Z a0 hw [] (b_1) (p1) (p2) x1 x2 x3 k2 k3 [(.int (0 : Int32)), (.int (0 : Int32)), (.int (0 : Int32)), (.int (0 : Int32)), (.int (0 : Int32)), (.int (0 : Int32)), (.int (0 : Int32)), (.int (0 : Int32)), (.int (0 : Int32)), (.int (0 : Int32)), (.int (0 : Int32)), (.int (0 : Int32)), (.int (0 : Int32)), (.int (0 : Int32)), (.int (0 : Int32)), (.int (0 : Int32))] [(.int (0 : Int32)), (.int (0 : Int32)), (.int (0 : Int32)), (.int (0 : Int32)), (.int (0 : Int32)), (.int (0 : Int32)), (.int (0 : Int32)), (.int (0 : Int32)), (.int (0 : Int32)), (.int (0 : Int32)), (.int (0 : Int32)), (.int (0 : Int32)), (.int (0 : Int32)), (.int (0 : Int32)), (.int (0 : Int32)), (.int (0 : Int32))] T_2.heap n0 Z_2 f_3 B1 B2 B3 B4 B5 V2 V3 g_b_1 g_x2 g_x3 ne_b_1_x2 ne_b_1_x3 n23 rfl rfl) hZ (hw _ (List.mem_of_getElem? (i := 20) rfl)) (hw _ (List.mem_of_getElem? (i := 2) rfl)) (by decide) (by decide)) q_4a q_4c (g := (mkF m 13 #[.val (.int p1), .val (.int p2), .val (.int p3), .val (.int p4), .val (.int p5), .val (.int p6), .val (.ref b_1), .unset, .unset, .unset] [(.int p2), (.int p1), (.ref b_1)])) rfl (by rw [hml]; rfl) (Steps.refl _) (argsL := [(.int p1), (.int p2)]) (rest := []) (lenOf pd_1 rfl) rfl (by show 2 * 0 + _ ≤ _; exact Nat.le_of_eq rfl) (hb hby at_13) (fun _ _ => ⟨rfl, rfl, (by decide : 4 + 0 ≤ _), (by decide : 53 + 0 ≤ _)⟩)
  dsimp only [Pt.U, Pt.locs, Pt.cells, Pt.slots] at X_4 l_4 y_4 z_4 st_4 hQ_4
  subst l_4 y_4 z_4
  obtain ⟨rfl, N_4q, K_4, B1__4, B2__4, B3__4, B4__4, B5__4, V2__4, V3__4⟩ := hQ_4
  have N_4 := Fr.app N_2 N_4q
  have Z_4 : n0 ≤ T_4.heap.size := Nat.le_trans Z_2 K_4.1
  refine own_go (g' := (mkF m 16 #[.val (.int p1), .val (.int p2), .val (.int p3), .val (.int p4), .val (.int p5), .val (.int p6), .val (.ref b_1), .unset, .unset, .unset] [])) (fun t kt => st_4.trans kt) ?_
  refine own_go (T' := T_4) (g' := (mkF m 20 #[.val (.int p1), .val (.int p2), .val (.int p3), .val (.int p4), .val (.int p5), .val (.int p6), .val (.ref b_1), .unset, .unset, .unset] [(.int p4), (.int p3), (.ref b_1)])) (fun t kt => ?_) ?_
  · show Steps p.tables e below (T_4.setTop (mkF m 16 #[.val (.int p1), .val (.int p2), .val (.int p3), .val (.int p4), .val (.int p5), .val (.int p6), .val (.ref b_1), .unset, .unset, .unset] [])) t
    refine XS.aload X_4.here hx rfl (hb hby at_16) rfl rfl ?_
    show Steps p.tables e below (T_4.setTop (mkF m 18 #[.val (.int p1), .val (.int p2), .val (.int p3), .val (.int p4), .val (.int p5), .val (.int p6), .val (.ref b_1), .unset, .unset, .unset] [(.ref b_1)])) t
    refine XS.iloadN X_4.here hx rfl (hb hby at_18) rfl ?_
    show Steps p.tables e below (T_4.setTop (mkF m 19 #[.val (.int p1), .val (.int p2), .val (.int p3), .val (.int p4), .val (.int p5), .val (.int p6), .val (.ref b_1), .unset, .unset, .unset] [(.int p3), (.ref b_1)])) t
    refine XS.iloadN X_4.here hx rfl (hb hby at_19) rfl ?_
    exact kt
  have f_5 := (f_3.keep K_4)
  obtain ⟨cq_6, kq_6, q_6a, q_6b, q_6c⟩ := isOf hZ rfl f_5
  obtain ⟨_, _, ⟨T_6, L_6, k_6, n_6⟩, -, X_6, ⟨Lc_6, hQ_6, l_6, y_6, z_6⟩, st_6⟩ := X_4.virtualBack hx (y := (⟨"com/example/repco/repco/service/TransitionGraph$Builder", "add", "(II)V"⟩ : MethodName)) (z := (⟨"com/example/repco/repco/service/TransitionGraph$Builder", "add", "(II)V"⟩ : MethodName)) hown (mvT hZ (hw _ (List.mem_of_getElem? (i := 16) rfl))) (mvT hZ (hw _ (List.mem_of_getElem? (i := 17) rfl))) (notFace_of_selects (args := #[]) (mvT hZ (hw _ (List.mem_of_getElem? (i := 19) rfl)))) (mvT hZ (hw _ (List.mem_of_getElem? (i := 19) rfl))) (mvT hZ (hw _ (List.mem_of_getElem? (i := 18) rfl))) (by decide) (backOf (W := 0) (radd1 l Z a0 hw [] (b_1) (p3) (p4) x1 x2 x3 k2 k3 ([(.int (0 : Int32)), (.int (0 : Int32)), (.int (0 : Int32)), (.int (0 : Int32)), (.int (0 : Int32)), (.int (0 : Int32)), (.int (0 : Int32)), (.int (0 : Int32)), (.int (0 : Int32)), (.int (0 : Int32)), (.int (0 : Int32)), (.int (0 : Int32)), (.int (0 : Int32)), (.int (0 : Int32)), (.int (0 : Int32)), (.int (0 : Int32))].set 0 (.int p1)) ([(.int (0 : Int32)), (.int (0 : Int32)), (.int (0 : Int32)), (.int (0 : Int32)), (.int (0 : Int32)), (.int (0 : Int32)), (.int (0 : Int32)), (.int (0 : Int32)), (.int (0 : Int32)), (.int (0 : Int32)), (.int (0 : Int32)), (.int (0 : Int32)), (.int (0 : Int32)), (.int (0 : Int32)), (.int (0 : Int32)), (.int (0 : Int32))].set 0 (.int p2)) T_4.heap n0 Z_4 f_5 B1__4 B2__4 B3__4 B4__4 B5__4 V2__4 V3__4 g_b_1 g_x2 g_x3 ne_b_1_x2 ne_b_1_x3 n23 rfl rfl) hZ (hw _ (List.mem_of_getElem? (i := 20) rfl)) (hw _ (List.mem_of_getElem? (i := 2) rfl)) (by decide) (by decide)) q_6a q_6c (g := (mkF m 20 #[.val (.int p1), .val (.int p2), .val (.int p3), .val (.int p4), .val (.int p5), .val (.int p6), .val (.ref b_1), .unset, .unset, .unset] [(.int p4), (.int p3), (.ref b_1)])) rfl (by rw [hml]; rfl) (Steps.refl _) (argsL := [(.int p3), (.int p4)]) (rest := []) (lenOf pd_1 rfl) rfl (by show 2 * 0 + _ ≤ _; exact Nat.le_of_eq rfl) (hb hby at_20) (fun _ _ => ⟨rfl, rfl, (by decide : 4 + 0 ≤ _), (by decide : 53 + 0 ≤ _)⟩)
  dsimp only [Pt.U, Pt.locs, Pt.cells, Pt.slots] at X_6 l_6 y_6 z_6 st_6 hQ_6
  subst l_6 y_6 z_6
  obtain ⟨rfl, N_6q, K_6, B1__6, B2__6, B3__6, B4__6, B5__6, V2__6, V3__6⟩ := hQ_6
  have N_6 := Fr.app N_4 N_6q
  have Z_6 : n0 ≤ T_6.heap.size := Nat.le_trans Z_4 K_6.1
  refine own_go (g' := (mkF m 23 #[.val (.int p1), .val (.int p2), .val (.int p3), .val (.int p4), .val (.int p5), .val (.int p6), .val (.ref b_1), .unset, .unset, .unset] [])) (fun t kt => st_6.trans kt) ?_
  refine own_go (T' := T_6) (g' := (mkF m 29 #[.val (.int p1), .val (.int p2), .val (.int p3), .val (.int p4), .val (.int p5), .val (.int p6), .val (.ref b_1), .unset, .unset, .unset] [(.int p6), (.int p5), (.ref b_1)])) (fun t kt => ?_) ?_
  · show Steps p.tables e below (T_6.setTop (mkF m 23 #[.val (.int p1), .val (.int p2), .val (.int p3), .val (.int p4), .val (.int p5), .val (.int p6), .val (.ref b_1), .unset, .unset, .unset] [])) t
    refine XS.aload X_6.here hx rfl (hb hby at_23) rfl rfl ?_
    show Steps p.tables e below (T_6.setTop (mkF m 25 #[.val (.int p1), .val (.int p2), .val (.int p3), .val (.int p4), .val (.int p5), .val (.int p6), .val (.ref b_1), .unset, .unset, .unset] [(.ref b_1)])) t
    refine XS.iload X_6.here hx rfl (hb hby at_25) rfl ?_
    show Steps p.tables e below (T_6.setTop (mkF m 27 #[.val (.int p1), .val (.int p2), .val (.int p3), .val (.int p4), .val (.int p5), .val (.int p6), .val (.ref b_1), .unset, .unset, .unset] [(.int p5), (.ref b_1)])) t
    refine XS.iload X_6.here hx rfl (hb hby at_27) rfl ?_
    exact kt
  have f_7 := (f_5.keep K_6)
  obtain ⟨cq_8, kq_8, q_8a, q_8b, q_8c⟩ := isOf hZ rfl f_7
  obtain ⟨_, _, ⟨T_8, L_8, k_8, n_8⟩, -, X_8, ⟨Lc_8, hQ_8, l_8, y_8, z_8⟩, st_8⟩ := X_6.virtualBack hx (y := (⟨"com/example/repco/repco/service/TransitionGraph$Builder", "add", "(II)V"⟩ : MethodName)) (z := (⟨"com/example/repco/repco/service/TransitionGraph$Builder", "add", "(II)V"⟩ : MethodName)) hown (mvT hZ (hw _ (List.mem_of_getElem? (i := 16) rfl))) (mvT hZ (hw _ (List.mem_of_getElem? (i := 17) rfl))) (notFace_of_selects (args := #[]) (mvT hZ (hw _ (List.mem_of_getElem? (i := 19) rfl)))) (mvT hZ (hw _ (List.mem_of_getElem? (i := 19) rfl))) (mvT hZ (hw _ (List.mem_of_getElem? (i := 18) rfl))) (by decide) (backOf (W := 0) (radd2 l Z a0 hw [] (b_1) (p5) (p6) x1 x2 x3 k2 k3 (([(.int (0 : Int32)), (.int (0 : Int32)), (.int (0 : Int32)), (.int (0 : Int32)), (.int (0 : Int32)), (.int (0 : Int32)), (.int (0 : Int32)), (.int (0 : Int32)), (.int (0 : Int32)), (.int (0 : Int32)), (.int (0 : Int32)), (.int (0 : Int32)), (.int (0 : Int32)), (.int (0 : Int32)), (.int (0 : Int32)), (.int (0 : Int32))].set 0 (.int p1)).set 1 (.int p3)) (([(.int (0 : Int32)), (.int (0 : Int32)), (.int (0 : Int32)), (.int (0 : Int32)), (.int (0 : Int32)), (.int (0 : Int32)), (.int (0 : Int32)), (.int (0 : Int32)), (.int (0 : Int32)), (.int (0 : Int32)), (.int (0 : Int32)), (.int (0 : Int32)), (.int (0 : Int32)), (.int (0 : Int32)), (.int (0 : Int32)), (.int (0 : Int32))].set 0 (.int p2)).set 1 (.int p4)) T_6.heap n0 Z_6 f_7 B1__6 B2__6 B3__6 B4__6 B5__6 V2__6 V3__6 g_b_1 g_x2 g_x3 ne_b_1_x2 ne_b_1_x3 n23 rfl rfl) hZ (hw _ (List.mem_of_getElem? (i := 20) rfl)) (hw _ (List.mem_of_getElem? (i := 2) rfl)) (by decide) (by decide)) q_8a q_8c (g := (mkF m 29 #[.val (.int p1), .val (.int p2), .val (.int p3), .val (.int p4), .val (.int p5), .val (.int p6), .val (.ref b_1), .unset, .unset, .unset] [(.int p6), (.int p5), (.ref b_1)])) rfl (by rw [hml]; rfl) (Steps.refl _) (argsL := [(.int p5), (.int p6)]) (rest := []) (lenOf pd_1 rfl) rfl (by show 2 * 0 + _ ≤ _; exact Nat.le_of_eq rfl) (hb hby at_29) (fun _ _ => ⟨rfl, rfl, (by decide : 4 + 0 ≤ _), (by decide : 53 + 0 ≤ _)⟩)
  dsimp only [Pt.U, Pt.locs, Pt.cells, Pt.slots] at X_8 l_8 y_8 z_8 st_8 hQ_8
  subst l_8 y_8 z_8
  obtain ⟨rfl, N_8q, K_8, B1__8, B2__8, B3__8, B4__8, B5__8, V2__8, V3__8⟩ := hQ_8
  have N_8 := Fr.app N_6 N_8q
  have Z_8 : n0 ≤ T_8.heap.size := Nat.le_trans Z_6 K_8.1
  refine own_go (g' := (mkF m 32 #[.val (.int p1), .val (.int p2), .val (.int p3), .val (.int p4), .val (.int p5), .val (.int p6), .val (.ref b_1), .unset, .unset, .unset] [])) (fun t kt => st_8.trans kt) ?_
  refine own_go (T' := T_8) (g' := (mkF m 34 #[.val (.int p1), .val (.int p2), .val (.int p3), .val (.int p4), .val (.int p5), .val (.int p6), .val (.ref b_1), .unset, .unset, .unset] [(.ref b_1)])) (fun t kt => ?_) ?_
  · show Steps p.tables e below (T_8.setTop (mkF m 32 #[.val (.int p1), .val (.int p2), .val (.int p3), .val (.int p4), .val (.int p5), .val (.int p6), .val (.ref b_1), .unset, .unset, .unset] [])) t
    refine XS.aload X_8.here hx rfl (hb hby at_32) rfl rfl ?_
    exact kt
  obtain ⟨T_9, h_9, X_9, e_9, E_9, A_9, D_9, -, st_9⟩ := newO X_8 hx hZ hown (hw _ (List.mem_of_getElem? (i := 23) rfl)) (hw _ (List.mem_of_getElem? (i := 24) rfl)) (hw _ (List.mem_of_getElem? (i := 25) rfl)) rfl (g := (mkF m 34 #[.val (.int p1), .val (.int p2), .val (.int p3), .val (.int p4), .val (.int p5), .val (.int p6), .val (.ref b_1), .unset, .unset, .unset] [(.ref b_1)])) rfl (hb hby at_34) (by decide) (by decide)
  obtain ⟨b_9, g_9⟩ : ∃ z, z = T_8.heap.size := ⟨_, rfl⟩
  rw [← g_9] at A_9 D_9 st_9
  have f_10 := (f_7.keep K_8)
  have ne_b_1_b_9 : b_1 ≠ b_9 := Nat.ne_of_lt (Nat.lt_of_lt_of_le f_10.lt (Nat.le_of_eq g_9.symm))
  have f_11 := (((V1.keep K_4 (ninS (Ne.symm ne_b_1_x1) (ninS n12 (ninS n13 nin0)))).keep K_6 (ninS (Ne.symm ne_b_1_x1) (ninS n12 (ninS n13 nin0)))).keep K_8 (ninS (Ne.symm ne_b_1_x1) (ninS n12 (ninS n13 nin0))))
  have ne_x1_b_9 : x1 ≠ b_9 := Nat.ne_of_lt (Nat.lt_of_lt_of_le f_11.lt (Nat.le_of_eq g_9.symm))
  have ne_x2_b_9 : x2 ≠ b_9 := Nat.ne_of_lt (Nat.lt_of_lt_of_le V2__8.lt (Nat.le_of_eq g_9.symm))
  have ne_x3_b_9 : x3 ≠ b_9 := Nat.ne_of_lt (Nat.lt_of_lt_of_le V3__8.lt (Nat.le_of_eq g_9.symm))
  have g_b_9 : n0 ≤ b_9 := Nat.le_trans Z_8 (Nat.le_of_eq g_9.symm)
  have Z_9 : n0 ≤ h_9.size := Nat.le_trans Z_8 E_9.1
  have F_modCount_b_9 : Fld Z h_9 b_9 "java/util/AbstractList" "modCount" "I" (.int (0 : Int32)) := D_9 (Or.inl (hw _ (List.mem_of_getElem? (i := 43) rfl))) (ty := .int) (by decide)
  have F_elementData_b_9 : Fld Z h_9 b_9 "java/util/ArrayList" "elementData" "[Ljava/lang/Object;" .null := D_9 (Or.inl (hw _ (List.mem_of_getElem? (i := 46) rfl))) (ty := (.array (.object "java/lang/Object"))) (by decide)
  refine own_go (g' := (mkF m 37 #[.val (.int p1), .val (.int p2), .val (.int p3), .val (.int p4), .val (.int p5), .val (.int p6), .val (.ref b_1), .unset, .unset, .unset] [(.ref b_9), (.ref b_1)])) st_9 ?_
  refine own_go (T' := T_9) (g' := (mkF m 38 #[.val (.int p1), .val (.int p2), .val (.int p3), .val (.int p4), .val (.int p5), .val (.int p6), .val (.ref b_1), .unset, .unset, .unset] [(.ref b_9), (.ref b_9), (.ref b_1)])) (fun t kt => ?_) ?_
  · show Steps p.tables e below (T_9.setTop (mkF m 37 #[.val (.int p1), .val (.int p2), .val (.int p3), .val (.int p4), .val (.int p5), .val (.int p6), .val (.ref b_1), .unset, .unset, .unset] [(.ref b_9), (.ref b_1)])) t
    refine XS.dup X_9.here hx rfl (hb hby at_37) rfl rfl ?_
    exact kt
  have f_12 := ((((((O0.ext E_1).keep K_2 (allS g_b_1 all0)).keep K_4 (allS g_b_1 (allS g_x2 (allS g_x3 all0)))).keep K_6 (allS g_b_1 (allS g_x2 (allS g_x3 all0)))).keep K_8 (allS g_b_1 (allS g_x2 (allS g_x3 all0)))).ext E_9)
  obtain ⟨_, _, ⟨T_13, L_13, k_13, n_13⟩, -, X_13, ⟨Lc_13, hQ_13, l_13, y_13, z_13⟩, st_13⟩ := X_9.specialBack hx (y := (⟨"java/util/ArrayList", "<init>", "()V"⟩ : MethodName)) rfl hown (mvT hZ (hw _ (List.mem_of_getElem? (i := 26) rfl))) (mvT hZ (hw _ (List.mem_of_getElem? (i := 27) rfl))) (mvT hZ (hw _ (List.mem_of_getElem? (i := 28) rfl))) (by decide) (backOf (W := 2) (ral l Z a0 hw [] (b_9) dc h_9 n0 Z_9 A_9 F_modCount_b_9 F_elementData_b_9 g_b_9 f_12 S0) hZ (hw _ (List.mem_of_getElem? (i := 28) rfl)) (hw _ (List.mem_of_getElem? (i := 25) rfl)) (by decide) (by decide)) (g := (mkF m 38 #[.val (.int p1), .val (.int p2), .val (.int p3), .val (.int p4), .val (.int p5), .val (.int p6), .val (.ref b_1), .unset, .unset, .unset] [(.ref b_9), (.ref b_9), (.ref b_1)])) rfl (by rw [hml]; rfl) (Steps.refl _) (a := b_9) (argsL := []) (rest := [(.ref b_9), (.ref b_1)]) (lenOf pd_0 rfl) rfl (by show 2 * 0 + _ ≤ _; exact Nat.le_of_eq rfl) (hb hby at_38) (fun _ _ => ⟨rfl, e_9, (by decide : 5 + 0 ≤ _), (by decide : 56 + 0 ≤ _)⟩)
  dsimp only [Pt.U, Pt.locs, Pt.cells, Pt.slots] at X_13 l_13 y_13 z_13 st_13 hQ_13
  subst l_13 y_13 z_13
  obtain ⟨rfl, N_13q, K_13⟩ := hQ_13
  have N_13 := Fr.app N_8 N_13q
  have Z_13 : n0 ≤ T_13.heap.size := Nat.le_trans Z_9 K_13.1
  refine own_go (g' := (mkF m 41 #[.val (.int p1), .val (.int p2), .val (.int p3), .val (.int p4), .val (.int p5), .val (.int p6), .val (.ref b_1), .unset, .unset, .unset] [(.ref b_9), (.ref b_1)])) (fun t kt => st_13.trans kt) ?_
  refine own_go (T' := T_13) (g' := (mkF m 42 #[.val (.int p1), .val (.int p2), .val (.int p3), .val (.int p4), .val (.int p5), .val (.int p6), .val (.ref b_1), .unset, .unset, .unset] [(.int (0 : Int32)), (.ref b_9), (.ref b_1)])) (fun t kt => ?_) ?_
  · show Steps p.tables e below (T_13.setTop (mkF m 41 #[.val (.int p1), .val (.int p2), .val (.int p3), .val (.int p4), .val (.int p5), .val (.int p6), .val (.ref b_1), .unset, .unset, .unset] [(.ref b_9), (.ref b_1)])) t
    refine XS.iconst X_13.here hx rfl (hb hby at_41) ?_
    exact kt
  obtain ⟨T_14, h_14, k_14, X_14, e_14, E_14, A_14, B_14, st_14⟩ := newPE X_13 hx hZ (hw _ (List.mem_of_getElem? (i := 9) rfl)) rfl (g := (mkF m 42 #[.val (.int p1), .val (.int p2), .val (.int p3), .val (.int p4), .val (.int p5), .val (.int p6), .val (.ref b_1), .unset, .unset, .unset] [(.int (0 : Int32)), (.ref b_9), (.ref b_1)])) rfl (hb hby at_42) rfl (by decide) (cap := 0) (by decide) (by decide) (by decide) (by decide) (ad := "[I") (by decide)
  obtain ⟨b_14, g_14⟩ : ∃ z, z = T_13.heap.size := ⟨_, rfl⟩
  rw [← g_14] at A_14 B_14 st_14
  have f_15 := ((f_10.ext E_9).keep K_13)
  have ne_b_1_b_14 : b_1 ≠ b_14 := Nat.ne_of_lt (Nat.lt_of_lt_of_le f_15.lt (Nat.le_of_eq g_14.symm))
  have f_16 := ((f_11.ext E_9).keep K_13 (ninS ne_x1_b_9 nin0))
  have ne_x1_b_14 : x1 ≠ b_14 := Nat.ne_of_lt (Nat.lt_of_lt_of_le f_16.lt (Nat.le_of_eq g_14.symm))
  have f_17 := ((V2__8.ext E_9).keep K_13 (ninS ne_x2_b_9 nin0))
  have ne_x2_b_14 : x2 ≠ b_14 := Nat.ne_of_lt (Nat.lt_of_lt_of_le f_17.lt (Nat.le_of_eq g_14.symm))
  have f_18 := ((V3__8.ext E_9).keep K_13 (ninS ne_x3_b_9 nin0))
  have ne_x3_b_14 : x3 ≠ b_14 := Nat.ne_of_lt (Nat.lt_of_lt_of_le f_18.lt (Nat.le_of_eq g_14.symm))
  have f_19 := (A_9.keep K_13)
  have ne_b_9_b_14 : b_9 ≠ b_14 := Nat.ne_of_lt (Nat.lt_of_lt_of_le f_19.lt (Nat.le_of_eq g_14.symm))
  have g_b_14 : n0 ≤ b_14 := Nat.le_trans Z_13 (Nat.le_of_eq g_14.symm)
  have Z_14 : n0 ≤ h_14.size := Nat.le_trans Z_13 E_14.1
  have V_14 : Arv Z h_14 b_14 k_14 .int (0 : Int32) [] (.int (0 : Int32)) := (Arv.new A_14 (by decide)).pad (pad_rep [] (.int (0 : Int32)) 0)
  refine own_go (g' := (mkF m 44 #[.val (.int p1), .val (.int p2), .val (.int p3), .val (.int p4), .val (.int p5), .val (.int p6), .val (.ref b_1), .unset, .unset, .unset] [(.ref b_14), (.ref b_9), (.ref b_1)])) st_14 ?_
  have f_20 := (((B1__8.ext E_9).keep K_13 (ninS ne_b_1_b_9 nin0)).ext E_14)
  have f_21 := (((B2__8.ext E_9).keep K_13 (ninS ne_b_1_b_9 nin0)).ext E_14)
  have f_22 := (((B3__8.ext E_9).keep K_13 (ninS ne_b_1_b_9 nin0)).ext E_14)
  have f_23 := (((B4__8.ext E_9).keep K_13 (ninS ne_b_1_b_9 nin0)).ext E_14)
  have f_24 := (((B5__8.ext E_9).keep K_13 (ninS ne_b_1_b_9 nin0)).ext E_14)
  have f_25 := (f_16.ext E_14)
  have f_26 := (f_17.ext E_14)
  have f_27 := (f_18.ext E_14)
  have f_29 := (f_15.ext E_14)
  obtain ⟨cq_28, kq_28, q_28a, q_28b, q_28c⟩ := isOf hZ e_14 f_29
  obtain ⟨_, _, ⟨T_28, L_28, k_28, n_28⟩, -, X_28, ⟨Lc_28, hQ_28, l_28, y_28, z_28⟩, st_28⟩ := X_14.virtualBack hx (y := (⟨"com/example/repco/repco/service/TransitionGraph$Builder", "build", "(Ljava/util/List;[I)Lcom/example/repco/repco/service/TransitionGraph;"⟩ : MethodName)) (z := (⟨"com/example/repco/repco/service/TransitionGraph$Builder", "build", "(Ljava/util/List;[I)Lcom/example/repco/repco/service/TransitionGraph;"⟩ : MethodName)) hown (mvT hZ (hw _ (List.mem_of_getElem? (i := 47) rfl))) (mvT hZ (hw _ (List.mem_of_getElem? (i := 48) rfl))) (notFace_of_selects (args := #[]) (mvT hZ (hw _ (List.mem_of_getElem? (i := 50) rfl)))) (mvT hZ (hw _ (List.mem_of_getElem? (i := 50) rfl))) (mvT hZ (hw _ (List.mem_of_getElem? (i := 49) rfl))) (by decide) (backOf (W := 0) (rbu l Z a0 hw [] (b_1) (b_9) (b_14) x1 x2 x3 k1 k2 k3 [(.int (0 : Int32)), (.int (0 : Int32)), (.int (0 : Int32)), (.int (0 : Int32)), (.int (0 : Int32)), (.int (0 : Int32)), (.int (0 : Int32)), (.int (0 : Int32)), (.int (0 : Int32)), (.int (0 : Int32)), (.int (0 : Int32)), (.int (0 : Int32)), (.int (0 : Int32)), (.int (0 : Int32)), (.int (0 : Int32)), (.int (0 : Int32))] ((([(.int (0 : Int32)), (.int (0 : Int32)), (.int (0 : Int32)), (.int (0 : Int32)), (.int (0 : Int32)), (.int (0 : Int32)), (.int (0 : Int32)), (.int (0 : Int32)), (.int (0 : Int32)), (.int (0 : Int32)), (.int (0 : Int32)), (.int (0 : Int32)), (.int (0 : Int32)), (.int (0 : Int32)), (.int (0 : Int32)), (.int (0 : Int32))].set 0 (.int p1)).set 1 (.int p3)).set 2 (.int p5)) ((([(.int (0 : Int32)), (.int (0 : Int32)), (.int (0 : Int32)), (.int (0 : Int32)), (.int (0 : Int32)), (.int (0 : Int32)), (.int (0 : Int32)), (.int (0 : Int32)), (.int (0 : Int32)), (.int (0 : Int32)), (.int (0 : Int32)), (.int (0 : Int32)), (.int (0 : Int32)), (.int (0 : Int32)), (.int (0 : Int32)), (.int (0 : Int32))].set 0 (.int p2)).set 1 (.int p4)).set 2 (.int p6)) h_14 n0 Z_14 f_20 f_21 f_22 f_23 f_24 f_25 f_26 f_27) hZ (hw _ (List.mem_of_getElem? (i := 51) rfl)) (hw _ (List.mem_of_getElem? (i := 2) rfl)) (by decide) (by decide)) q_28a q_28c (g := (mkF m 44 #[.val (.int p1), .val (.int p2), .val (.int p3), .val (.int p4), .val (.int p5), .val (.int p6), .val (.ref b_1), .unset, .unset, .unset] [(.ref b_14), (.ref b_9), (.ref b_1)])) rfl (by rw [hml]; rfl) (Steps.refl _) (argsL := [(.ref b_9), (.ref b_14)]) (rest := []) (lenOf pd_2 rfl) rfl (by show 2 * 0 + _ ≤ _; exact Nat.le_of_eq rfl) (hb hby at_44) (fun _ _ => ⟨rfl, e_14, (by decide : 6 + 4 ≤ _), (by decide : 56 + 12 ≤ _)⟩)
  dsimp only [Pt.U, Pt.locs, Pt.cells, Pt.slots] at X_28 l_28 y_28 z_28 st_28 hQ_28
  subst l_28 y_28 z_28
  obtain ⟨gg, y2, y3, j2, j3, rfl, N_28q, K_28, sg, Eg, Q1, Q2, Q3, Q4⟩ := hQ_28
  have N_28 := Fr.app N_13 N_28q
  have ne_b_1_gg : b_1 ≠ gg := Nat.ne_of_lt (Nat.lt_of_lt_of_le f_29.lt sg)
  have ne_x1_gg : x1 ≠ gg := Nat.ne_of_lt (Nat.lt_of_lt_of_le f_25.lt sg)
  have ne_x2_gg : x2 ≠ gg := Nat.ne_of_lt (Nat.lt_of_lt_of_le f_26.lt sg)
  have ne_x3_gg : x3 ≠ gg := Nat.ne_of_lt (Nat.lt_of_lt_of_le f_27.lt sg)
  have f_30 := (f_19.ext E_14)
  have ne_b_9_gg : b_9 ≠ gg := Nat.ne_of_lt (Nat.lt_of_lt_of_le f_30.lt sg)
  have ne_b_14_gg : b_14 ≠ gg := Nat.ne_of_lt (Nat.lt_of_lt_of_le B_14.lt sg)
  have g_gg : n0 ≤ gg := Nat.le_trans Z_14 sg
  have Z_28 : n0 ≤ T_28.heap.size := Nat.le_trans Z_14 K_28.1
  refine own_go (g' := (mkF m 47 #[.val (.int p1), .val (.int p2), .val (.int p3), .val (.int p4), .val (.int p5), .val (.int p6), .val (.ref b_1), .unset, .unset, .unset] [(.ref gg)])) (fun t kt => st_28.trans kt) ?_
  replace Q3 : Arv Z T_28.heap y2 j2 .int (3 : Int32) [(.int p1), (.int p3), (.int p5)] (.int (0 : Int32)) := Q3
  replace Q4 : Arv Z T_28.heap y3 j3 .int (3 : Int32) [(.int p2), (.int p4), (.int p6)] (.int (0 : Int32)) := Q4
  refine own_go (T' := T_28) (g' := (mkF m 51 #[.val (.int p1), .val (.int p2), .val (.int p3), .val (.int p4), .val (.int p5), .val (.int p6), .val (.ref b_1), .val (.ref gg), .unset, .unset] [(.ref gg)])) (fun t kt => ?_) ?_
  · show Steps p.tables e below (T_28.setTop (mkF m 47 #[.val (.int p1), .val (.int p2), .val (.int p3), .val (.int p4), .val (.int p5), .val (.int p6), .val (.ref b_1), .unset, .unset, .unset] [(.ref gg)])) t
    refine XS.astore X_28.here hx rfl (hb hby at_47) rfl rfl (l' := #[.val (.int p1), .val (.int p2), .val (.int p3), .val (.int p4), .val (.int p5), .val (.int p6), .val (.ref b_1), .val (.ref gg), .unset, .unset]) rfl ?_
    show Steps p.tables e below (T_28.setTop (mkF m 49 #[.val (.int p1), .val (.int p2), .val (.int p3), .val (.int p4), .val (.int p5), .val (.int p6), .val (.ref b_1), .val (.ref gg), .unset, .unset] [])) t
    refine XS.aload X_28.here hx rfl (hb hby at_49) rfl rfl ?_
    exact kt
  obtain ⟨cq_31, kq_31, q_31a, q_31b, q_31c⟩ := isOf hZ rfl Eg
  obtain ⟨_, _, ⟨T_31, L_31, k_31, n_31⟩, -, X_31, ⟨Lc_31, hQ_31, l_31, y_31, z_31⟩, st_31⟩ := X_28.virtualBack hx (y := (⟨"com/example/repco/repco/service/TransitionGraph", "transitionCount", "()I"⟩ : MethodName)) (z := (⟨"com/example/repco/repco/service/TransitionGraph", "transitionCount", "()I"⟩ : MethodName)) hown (mvT hZ (hw _ (List.mem_of_getElem? (i := 87) rfl))) (mvT hZ (hw _ (List.mem_of_getElem? (i := 88) rfl))) (notFace_of_selects (args := #[]) (mvT hZ (hw _ (List.mem_of_getElem? (i := 90) rfl)))) (mvT hZ (hw _ (List.mem_of_getElem? (i := 90) rfl))) (mvT hZ (hw _ (List.mem_of_getElem? (i := 89) rfl))) (by decide) (backOf (W := 0) (rtc l Z a0 hw [] gg y2 j2 p1 p3 p5 T_28.heap n0 Z_28 Q1 Q3) hZ (hw _ (List.mem_of_getElem? (i := 91) rfl)) (hw _ (List.mem_of_getElem? (i := 54) rfl)) (by decide) (by decide)) q_31a q_31c (g := (mkF m 51 #[.val (.int p1), .val (.int p2), .val (.int p3), .val (.int p4), .val (.int p5), .val (.int p6), .val (.ref b_1), .val (.ref gg), .unset, .unset] [(.ref gg)])) rfl (by rw [hml]; rfl) (Steps.refl _) (argsL := []) (rest := []) (lenOf pd_7 rfl) rfl (by show 2 * 0 + _ ≤ _; exact Nat.le_of_eq rfl) (hb hby at_51) (fun _ _ => ⟨rfl, rfl, (by decide : 10 + 0 ≤ _), (by decide : 68 + 0 ≤ _)⟩)
  dsimp only [Pt.U, Pt.locs, Pt.cells, Pt.slots] at X_31 l_31 y_31 z_31 st_31 hQ_31
  subst l_31 y_31 z_31
  obtain ⟨rfl, N_31q, e_31⟩ := hQ_31
  have N_31 := Fr.app N_28 N_31q
  refine own_go (g' := (mkF m 54 #[.val (.int p1), .val (.int p2), .val (.int p3), .val (.int p4), .val (.int p5), .val (.int p6), .val (.ref b_1), .val (.ref gg), .unset, .unset] [(.int (3 : Int32))])) (fun t kt => st_31.trans kt) ?_
  refine own_go (T' := T_31) (g' := (mkF m 63 #[.val (.int p1), .val (.int p2), .val (.int p3), .val (.int p4), .val (.int p5), .val (.int p6), .val (.ref b_1), .val (.ref gg), .unset, .unset] [(.int (0 : Int32)), (.ref gg)])) (fun t kt => ?_) ?_
  · show Steps p.tables e below (T_31.setTop (mkF m 54 #[.val (.int p1), .val (.int p2), .val (.int p3), .val (.int p4), .val (.int p5), .val (.int p6), .val (.ref b_1), .val (.ref gg), .unset, .unset] [(.int (3 : Int32))])) t
    refine XS.iconst X_31.here hx rfl (hb hby at_54) ?_
    show Steps p.tables e below (T_31.setTop (mkF m 55 #[.val (.int p1), .val (.int p2), .val (.int p3), .val (.int p4), .val (.int p5), .val (.int p6), .val (.ref b_1), .val (.ref gg), .unset, .unset] [(.int (3 : Int32)), (.int (3 : Int32))])) t
    refine XS.icmpYes X_31.here hx rfl (pc0 := 55) (pc' := 60) rfl (hb hby at_55) rfl (teq (by decide : (3 : Int32) = (3 : Int32))).1 (by decide) (by decide) ?_
    show Steps p.tables e below (T_31.setTop (mkF m 60 #[.val (.int p1), .val (.int p2), .val (.int p3), .val (.int p4), .val (.int p5), .val (.int p6), .val (.ref b_1), .val (.ref gg), .unset, .unset] [])) t
    refine XS.aload X_31.here hx rfl (hb hby at_60) rfl rfl ?_
    show Steps p.tables e below (T_31.setTop (mkF m 62 #[.val (.int p1), .val (.int p2), .val (.int p3), .val (.int p4), .val (.int p5), .val (.int p6), .val (.ref b_1), .val (.ref gg), .unset, .unset] [(.ref gg)])) t
    refine XS.iconst X_31.here hx rfl (hb hby at_62) ?_
    exact kt
  obtain ⟨cq_32, kq_32, q_32a, q_32b, q_32c⟩ := isOf hZ e_31 Eg
  obtain ⟨_, _, ⟨T_32, L_32, k_32, n_32⟩, -, X_32, ⟨Lc_32, hQ_32, l_32, y_32, z_32⟩, st_32⟩ := X_31.virtualBack hx (y := (⟨"com/example/repco/repco/service/TransitionGraph", "label", "(I)I"⟩ : MethodName)) (z := (⟨"com/example/repco/repco/service/TransitionGraph", "label", "(I)I"⟩ : MethodName)) hown (mvT hZ (hw _ (List.mem_of_getElem? (i := 92) rfl))) (mvT hZ (hw _ (List.mem_of_getElem? (i := 93) rfl))) (notFace_of_selects (args := #[]) (mvT hZ (hw _ (List.mem_of_getElem? (i := 95) rfl)))) (mvT hZ (hw _ (List.mem_of_getElem? (i := 95) rfl))) (mvT hZ (hw _ (List.mem_of_getElem? (i := 94) rfl))) (by decide) (backOf (W := 0) (rlab0 l Z a0 hw [] gg y2 j2 p1 p3 p5 T_28.heap n0 Z_28 Q1 Q3) hZ (hw _ (List.mem_of_getElem? (i := 96) rfl)) (hw _ (List.mem_of_getElem? (i := 54) rfl)) (by decide) (by decide)) q_32a q_32c (g := (mkF m 63 #[.val (.int p1), .val (.int p2), .val (.int p3), .val (.int p4), .val (.int p5), .val (.int p6), .val (.ref b_1), .val (.ref gg), .unset, .unset] [(.int (0 : Int32)), (.ref gg)])) rfl (by rw [hml]; rfl) (Steps.refl _) (argsL := [(.int (0 : Int32))]) (rest := []) (lenOf pd_8 rfl) rfl (by show 2 * 0 + _ ≤ _; exact Nat.le_of_eq rfl) (hb hby at_63) (fun _ _ => ⟨rfl, e_31, (by decide : 10 + 0 ≤ _), (by decide : 68 + 0 ≤ _)⟩)
  dsimp only [Pt.U, Pt.locs, Pt.cells, Pt.slots] at X_32 l_32 y_32 z_32 st_32 hQ_32
  subst l_32 y_32 z_32
  obtain ⟨rfl, N_32q, e_32⟩ := hQ_32
  have N_32 := Fr.app N_31 N_32q
  refine own_go (g' := (mkF m 66 #[.val (.int p1), .val (.int p2), .val (.int p3), .val (.int p4), .val (.int p5), .val (.int p6), .val (.ref b_1), .val (.ref gg), .unset, .unset] [(.int p1)])) (fun t kt => st_32.trans kt) ?_
  refine own_go (T' := T_32) (g' := (mkF m 73 #[.val (.int p1), .val (.int p2), .val (.int p3), .val (.int p4), .val (.int p5), .val (.int p6), .val (.ref b_1), .val (.ref gg), .unset, .unset] [(.int (1 : Int32)), (.ref gg)])) (fun t kt => ?_) ?_
  · show Steps p.tables e below (T_32.setTop (mkF m 66 #[.val (.int p1), .val (.int p2), .val (.int p3), .val (.int p4), .val (.int p5), .val (.int p6), .val (.ref b_1), .val (.ref gg), .unset, .unset] [(.int p1)])) t
    refine XS.iloadN X_32.here hx rfl (hb hby at_66) rfl ?_
    show Steps p.tables e below (T_32.setTop (mkF m 67 #[.val (.int p1), .val (.int p2), .val (.int p3), .val (.int p4), .val (.int p5), .val (.int p6), .val (.ref b_1), .val (.ref gg), .unset, .unset] [(.int p1), (.int p1)])) t
    refine XS.icmpNo X_32.here hx rfl (hb hby at_67) rfl (teq (rfl : p1 = p1)).2 ?_
    show Steps p.tables e below (T_32.setTop (mkF m 70 #[.val (.int p1), .val (.int p2), .val (.int p3), .val (.int p4), .val (.int p5), .val (.int p6), .val (.ref b_1), .val (.ref gg), .unset, .unset] [])) t
    refine XS.aload X_32.here hx rfl (hb hby at_70) rfl rfl ?_
    show Steps p.tables e below (T_32.setTop (mkF m 72 #[.val (.int p1), .val (.int p2), .val (.int p3), .val (.int p4), .val (.int p5), .val (.int p6), .val (.ref b_1), .val (.ref gg), .unset, .unset] [(.ref gg)])) t
    refine XS.iconst X_32.here hx rfl (hb hby at_72) ?_
    exact kt
  obtain ⟨cq_33, kq_33, q_33a, q_33b, q_33c⟩ := isOf hZ e_32 Eg
  obtain ⟨_, _, ⟨T_33, L_33, k_33, n_33⟩, -, X_33, ⟨Lc_33, hQ_33, l_33, y_33, z_33⟩, st_33⟩ := X_32.virtualBack hx (y := (⟨"com/example/repco/repco/service/TransitionGraph", "label", "(I)I"⟩ : MethodName)) (z := (⟨"com/example/repco/repco/service/TransitionGraph", "label", "(I)I"⟩ : MethodName)) hown (mvT hZ (hw _ (List.mem_of_getElem? (i := 92) rfl))) (mvT hZ (hw _ (List.mem_of_getElem? (i := 93) rfl))) (notFace_of_selects (args := #[]) (mvT hZ (hw _ (List.mem_of_getElem? (i := 95) rfl)))) (mvT hZ (hw _ (List.mem_of_getElem? (i := 95) rfl))) (mvT hZ (hw _ (List.mem_of_getElem? (i := 94) rfl))) (by decide) (backOf (W := 0) (rlab1 l Z a0 hw [] gg y2 j2 p1 p3 p5 T_28.heap n0 Z_28 Q1 Q3) hZ (hw _ (List.mem_of_getElem? (i := 96) rfl)) (hw _ (List.mem_of_getElem? (i := 54) rfl)) (by decide) (by decide)) q_33a q_33c (g := (mkF m 73 #[.val (.int p1), .val (.int p2), .val (.int p3), .val (.int p4), .val (.int p5), .val (.int p6), .val (.ref b_1), .val (.ref gg), .unset, .unset] [(.int (1 : Int32)), (.ref gg)])) rfl (by rw [hml]; rfl) (Steps.refl _) (argsL := [(.int (1 : Int32))]) (rest := []) (lenOf pd_8 rfl) rfl (by show 2 * 0 + _ ≤ _; exact Nat.le_of_eq rfl) (hb hby at_73) (fun _ _ => ⟨rfl, e_32, (by decide : 10 + 0 ≤ _), (by decide : 68 + 0 ≤ _)⟩)
  dsimp only [Pt.U, Pt.locs, Pt.cells, Pt.slots] at X_33 l_33 y_33 z_33 st_33 hQ_33
  subst l_33 y_33 z_33
  obtain ⟨rfl, N_33q, e_33⟩ := hQ_33
  have N_33 := Fr.app N_32 N_33q
  refine own_go (g' := (mkF m 76 #[.val (.int p1), .val (.int p2), .val (.int p3), .val (.int p4), .val (.int p5), .val (.int p6), .val (.ref b_1), .val (.ref gg), .unset, .unset] [(.int p3)])) (fun t kt => st_33.trans kt) ?_
  refine own_go (T' := T_33) (g' := (mkF m 83 #[.val (.int p1), .val (.int p2), .val (.int p3), .val (.int p4), .val (.int p5), .val (.int p6), .val (.ref b_1), .val (.ref gg), .unset, .unset] [(.int (2 : Int32)), (.ref gg)])) (fun t kt => ?_) ?_
  · show Steps p.tables e below (T_33.setTop (mkF m 76 #[.val (.int p1), .val (.int p2), .val (.int p3), .val (.int p4), .val (.int p5), .val (.int p6), .val (.ref b_1), .val (.ref gg), .unset, .unset] [(.int p3)])) t
    refine XS.iloadN X_33.here hx rfl (hb hby at_76) rfl ?_
    show Steps p.tables e below (T_33.setTop (mkF m 77 #[.val (.int p1), .val (.int p2), .val (.int p3), .val (.int p4), .val (.int p5), .val (.int p6), .val (.ref b_1), .val (.ref gg), .unset, .unset] [(.int p3), (.int p3)])) t
    refine XS.icmpNo X_33.here hx rfl (hb hby at_77) rfl (teq (rfl : p3 = p3)).2 ?_
    show Steps p.tables e below (T_33.setTop (mkF m 80 #[.val (.int p1), .val (.int p2), .val (.int p3), .val (.int p4), .val (.int p5), .val (.int p6), .val (.ref b_1), .val (.ref gg), .unset, .unset] [])) t
    refine XS.aload X_33.here hx rfl (hb hby at_80) rfl rfl ?_
    show Steps p.tables e below (T_33.setTop (mkF m 82 #[.val (.int p1), .val (.int p2), .val (.int p3), .val (.int p4), .val (.int p5), .val (.int p6), .val (.ref b_1), .val (.ref gg), .unset, .unset] [(.ref gg)])) t
    refine XS.iconst X_33.here hx rfl (hb hby at_82) ?_
    exact kt
  obtain ⟨cq_34, kq_34, q_34a, q_34b, q_34c⟩ := isOf hZ e_33 Eg
  obtain ⟨_, _, ⟨T_34, L_34, k_34, n_34⟩, -, X_34, ⟨Lc_34, hQ_34, l_34, y_34, z_34⟩, st_34⟩ := X_33.virtualBack hx (y := (⟨"com/example/repco/repco/service/TransitionGraph", "label", "(I)I"⟩ : MethodName)) (z := (⟨"com/example/repco/repco/service/TransitionGraph", "label", "(I)I"⟩ : MethodName)) hown (mvT hZ (hw _ (List.mem_of_getElem? (i := 92) rfl))) (mvT hZ (hw _ (List.mem_of_getElem? (i := 93) rfl))) (notFace_of_selects (args := #[]) (mvT hZ (hw _ (List.mem_of_getElem? (i := 95) rfl)))) (mvT hZ (hw _ (List.mem_of_getElem? (i := 95) rfl))) (mvT hZ (hw _ (List.mem_of_getElem? (i := 94) rfl))) (by decide) (backOf (W := 0) (rlab2 l Z a0 hw [] gg y2 j2 p1 p3 p5 T_28.heap n0 Z_28 Q1 Q3) hZ (hw _ (List.mem_of_getElem? (i := 96) rfl)) (hw _ (List.mem_of_getElem? (i := 54) rfl)) (by decide) (by decide)) q_34a q_34c (g := (mkF m 83 #[.val (.int p1), .val (.int p2), .val (.int p3), .val (.int p4), .val (.int p5), .val (.int p6), .val (.ref b_1), .val (.ref gg), .unset, .unset] [(.int (2 : Int32)), (.ref gg)])) rfl (by rw [hml]; rfl) (Steps.refl _) (argsL := [(.int (2 : Int32))]) (rest := []) (lenOf pd_8 rfl) rfl (by show 2 * 0 + _ ≤ _; exact Nat.le_of_eq rfl) (hb hby at_83) (fun _ _ => ⟨rfl, e_33, (by decide : 10 + 0 ≤ _), (by decide : 68 + 0 ≤ _)⟩)
  dsimp only [Pt.U, Pt.locs, Pt.cells, Pt.slots] at X_34 l_34 y_34 z_34 st_34 hQ_34
  subst l_34 y_34 z_34
  obtain ⟨rfl, N_34q, e_34⟩ := hQ_34
  have N_34 := Fr.app N_33 N_34q
  refine own_go (g' := (mkF m 86 #[.val (.int p1), .val (.int p2), .val (.int p3), .val (.int p4), .val (.int p5), .val (.int p6), .val (.ref b_1), .val (.ref gg), .unset, .unset] [(.int p5)])) (fun t kt => st_34.trans kt) ?_
  refine own_go (T' := T_34) (g' := (mkF m 101 #[.val (.int p1), .val (.int p2), .val (.int p3), .val (.int p4), .val (.int p5), .val (.int p6), .val (.ref b_1), .val (.ref gg), .val (.int (1 : Int32)), .unset] [(.int (0 : Int32)), (.ref gg)])) (fun t kt => ?_) ?_
  · show Steps p.tables e below (T_34.setTop (mkF m 86 #[.val (.int p1), .val (.int p2), .val (.int p3), .val (.int p4), .val (.int p5), .val (.int p6), .val (.ref b_1), .val (.ref gg), .unset, .unset] [(.int p5)])) t
    refine XS.iload X_34.here hx rfl (hb hby at_86) rfl ?_
    show Steps p.tables e below (T_34.setTop (mkF m 88 #[.val (.int p1), .val (.int p2), .val (.int p3), .val (.int p4), .val (.int p5), .val (.int p6), .val (.ref b_1), .val (.ref gg), .unset, .unset] [(.int p5), (.int p5)])) t
    refine XS.icmpNo X_34.here hx rfl (hb hby at_88) rfl (teq (rfl : p5 = p5)).2 ?_
    show Steps p.tables e below (T_34.setTop (mkF m 91 #[.val (.int p1), .val (.int p2), .val (.int p3), .val (.int p4), .val (.int p5), .val (.int p6), .val (.ref b_1), .val (.ref gg), .unset, .unset] [])) t
    refine XS.iconst X_34.here hx rfl (hb hby at_91) ?_
    show Steps p.tables e below (T_34.setTop (mkF m 92 #[.val (.int p1), .val (.int p2), .val (.int p3), .val (.int p4), .val (.int p5), .val (.int p6), .val (.ref b_1), .val (.ref gg), .unset, .unset] [(.int (1 : Int32))])) t
    refine XS.goto X_34.here hx rfl (pc0 := 92) (pc' := 96) rfl (hb hby at_92) (by decide) (by decide) ?_
    show Steps p.tables e below (T_34.setTop (mkF m 96 #[.val (.int p1), .val (.int p2), .val (.int p3), .val (.int p4), .val (.int p5), .val (.int p6), .val (.ref b_1), .val (.ref gg), .unset, .unset] [(.int (1 : Int32))])) t
    refine XS.istore X_34.here hx rfl (hb hby at_96) rfl (l' := #[.val (.int p1), .val (.int p2), .val (.int p3), .val (.int p4), .val (.int p5), .val (.int p6), .val (.ref b_1), .val (.ref gg), .val (.int (1 : Int32)), .unset]) rfl ?_
    show Steps p.tables e below (T_34.setTop (mkF m 98 #[.val (.int p1), .val (.int p2), .val (.int p3), .val (.int p4), .val (.int p5), .val (.int p6), .val (.ref b_1), .val (.ref gg), .val (.int (1 : Int32)), .unset] [])) t
    refine XS.aload X_34.here hx rfl (hb hby at_98) rfl rfl ?_
    show Steps p.tables e below (T_34.setTop (mkF m 100 #[.val (.int p1), .val (.int p2), .val (.int p3), .val (.int p4), .val (.int p5), .val (.int p6), .val (.ref b_1), .val (.ref gg), .val (.int (1 : Int32)), .unset] [(.ref gg)])) t
    refine XS.iconst X_34.here hx rfl (hb hby at_100) ?_
    exact kt
  obtain ⟨cq_35, kq_35, q_35a, q_35b, q_35c⟩ := isOf hZ e_34 Eg
  obtain ⟨_, _, ⟨T_35, L_35, k_35, n_35⟩, -, X_35, ⟨Lc_35, hQ_35, l_35, y_35, z_35⟩, st_35⟩ := X_34.virtualBack hx (y := (⟨"com/example/repco/repco/service/TransitionGraph", "target", "(I)I"⟩ : MethodName)) (z := (⟨"com/example/repco/repco/service/TransitionGraph", "target", "(I)I"⟩ : MethodName)) hown (mvT hZ (hw _ (List.mem_of_getElem? (i := 97) rfl))) (mvT hZ (hw _ (List.mem_of_getElem? (i := 98) rfl))) (notFace_of_selects (args := #[]) (mvT hZ (hw _ (List.mem_of_getElem? (i := 100) rfl)))) (mvT hZ (hw _ (List.mem_of_getElem? (i := 100) rfl))) (mvT hZ (hw _ (List.mem_of_getElem? (i := 99) rfl))) (by decide) (backOf (W := 0) (rtar0 l Z a0 hw [] gg y3 j3 p2 p4 p6 T_28.heap n0 Z_28 Q2 Q4) hZ (hw _ (List.mem_of_getElem? (i := 101) rfl)) (hw _ (List.mem_of_getElem? (i := 54) rfl)) (by decide) (by decide)) q_35a q_35c (g := (mkF m 101 #[.val (.int p1), .val (.int p2), .val (.int p3), .val (.int p4), .val (.int p5), .val (.int p6), .val (.ref b_1), .val (.ref gg), .val (.int (1 : Int32)), .unset] [(.int (0 : Int32)), (.ref gg)])) rfl (by rw [hml]; rfl) (Steps.refl _) (argsL := [(.int (0 : Int32))]) (rest := []) (lenOf pd_8 rfl) rfl (by show 2 * 0 + _ ≤ _; exact Nat.le_of_eq rfl) (hb hby at_101) (fun _ _ => ⟨rfl, e_34, (by decide : 10 + 0 ≤ _), (by decide : 68 + 0 ≤ _)⟩)
  dsimp only [Pt.U, Pt.locs, Pt.cells, Pt.slots] at X_35 l_35 y_35 z_35 st_35 hQ_35
  subst l_35 y_35 z_35
  obtain ⟨rfl, N_35q, e_35⟩ := hQ_35
  have N_35 := Fr.app N_34 N_35q
  refine own_go (g' := (mkF m 104 #[.val (.int p1), .val (.int p2), .val (.int p3), .val (.int p4), .val (.int p5), .val (.int p6), .val (.ref b_1), .val (.ref gg), .val (.int (1 : Int32)), .unset] [(.int p2)])) (fun t kt => st_35.trans kt) ?_
  refine own_go (T' := T_35) (g' := (mkF m 111 #[.val (.int p1), .val (.int p2), .val (.int p3), .val (.int p4), .val (.int p5), .val (.int p6), .val (.ref b_1), .val (.ref gg), .val (.int (1 : Int32)), .unset] [(.int (1 : Int32)), (.ref gg)])) (fun t kt => ?_) ?_
  · show Steps p.tables e below (T_35.setTop (mkF m 104 #[.val (.int p1), .val (.int p2), .val (.int p3), .val (.int p4), .val (.int p5), .val (.int p6), .val (.ref b_1), .val (.ref gg), .val (.int (1 : Int32)), .unset] [(.int p2)])) t
    refine XS.iloadN X_35.here hx rfl (hb hby at_104) rfl ?_
    show Steps p.tables e below (T_35.setTop (mkF m 105 #[.val (.int p1), .val (.int p2), .val (.int p3), .val (.int p4), .val (.int p5), .val (.int p6), .val (.ref b_1), .val (.ref gg), .val (.int (1 : Int32)), .unset] [(.int p2), (.int p2)])) t
    refine XS.icmpNo X_35.here hx rfl (hb hby at_105) rfl (teq (rfl : p2 = p2)).2 ?_
    show Steps p.tables e below (T_35.setTop (mkF m 108 #[.val (.int p1), .val (.int p2), .val (.int p3), .val (.int p4), .val (.int p5), .val (.int p6), .val (.ref b_1), .val (.ref gg), .val (.int (1 : Int32)), .unset] [])) t
    refine XS.aload X_35.here hx rfl (hb hby at_108) rfl rfl ?_
    show Steps p.tables e below (T_35.setTop (mkF m 110 #[.val (.int p1), .val (.int p2), .val (.int p3), .val (.int p4), .val (.int p5), .val (.int p6), .val (.ref b_1), .val (.ref gg), .val (.int (1 : Int32)), .unset] [(.ref gg)])) t
    refine XS.iconst X_35.here hx rfl (hb hby at_110) ?_
    exact kt
  obtain ⟨cq_36, kq_36, q_36a, q_36b, q_36c⟩ := isOf hZ e_35 Eg
  obtain ⟨_, _, ⟨T_36, L_36, k_36, n_36⟩, -, X_36, ⟨Lc_36, hQ_36, l_36, y_36, z_36⟩, st_36⟩ := X_35.virtualBack hx (y := (⟨"com/example/repco/repco/service/TransitionGraph", "target", "(I)I"⟩ : MethodName)) (z := (⟨"com/example/repco/repco/service/TransitionGraph", "target", "(I)I"⟩ : MethodName)) hown (mvT hZ (hw _ (List.mem_of_getElem? (i := 97) rfl))) (mvT hZ (hw _ (List.mem_of_getElem? (i := 98) rfl))) (notFace_of_selects (args := #[]) (mvT hZ (hw _ (List.mem_of_getElem? (i := 100) rfl)))) (mvT hZ (hw _ (List.mem_of_getElem? (i := 100) rfl))) (mvT hZ (hw _ (List.mem_of_getElem? (i := 99) rfl))) (by decide) (backOf (W := 0) (rtar1 l Z a0 hw [] gg y3 j3 p2 p4 p6 T_28.heap n0 Z_28 Q2 Q4) hZ (hw _ (List.mem_of_getElem? (i := 101) rfl)) (hw _ (List.mem_of_getElem? (i := 54) rfl)) (by decide) (by decide)) q_36a q_36c (g := (mkF m 111 #[.val (.int p1), .val (.int p2), .val (.int p3), .val (.int p4), .val (.int p5), .val (.int p6), .val (.ref b_1), .val (.ref gg), .val (.int (1 : Int32)), .unset] [(.int (1 : Int32)), (.ref gg)])) rfl (by rw [hml]; rfl) (Steps.refl _) (argsL := [(.int (1 : Int32))]) (rest := []) (lenOf pd_8 rfl) rfl (by show 2 * 0 + _ ≤ _; exact Nat.le_of_eq rfl) (hb hby at_111) (fun _ _ => ⟨rfl, e_35, (by decide : 10 + 0 ≤ _), (by decide : 68 + 0 ≤ _)⟩)
  dsimp only [Pt.U, Pt.locs, Pt.cells, Pt.slots] at X_36 l_36 y_36 z_36 st_36 hQ_36
  subst l_36 y_36 z_36
  obtain ⟨rfl, N_36q, e_36⟩ := hQ_36
  have N_36 := Fr.app N_35 N_36q
  refine own_go (g' := (mkF m 114 #[.val (.int p1), .val (.int p2), .val (.int p3), .val (.int p4), .val (.int p5), .val (.int p6), .val (.ref b_1), .val (.ref gg), .val (.int (1 : Int32)), .unset] [(.int p4)])) (fun t kt => st_36.trans kt) ?_
  refine own_go (T' := T_36) (g' := (mkF m 121 #[.val (.int p1), .val (.int p2), .val (.int p3), .val (.int p4), .val (.int p5), .val (.int p6), .val (.ref b_1), .val (.ref gg), .val (.int (1 : Int32)), .unset] [(.int (2 : Int32)), (.ref gg)])) (fun t kt => ?_) ?_
  · show Steps p.tables e below (T_36.setTop (mkF m 114 #[.val (.int p1), .val (.int p2), .val (.int p3), .val (.int p4), .val (.int p5), .val (.int p6), .val (.ref b_1), .val (.ref gg), .val (.int (1 : Int32)), .unset] [(.int p4)])) t
    refine XS.iloadN X_36.here hx rfl (hb hby at_114) rfl ?_
    show Steps p.tables e below (T_36.setTop (mkF m 115 #[.val (.int p1), .val (.int p2), .val (.int p3), .val (.int p4), .val (.int p5), .val (.int p6), .val (.ref b_1), .val (.ref gg), .val (.int (1 : Int32)), .unset] [(.int p4), (.int p4)])) t
    refine XS.icmpNo X_36.here hx rfl (hb hby at_115) rfl (teq (rfl : p4 = p4)).2 ?_
    show Steps p.tables e below (T_36.setTop (mkF m 118 #[.val (.int p1), .val (.int p2), .val (.int p3), .val (.int p4), .val (.int p5), .val (.int p6), .val (.ref b_1), .val (.ref gg), .val (.int (1 : Int32)), .unset] [])) t
    refine XS.aload X_36.here hx rfl (hb hby at_118) rfl rfl ?_
    show Steps p.tables e below (T_36.setTop (mkF m 120 #[.val (.int p1), .val (.int p2), .val (.int p3), .val (.int p4), .val (.int p5), .val (.int p6), .val (.ref b_1), .val (.ref gg), .val (.int (1 : Int32)), .unset] [(.ref gg)])) t
    refine XS.iconst X_36.here hx rfl (hb hby at_120) ?_
    exact kt
  obtain ⟨cq_37, kq_37, q_37a, q_37b, q_37c⟩ := isOf hZ e_36 Eg
  obtain ⟨_, _, ⟨T_37, L_37, k_37, n_37⟩, -, X_37, ⟨Lc_37, hQ_37, l_37, y_37, z_37⟩, st_37⟩ := X_36.virtualBack hx (y := (⟨"com/example/repco/repco/service/TransitionGraph", "target", "(I)I"⟩ : MethodName)) (z := (⟨"com/example/repco/repco/service/TransitionGraph", "target", "(I)I"⟩ : MethodName)) hown (mvT hZ (hw _ (List.mem_of_getElem? (i := 97) rfl))) (mvT hZ (hw _ (List.mem_of_getElem? (i := 98) rfl))) (notFace_of_selects (args := #[]) (mvT hZ (hw _ (List.mem_of_getElem? (i := 100) rfl)))) (mvT hZ (hw _ (List.mem_of_getElem? (i := 100) rfl))) (mvT hZ (hw _ (List.mem_of_getElem? (i := 99) rfl))) (by decide) (backOf (W := 0) (rtar2 l Z a0 hw [] gg y3 j3 p2 p4 p6 T_28.heap n0 Z_28 Q2 Q4) hZ (hw _ (List.mem_of_getElem? (i := 101) rfl)) (hw _ (List.mem_of_getElem? (i := 54) rfl)) (by decide) (by decide)) q_37a q_37c (g := (mkF m 121 #[.val (.int p1), .val (.int p2), .val (.int p3), .val (.int p4), .val (.int p5), .val (.int p6), .val (.ref b_1), .val (.ref gg), .val (.int (1 : Int32)), .unset] [(.int (2 : Int32)), (.ref gg)])) rfl (by rw [hml]; rfl) (Steps.refl _) (argsL := [(.int (2 : Int32))]) (rest := []) (lenOf pd_8 rfl) rfl (by show 2 * 0 + _ ≤ _; exact Nat.le_of_eq rfl) (hb hby at_121) (fun _ _ => ⟨rfl, e_36, (by decide : 10 + 0 ≤ _), (by decide : 68 + 0 ≤ _)⟩)
  dsimp only [Pt.U, Pt.locs, Pt.cells, Pt.slots] at X_37 l_37 y_37 z_37 st_37 hQ_37
  subst l_37 y_37 z_37
  obtain ⟨rfl, N_37q, e_37⟩ := hQ_37
  have N_37 := Fr.app N_36 N_37q
  refine own_go (g' := (mkF m 124 #[.val (.int p1), .val (.int p2), .val (.int p3), .val (.int p4), .val (.int p5), .val (.int p6), .val (.ref b_1), .val (.ref gg), .val (.int (1 : Int32)), .unset] [(.int p6)])) (fun t kt => st_37.trans kt) ?_
  refine own_go (T' := T_37) (g' := (mkF m 151 #[.val (.int p1), .val (.int p2), .val (.int p3), .val (.int p4), .val (.int p5), .val (.int p6), .val (.ref b_1), .val (.ref gg), .val (.int (1 : Int32)), .val (.int (1 : Int32))] [(.int (1 : Int32))])) (fun t kt => ?_) ?_
  · show Steps p.tables e below (T_37.setTop (mkF m 124 #[.val (.int p1), .val (.int p2), .val (.int p3), .val (.int p4), .val (.int p5), .val (.int p6), .val (.ref b_1), .val (.ref gg), .val (.int (1 : Int32)), .unset] [(.int p6)])) t
    refine XS.iload X_37.here hx rfl (hb hby at_124) rfl ?_
    show Steps p.tables e below (T_37.setTop (mkF m 126 #[.val (.int p1), .val (.int p2), .val (.int p3), .val (.int p4), .val (.int p5), .val (.int p6), .val (.ref b_1), .val (.ref gg), .val (.int (1 : Int32)), .unset] [(.int p6), (.int p6)])) t
    refine XS.icmpNo X_37.here hx rfl (hb hby at_126) rfl (teq (rfl : p6 = p6)).2 ?_
    show Steps p.tables e below (T_37.setTop (mkF m 129 #[.val (.int p1), .val (.int p2), .val (.int p3), .val (.int p4), .val (.int p5), .val (.int p6), .val (.ref b_1), .val (.ref gg), .val (.int (1 : Int32)), .unset] [])) t
    refine XS.iconst X_37.here hx rfl (hb hby at_129) ?_
    show Steps p.tables e below (T_37.setTop (mkF m 130 #[.val (.int p1), .val (.int p2), .val (.int p3), .val (.int p4), .val (.int p5), .val (.int p6), .val (.ref b_1), .val (.ref gg), .val (.int (1 : Int32)), .unset] [(.int (1 : Int32))])) t
    refine XS.goto X_37.here hx rfl (pc0 := 130) (pc' := 134) rfl (hb hby at_130) (by decide) (by decide) ?_
    show Steps p.tables e below (T_37.setTop (mkF m 134 #[.val (.int p1), .val (.int p2), .val (.int p3), .val (.int p4), .val (.int p5), .val (.int p6), .val (.ref b_1), .val (.ref gg), .val (.int (1 : Int32)), .unset] [(.int (1 : Int32))])) t
    refine XS.istore X_37.here hx rfl (hb hby at_134) rfl (l' := #[.val (.int p1), .val (.int p2), .val (.int p3), .val (.int p4), .val (.int p5), .val (.int p6), .val (.ref b_1), .val (.ref gg), .val (.int (1 : Int32)), .val (.int (1 : Int32))]) rfl ?_
    show Steps p.tables e below (T_37.setTop (mkF m 136 #[.val (.int p1), .val (.int p2), .val (.int p3), .val (.int p4), .val (.int p5), .val (.int p6), .val (.ref b_1), .val (.ref gg), .val (.int (1 : Int32)), .val (.int (1 : Int32))] [])) t
    refine XS.iload X_37.here hx rfl (hb hby at_136) rfl ?_
    show Steps p.tables e below (T_37.setTop (mkF m 138 #[.val (.int p1), .val (.int p2), .val (.int p3), .val (.int p4), .val (.int p5), .val (.int p6), .val (.ref b_1), .val (.ref gg), .val (.int (1 : Int32)), .val (.int (1 : Int32))] [(.int (1 : Int32))])) t
    refine XS.ifNo X_37.here hx rfl (hb hby at_138) rfl ((if0 _ _).trans (feq (by decide : ¬ ((1 : Int32) = (0 : Int32)))).1) ?_
    show Steps p.tables e below (T_37.setTop (mkF m 141 #[.val (.int p1), .val (.int p2), .val (.int p3), .val (.int p4), .val (.int p5), .val (.int p6), .val (.ref b_1), .val (.ref gg), .val (.int (1 : Int32)), .val (.int (1 : Int32))] [])) t
    refine XS.iload X_37.here hx rfl (hb hby at_141) rfl ?_
    show Steps p.tables e below (T_37.setTop (mkF m 143 #[.val (.int p1), .val (.int p2), .val (.int p3), .val (.int p4), .val (.int p5), .val (.int p6), .val (.ref b_1), .val (.ref gg), .val (.int (1 : Int32)), .val (.int (1 : Int32))] [(.int (1 : Int32))])) t
    refine XS.ifNo X_37.here hx rfl (hb hby at_143) rfl ((if0 _ _).trans (feq (by decide : ¬ ((1 : Int32) = (0 : Int32)))).1) ?_
    show Steps p.tables e below (T_37.setTop (mkF m 146 #[.val (.int p1), .val (.int p2), .val (.int p3), .val (.int p4), .val (.int p5), .val (.int p6), .val (.ref b_1), .val (.ref gg), .val (.int (1 : Int32)), .val (.int (1 : Int32))] [])) t
    refine XS.iconst X_37.here hx rfl (hb hby at_146) ?_
    show Steps p.tables e below (T_37.setTop (mkF m 147 #[.val (.int p1), .val (.int p2), .val (.int p3), .val (.int p4), .val (.int p5), .val (.int p6), .val (.ref b_1), .val (.ref gg), .val (.int (1 : Int32)), .val (.int (1 : Int32))] [(.int (1 : Int32))])) t
    refine XS.goto X_37.here hx rfl (pc0 := 147) (pc' := 151) rfl (hb hby at_147) (by decide) (by decide) ?_
    exact kt
  obtain ⟨fs, hr, hrun, hended, hW, hsame⟩ := X_37.leave (v := some (.int (1 : Int32))) (fun h => by rw [Bd.returns] at h; cases h)
  refine ⟨_, _, ?_, hrun, hended, _, _, rfl, ?_, ⟨_, rfl⟩, hW, hsame.mono (by decide) (by decide)⟩
  · exact retN X_37 hx (t := .boolean) Bd.returns (by simp) (hb hby at_151) hr
  · show Q_rm0 Z _ _ _ _ _ _ _ h0 n0 _ T_37.heap _
    rw [e_37]
    exact ⟨rfl, N_37⟩
set_option maxRecDepth 65536 in
set_option maxHeartbeats 40000000 in
theorem comes_1 {Post : Tables → Env → Array Value → State → Outcome → State → Prop} (hpost : ∀ tb e args s v u, (limb_1_1.after args s (.returned v) u = true ∧ limb_1_2.after args s (.returned v) u = true ∧ True) → FrameEnd s (.returned v) u (Jvm.fieldLocs frame_1_writes args s ++ Jvm.arrayLocs frame_1_arrays args s ++ Jvm.staticLocs frame_1_statics s) 32 256 → Post tb e args s (.returned v) u) :
    ArmFor flags0 classFile x code maxLocals ret World_1 tables_1 room_1 Calls_1 rest_1 Pre_1 Post := by
  intro l hfl _ _ p e ha hc hk s m args below hf hA hF happ hP
  obtain ⟨hcalls, hrest, hpre⟩ := hP
  obtain ⟨-, -, -, hnamed, -, -, -, hat⟩ := (Spec.applies_iff hf).mp happ
  obtain ⟨hg, hn⟩ := and_e (Cond.before_iff.mp (show (Jvm.Cond.and given_1 narrow_1).before args s = true from hpre))
  obtain ⟨u0, v0⟩ := and_e hg
  obtain ⟨u1, v1⟩ := and_e v0
  obtain ⟨u2, v2⟩ := and_e v1
  obtain ⟨u3, v3⟩ := and_e v2
  obtain ⟨u4, v4⟩ := and_e v3
  obtain ⟨u5, v5⟩ := and_e v4
  obtain ⟨w0, w1, w2, w3, w4, w5, rfl⟩ : ∃ w0 w1 w2 w3 w4 w5 : Value, args = #[w0, w1, w2, w3, w4, w5] := by
    have hs : args.size = 6 := by simpa [Cond.value, given_1] using u0
    obtain ⟨L⟩ := args
    match L, hs with
    | [w0, w1, w2, w3, w4, w5], _ => exact ⟨w0, w1, w2, w3, w4, w5, rfl⟩
  have hw := fun d (hd : d ∈ tables_1) => atoms_spec (ws := Jvm.Cond.code x code maxLocals ret :: tables_1) hat d (List.mem_cons_of_mem _ hd)
  obtain ⟨i0, ei0⟩ := is_v u1
  obtain rfl : w0 = (.int i0) := Option.some.inj ei0
  obtain ⟨i1, ei1⟩ := is_v u2
  obtain rfl : w1 = (.int i1) := Option.some.inj ei1
  obtain ⟨i2, ei2⟩ := is_v u3
  obtain rfl : w2 = (.int i2) := Option.some.inj ei2
  obtain ⟨i3, ei3⟩ := is_v u4
  obtain rfl : w3 = (.int i3) := Option.some.inj ei3
  obtain ⟨i4, ei4⟩ := is_v u5
  obtain rfl : w4 = (.int i4) := Option.some.inj ei4
  obtain ⟨i5, ei5⟩ := is_v v5
  obtain rfl : w5 = (.int i5) := Option.some.inj ei5
  obtain ⟨hsets, hown0⟩ := atoms_of _ (rest_1_c_eq ▸ (show rest_1_c.before _ s = true from hrest))
  obtain ⟨dc, edc⟩ := exa_v (Cond.before_iff.mp (hsets _ (List.mem_of_getElem? (i := 7) rfl)))
  have hS : Sta s s.heap "java/util/ArrayList" "DEFAULTCAPACITY_EMPTY_ELEMENTDATA" "[Ljava/lang/Object;" (.ref dc) := Sta.start edc (Or.inr ⟨hw _ (List.mem_of_getElem? (i := 25) rfl), hsets _ (List.mem_of_getElem? (i := 2) rfl)⟩)
  obtain ⟨n, o, h1, h2, h3, _, L, rfl, ⟨rfl, N⟩, hq⟩ := rm0 l s _ hw tables_1 i0 i1 i2 i3 i4 i5 dc s.heap s.heap.size (Nat.le_refl _) (Old.start s) hS p e ha hc hk s m _ below hf ((Spec.applies_iff_loose hf).mp happ).1 ⟨rfl, State.Warmed39.refl s, rfl⟩ trivial
  refine ⟨n, _, h1, h2, h3, hpost _ _ _ _ _ _ ⟨Cond.after_iff.mpr rfl, Cond.after_iff.mpr (eq_i res_at (Term.int_eval (1)) rfl), trivial⟩ ⟨hq.1, hq.2.1, (hq.2.2.sift fun y hy => Or.inr (N y hy)).mono (by decide) (by decide)⟩⟩
theorem main_1_1 : Claimed_1_1 := comes_1 fun _ _ _ _ _ _ h hF => ⟨h.1, hF⟩
theorem main_1_2 : Claimed_1_2 := comes_1 fun _ _ _ _ _ _ h hF => ⟨h.2.1, hF⟩
end Jvm.Pilot.@@N@@
namespace Jvm.Pilot.@@N@@
open Jvm Jvm.ClassFile Sem Op Lib Jvm.Free Jvm.Stand Jvm.Pilot.@@N@@.Jvm.D
/-! MADE BY PROGRAM (witnessworld.py) out of the Statement's table words and the real class files: 22 classes; the members and pool entries that the words name. The judged class is class 1, her method 1. -/
namespace start1
open Jvm.ClassFile
def u (s : String) : CpInfo := .utf8 (stringToUtf16 s)
/-- a pool by its gaps: so many unusable entries, then the entry; so many at the end -/
def gap : Nat → List CpInfo → List CpInfo
  | 0, r => r
  | n + 1, r => .unusable :: gap n r
def poolList (es : List (Nat × CpInfo)) (last : Nat) : List CpInfo := es.foldr (fun e r => gap e.1 (e.2 :: r)) (gap last [])
def pool (es : List (Nat × CpInfo)) (last : Nat) : Array CpInfo := ⟨poolList es last⟩
def fileOf (pool : Array CpInfo) (this : Nat) (attrs : Array Attribute := #[]) (ms : Array MethodInfo := #[]) (fl : Nat := 33) (sup : Nat := 0) (ifs : Array Nat := #[]) (fds : Array FieldInfo := #[]) : ClassFile where
  minorVersion := 0
  majorVersion := 65
  constantPool := pool
  accessFlags := fl
  thisClass := this
  superClass := sup
  interfaces := ifs
  fields := fds
  methods := ms
  attributes := attrs
def plain (name : String) (sup : Option ClassId) : Class where
  name := name
  kind := .ordinary
  loader := none
  accessFlags := 33
  super := sup
  interfaces := #[]
  cf := none
  fields := #[]
  methods := #[]
  instanceTypes := #[]
  staticTypes := #[]
  resolved := #[]
  callSites := []
  init := .initialized
  statics := none
  mirror := none

def pool0 : Array CpInfo := pool [(5, u "<init>"), (0, u "()V"), (1, .class_ 10), (1, u "java/lang/Object")] 113

def k0c0 : Code := { maxStack := 0, maxLocals := 1, code := object_method_1_code, exceptionTable := #[], attributes := #[] }
def k0m0 : Method := { name := "<init>", desc := "()V", sig := { parameters := [], returnType := none }, accessFlags := 1, code := some k0c0 }
/-- java/lang/Object -/
def k0 : Class := { plain "java/lang/Object" none with
  accessFlags := 33
  interfaces := #[]
  cf := some (fileOf pool0 8 #[] #[{ accessFlags := 1, nameIndex := 5, descriptorIndex := 6, attributes := #[] }] 33 0 #[] #[])
  fields := #[]
  methods := #[k0m0]
  instanceTypes := #[]
  staticTypes := #[]
  resolved := Array.replicate 124 none
  statics := none }

def pool1 : Array CpInfo := pool [(2, .class_ 4), (0, .nameAndType 5 6), (0, u "java/lang/Object"), (0, u "<init>"), (0, u "()V"), (0, .class_ 8), (0, u "com/example/repco/repco/service/TransitionGraph$Builder"), (0, .methodref 7 3), (0, .methodref 7 11), (0, .nameAndType 12 13), (0, u "add"), (0, u "(II)V"), (0, .class_ 15), (0, u "java/util/ArrayList"), (0, .methodref 14 3), (0, .methodref 7 18), (0, .nameAndType 19 20), (0, u "build"), (0, u "(Ljava/util/List;[I)Lcom/example/repco/repco/service/TransitionGraph;"), (0, .methodref 22 23), (0, .class_ 24), (0, .nameAndType 25 26), (0, u "com/example/repco/repco/service/TransitionGraph"), (0, u "transitionCount"), (0, u "()I"), (0, .methodref 22 28), (0, .nameAndType 29 30), (0, u "label"), (0, u "(I)I"), (0, .methodref 22 32), (0, .nameAndType 33 30), (0, u "target"), (0, .class_ 35), (0, u "com/example/repco/repco/service/BuilderAddPinLaw"), (2, u "law"), (0, u "(IIIIII)Z")] 5

def k1m0 : Method := { name := "<init>", desc := "()V", sig := { parameters := [], returnType := none }, accessFlags := 1, code := none }
def k1c1 : Code := { maxStack := 3, maxLocals := 10, code := code, exceptionTable := #[], attributes := #[] }
def k1m1 : Method := { name := "law", desc := "(IIIIII)Z", sig := { parameters := [.int, .int, .int, .int, .int, .int], returnType := some .boolean }, accessFlags := 9, code := some k1c1 }
/-- com/example/repco/repco/service/BuilderAddPinLaw -/
def k1 : Class := { plain "com/example/repco/repco/service/BuilderAddPinLaw" (some 0) with
  accessFlags := 49
  interfaces := #[]
  cf := some (fileOf pool1 34 #[] #[{ accessFlags := 1, nameIndex := 5, descriptorIndex := 6, attributes := #[] }, { accessFlags := 9, nameIndex := 38, descriptorIndex := 39, attributes := #[] }] 49 2 #[] #[])
  fields := #[]
  methods := #[k1m0, k1m1]
  instanceTypes := #[]
  staticTypes := #[]
  resolved := Array.replicate 45 none
  statics := none }

def pool2 : Array CpInfo := pool [(1, .methodref 2 3), (0, .class_ 4), (0, .nameAndType 5 6), (0, u "java/lang/Object"), (0, u "<init>"), (0, u "()V"), (0, .fieldref 8 9), (0, .class_ 10), (0, .nameAndType 11 12), (0, u "com/example/repco/repco/service/TransitionGraph$Builder"), (0, u "first"), (0, u "[I"), (0, .fieldref 8 14), (0, .nameAndType 15 12), (0, u "labels"), (0, .fieldref 8 17), (0, .nameAndType 18 12), (0, u "targets"), (2, u "nodes"), (0, u "I"), (0, .methodref 24 25), (0, .class_ 26), (0, .nameAndType 27 28), (0, u "java/util/Arrays"), (0, u "copyOf"), (0, u "([II)[I"), (0, .fieldref 8 30), (0, .nameAndType 31 22), (0, u "size"), (0, .class_ 33), (0, u "com/example/repco/repco/service/TransitionGraph"), (0, .methodref 32 35), (0, .nameAndType 5 36), (0, u "(Ljava/util/List;[ILcom/example/repco/repco/service/TransitionGraph$Builder;)V"), (8, u "build"), (0, u "(Ljava/util/List;[I)Lcom/example/repco/repco/service/TransitionGraph;"), (4, u "add"), (0, u "(II)V")] 8

def k2c0 : Code := { maxStack := 2, maxLocals := 1, code := prog_57_method_1_code, exceptionTable := #[], attributes := #[] }
def k2m0 : Method := { name := "<init>", desc := "()V", sig := { parameters := [], returnType := none }, accessFlags := 0, code := some k2c0 }
def k2c1 : Code := { maxStack := 4, maxLocals := 3, code := prog_57_method_3_code, exceptionTable := #[], attributes := #[] }
def k2m1 : Method := { name := "add", desc := "(II)V", sig := { parameters := [.int, .int], returnType := none }, accessFlags := 0, code := some k2c1 }
def k2c2 : Code := { maxStack := 5, maxLocals := 3, code := prog_57_method_4_code, exceptionTable := #[], attributes := #[] }
def k2m2 : Method := { name := "build", desc := "(Ljava/util/List;[I)Lcom/example/repco/repco/service/TransitionGraph;", sig := { parameters := [(.object "java/util/List"), (.array .int)], returnType := some (.object "com/example/repco/repco/service/TransitionGraph") }, accessFlags := 0, code := some k2c2 }
/-- com/example/repco/repco/service/TransitionGraph$Builder -/
def k2 : Class := { plain "com/example/repco/repco/service/TransitionGraph$Builder" (some 0) with
  accessFlags := 48
  interfaces := #[]
  cf := some (fileOf pool2 8 #[.nestHost 32] #[{ accessFlags := 0, nameIndex := 5, descriptorIndex := 6, attributes := #[] }, { accessFlags := 0, nameIndex := 51, descriptorIndex := 52, attributes := #[] }, { accessFlags := 0, nameIndex := 45, descriptorIndex := 46, attributes := #[] }] 48 2 #[] #[{ accessFlags := 2, nameIndex := 11, descriptorIndex := 12, attributes := #[] }, { accessFlags := 2, nameIndex := 15, descriptorIndex := 12, attributes := #[] }, { accessFlags := 2, nameIndex := 18, descriptorIndex := 12, attributes := #[] }, { accessFlags := 2, nameIndex := 21, descriptorIndex := 22, attributes := #[] }, { accessFlags := 2, nameIndex := 31, descriptorIndex := 22, attributes := #[] }])
  fields := #[{ name := "first", type := (.array .int), accessFlags := 2, slot := 0, constantValue := 0 }, { name := "labels", type := (.array .int), accessFlags := 2, slot := 1, constantValue := 0 }, { name := "targets", type := (.array .int), accessFlags := 2, slot := 2, constantValue := 0 }, { name := "nodes", type := .int, accessFlags := 2, slot := 3, constantValue := 0 }, { name := "size", type := .int, accessFlags := 2, slot := 4, constantValue := 0 }]
  methods := #[k2m0, k2m1, k2m2]
  instanceTypes := #[(.array .int), (.array .int), (.array .int), .int, .int]
  staticTypes := #[]
  resolved := Array.replicate 61 none
  statics := none }

def pool3 : Array CpInfo := pool [(8, .class_ 10), (1, u "java/lang/Iterable"), (24, .class_ 36), (0, u "java/lang/Object")] 25

/-- java/lang/Iterable -/
def k3 : Class := { plain "java/lang/Iterable" (some 0) with
  accessFlags := 1537
  interfaces := #[]
  cf := some (fileOf pool3 8 #[] #[] 1537 35 #[] #[])
  fields := #[]
  methods := #[]
  instanceTypes := #[]
  staticTypes := #[]
  resolved := Array.replicate 62 none
  statics := none }

def pool4 : Array CpInfo := pool [(10, .class_ 12), (1, u "java/util/Collection"), (47, .class_ 61), (0, u "java/lang/Object"), (0, .class_ 63), (0, u "java/lang/Iterable")] 51

/-- java/util/Collection -/
def k4 : Class := { plain "java/util/Collection" (some 0) with
  accessFlags := 1537
  interfaces := #[3]
  cf := some (fileOf pool4 10 #[] #[] 1537 60 #[62] #[])
  fields := #[]
  methods := #[]
  instanceTypes := #[]
  staticTypes := #[]
  resolved := Array.replicate 115 none
  statics := none }

def pool5 : Array CpInfo := pool [(1, .methodref 2 3), (0, .class_ 4), (0, .nameAndType 5 6), (0, u "java/lang/Object"), (0, u "<init>"), (0, u "()V"), (1, .class_ 10), (1, u "java/util/AbstractCollection"), (66, .class_ 78), (0, u "java/util/Collection")] 81

def k5c0 : Code := { maxStack := 1, maxLocals := 1, code := jdk_22_method_1_code, exceptionTable := #[], attributes := #[] }
def k5m0 : Method := { name := "<init>", desc := "()V", sig := { parameters := [], returnType := none }, accessFlags := 4, code := some k5c0 }
/-- java/util/AbstractCollection -/
def k5 : Class := { plain "java/util/AbstractCollection" (some 0) with
  accessFlags := 1057
  interfaces := #[4]
  cf := some (fileOf pool5 8 #[] #[{ accessFlags := 4, nameIndex := 5, descriptorIndex := 6, attributes := #[] }] 1057 2 #[77] #[])
  fields := #[]
  methods := #[k5m0]
  instanceTypes := #[]
  staticTypes := #[]
  resolved := Array.replicate 160 none
  statics := none }

def pool6 : Array CpInfo := pool [(8, .class_ 10), (1, u "java/util/SequencedCollection"), (15, .class_ 27), (0, u "java/lang/Object"), (0, .class_ 29), (0, u "java/util/Collection")] 27

/-- java/util/SequencedCollection -/
def k6 : Class := { plain "java/util/SequencedCollection" (some 0) with
  accessFlags := 1537
  interfaces := #[4]
  cf := some (fileOf pool6 8 #[] #[] 1537 26 #[28] #[])
  fields := #[]
  methods := #[]
  instanceTypes := #[]
  staticTypes := #[]
  resolved := Array.replicate 57 none
  statics := none }

def pool7 : Array CpInfo := pool [(8, .class_ 10), (1, u "java/util/List"), (92, .class_ 104), (0, u "java/lang/Object"), (15, .class_ 121), (0, u "java/util/SequencedCollection")] 129

/-- java/util/List -/
def k7 : Class := { plain "java/util/List" (some 0) with
  accessFlags := 1537
  interfaces := #[6]
  cf := some (fileOf pool7 8 #[] #[] 1537 103 #[120] #[])
  fields := #[]
  methods := #[]
  instanceTypes := #[]
  staticTypes := #[]
  resolved := Array.replicate 251 none
  statics := none }

def pool8 : Array CpInfo := pool [(1, .methodref 2 3), (0, .class_ 4), (0, .nameAndType 5 6), (0, u "java/util/AbstractCollection"), (0, u "<init>"), (0, u "()V"), (0, .fieldref 8 9), (0, .class_ 10), (0, .nameAndType 11 12), (0, u "java/util/AbstractList"), (0, u "modCount"), (0, u "I"), (64, .class_ 78), (0, u "java/util/AbstractList$Itr"), (3, .class_ 83), (0, u "java/util/AbstractList$ListItr"), (9, .class_ 94), (0, u "java/util/AbstractList$RandomAccessSubList"), (3, .class_ 99), (0, u "java/util/AbstractList$SubList"), (33, .class_ 134), (0, u "java/util/List"), (73, .class_ 209), (0, u "java/util/AbstractList$SubList$1"), (0, .class_ 211), (0, u "java/util/AbstractList$RandomAccessSpliterator")] 6

def k8c0 : Code := { maxStack := 2, maxLocals := 1, code := jdk_39_method_1_code, exceptionTable := #[], attributes := #[] }
def k8m0 : Method := { name := "<init>", desc := "()V", sig := { parameters := [], returnType := none }, accessFlags := 4, code := some k8c0 }
/-- java/util/AbstractList -/
def k8 : Class := { plain "java/util/AbstractList" (some 5) with
  accessFlags := 1057
  interfaces := #[7]
  cf := some (fileOf pool8 8 #[.nestMembers #[93, 98, 208, 210, 82, 77]] #[{ accessFlags := 4, nameIndex := 5, descriptorIndex := 6, attributes := #[] }] 1057 2 #[133] #[{ accessFlags := 132, nameIndex := 11, descriptorIndex := 12, attributes := #[] }])
  fields := #[{ name := "modCount", type := .int, accessFlags := 132, slot := 0, constantValue := 0 }]
  methods := #[k8m0]
  instanceTypes := #[.int]
  staticTypes := #[]
  resolved := Array.replicate 218 none
  statics := none }

def pool9 : Array CpInfo := pool [(1, .class_ 2), (0, u "java/util/RandomAccess"), (0, .class_ 4), (0, u "java/lang/Object")] 2

/-- java/util/RandomAccess -/
def k9 : Class := { plain "java/util/RandomAccess" (some 0) with
  accessFlags := 1537
  interfaces := #[]
  cf := some (fileOf pool9 1 #[] #[] 1537 3 #[] #[])
  fields := #[]
  methods := #[]
  instanceTypes := #[]
  staticTypes := #[]
  resolved := Array.replicate 7 none
  statics := none }

def pool10 : Array CpInfo := pool [(1, .class_ 2), (0, u "java/lang/Cloneable"), (0, .class_ 4), (0, u "java/lang/Object")] 2

/-- java/lang/Cloneable -/
def k10 : Class := { plain "java/lang/Cloneable" (some 0) with
  accessFlags := 1537
  interfaces := #[]
  cf := some (fileOf pool10 1 #[] #[] 1537 3 #[] #[])
  fields := #[]
  methods := #[]
  instanceTypes := #[]
  staticTypes := #[]
  resolved := Array.replicate 7 none
  statics := none }

def pool11 : Array CpInfo := pool [(1, .class_ 2), (0, u "java/io/Serializable"), (0, .class_ 4), (0, u "java/lang/Object")] 2

/-- java/io/Serializable -/
def k11 : Class := { plain "java/io/Serializable" (some 0) with
  accessFlags := 1537
  interfaces := #[]
  cf := some (fileOf pool11 1 #[] #[] 1537 3 #[] #[])
  fields := #[]
  methods := #[]
  instanceTypes := #[]
  staticTypes := #[]
  resolved := Array.replicate 7 none
  statics := none }

def pool12 : Array CpInfo := pool [(1, .methodref 2 3), (0, .class_ 4), (0, .nameAndType 5 6), (0, u "java/util/AbstractList"), (0, u "<init>"), (0, u "()V"), (2, .fieldref 10 11), (0, .class_ 12), (0, .nameAndType 13 14), (0, u "java/util/ArrayList"), (0, u "elementData"), (0, u "[Ljava/lang/Object;"), (2, u "EMPTY_ELEMENTDATA"), (21, .fieldref 10 40), (0, .nameAndType 41 14), (0, u "DEFAULTCAPACITY_EMPTY_ELEMENTDATA"), (8, u "size"), (0, u "I"), (96, .class_ 149), (0, u "java/util/List"), (112, .class_ 263), (0, u "java/util/ArrayList$ListItr"), (3, .class_ 268), (0, u "java/util/ArrayList$Itr"), (7, .class_ 277), (0, u "java/util/ArrayList$SubList"), (12, .class_ 291), (0, u "java/util/ArrayList$ArrayListSpliterator"), (37, .class_ 330), (0, u "java/util/RandomAccess"), (0, .class_ 332), (0, u "java/lang/Cloneable"), (0, .class_ 334), (0, u "java/io/Serializable"), (0, u "serialVersionUID"), (0, u "J"), (3, u "DEFAULT_CAPACITY"), (159, .class_ 501), (0, u "java/util/ArrayList$SubList$2"), (0, .class_ 503), (0, u "java/util/ArrayList$SubList$1")] 5

def k12c0 : Code := { maxStack := 2, maxLocals := 1, code := jdk_38_method_2_code, exceptionTable := #[], attributes := #[] }
def k12m0 : Method := { name := "<init>", desc := "()V", sig := { parameters := [], returnType := none }, accessFlags := 1, code := some k12c0 }
/-- java/util/ArrayList -/
def k12 : Class := { plain "java/util/ArrayList" (some 8) with
  accessFlags := 33
  interfaces := #[7, 9, 10, 11]
  cf := some (fileOf pool12 10 #[.nestMembers #[290, 276, 500, 502, 262, 267]] #[{ accessFlags := 1, nameIndex := 5, descriptorIndex := 6, attributes := #[] }] 33 2 #[148, 329, 331, 333] #[{ accessFlags := 26, nameIndex := 335, descriptorIndex := 336, attributes := #[] }, { accessFlags := 26, nameIndex := 340, descriptorIndex := 51, attributes := #[] }, { accessFlags := 26, nameIndex := 17, descriptorIndex := 14, attributes := #[] }, { accessFlags := 26, nameIndex := 41, descriptorIndex := 14, attributes := #[] }, { accessFlags := 128, nameIndex := 13, descriptorIndex := 14, attributes := #[] }, { accessFlags := 2, nameIndex := 50, descriptorIndex := 51, attributes := #[] }])
  fields := #[{ name := "serialVersionUID", type := .long, accessFlags := 26, slot := 0, constantValue := 0 }, { name := "DEFAULT_CAPACITY", type := .int, accessFlags := 26, slot := 1, constantValue := 0 }, { name := "EMPTY_ELEMENTDATA", type := (.array (.object "java/lang/Object")), accessFlags := 26, slot := 2, constantValue := 0 }, { name := "DEFAULTCAPACITY_EMPTY_ELEMENTDATA", type := (.array (.object "java/lang/Object")), accessFlags := 26, slot := 3, constantValue := 0 }, { name := "elementData", type := (.array (.object "java/lang/Object")), accessFlags := 128, slot := 1, constantValue := 0 }, { name := "size", type := .int, accessFlags := 2, slot := 2, constantValue := 0 }]
  methods := #[k12m0]
  instanceTypes := #[.int, (.array (.object "java/lang/Object")), .int]
  staticTypes := #[.long, .int, (.array (.object "java/lang/Object")), (.array (.object "java/lang/Object"))]
  resolved := Array.replicate 509 none
  statics := some 0 }

def pool13 : Array CpInfo := pool [(1, .methodref 2 3), (0, .class_ 4), (0, .nameAndType 5 6), (0, u "java/lang/Object"), (0, u "<init>"), (0, u "()V"), (0, .fieldref 8 9), (0, .class_ 10), (0, .nameAndType 11 12), (0, u "com/example/repco/repco/service/TransitionGraph"), (0, u "labels"), (0, u "Ljava/util/List;"), (0, .fieldref 8 14), (0, .nameAndType 15 16), (0, u "roots"), (0, u "[I"), (0, .fieldref 18 19), (0, .class_ 20), (0, .nameAndType 21 16), (0, u "com/example/repco/repco/service/TransitionGraph$Builder"), (0, u "first"), (0, .fieldref 18 23), (0, .nameAndType 24 25), (0, u "nodes"), (0, u "I"), (0, .methodref 27 28), (0, .class_ 29), (0, .nameAndType 30 31), (0, u "java/util/Arrays"), (0, u "copyOf"), (0, u "([II)[I"), (0, .fieldref 8 19), (0, .fieldref 18 34), (0, .nameAndType 11 16), (0, .fieldref 18 36), (0, .nameAndType 37 25), (0, u "size"), (0, .fieldref 8 39), (0, .nameAndType 40 16), (0, u "labelOf"), (0, .fieldref 18 42), (0, .nameAndType 43 16), (0, u "targets"), (0, .fieldref 8 45), (0, .nameAndType 46 16), (0, u "targetOf"), (6, u "INTERNAL"), (28, u "()I"), (7, u "transitionCount"), (29, u "target"), (0, u "(I)I"), (2, u "label"), (84, u "(Ljava/util/List;[ILcom/example/repco/repco/service/TransitionGraph$Builder;)V")] 57

def k13c0 : Code := { maxStack := 4, maxLocals := 4, code := prog_56_method_1_code, exceptionTable := #[], attributes := #[] }
def k13m0 : Method := { name := "<init>", desc := "(Ljava/util/List;[ILcom/example/repco/repco/service/TransitionGraph$Builder;)V", sig := { parameters := [(.object "java/util/List"), (.array .int), (.object "com/example/repco/repco/service/TransitionGraph$Builder")], returnType := none }, accessFlags := 2, code := some k13c0 }
def k13c1 : Code := { maxStack := 1, maxLocals := 1, code := prog_56_method_5_code, exceptionTable := #[], attributes := #[] }
def k13m1 : Method := { name := "transitionCount", desc := "()I", sig := { parameters := [], returnType := some .int }, accessFlags := 0, code := some k13c1 }
def k13c2 : Code := { maxStack := 2, maxLocals := 2, code := prog_56_method_10_code, exceptionTable := #[], attributes := #[] }
def k13m2 : Method := { name := "label", desc := "(I)I", sig := { parameters := [.int], returnType := some .int }, accessFlags := 0, code := some k13c2 }
def k13c3 : Code := { maxStack := 2, maxLocals := 2, code := prog_56_method_11_code, exceptionTable := #[], attributes := #[] }
def k13m3 : Method := { name := "target", desc := "(I)I", sig := { parameters := [.int], returnType := some .int }, accessFlags := 0, code := some k13c3 }
/-- com/example/repco/repco/service/TransitionGraph -/
def k13 : Class := { plain "com/example/repco/repco/service/TransitionGraph" (some 0) with
  accessFlags := 48
  interfaces := #[]
  cf := some (fileOf pool13 8 #[.nestMembers #[18]] #[{ accessFlags := 2, nameIndex := 5, descriptorIndex := 209, attributes := #[] }, { accessFlags := 0, nameIndex := 90, descriptorIndex := 82, attributes := #[] }, { accessFlags := 0, nameIndex := 124, descriptorIndex := 121, attributes := #[] }, { accessFlags := 0, nameIndex := 120, descriptorIndex := 121, attributes := #[] }] 48 2 #[] #[{ accessFlags := 24, nameIndex := 53, descriptorIndex := 25, attributes := #[] }, { accessFlags := 18, nameIndex := 11, descriptorIndex := 12, attributes := #[] }, { accessFlags := 18, nameIndex := 15, descriptorIndex := 16, attributes := #[] }, { accessFlags := 18, nameIndex := 21, descriptorIndex := 16, attributes := #[] }, { accessFlags := 18, nameIndex := 40, descriptorIndex := 16, attributes := #[] }, { accessFlags := 18, nameIndex := 46, descriptorIndex := 16, attributes := #[] }])
  fields := #[{ name := "INTERNAL", type := .int, accessFlags := 24, slot := 0, constantValue := 0 }, { name := "labels", type := (.object "java/util/List"), accessFlags := 18, slot := 0, constantValue := 0 }, { name := "roots", type := (.array .int), accessFlags := 18, slot := 1, constantValue := 0 }, { name := "first", type := (.array .int), accessFlags := 18, slot := 2, constantValue := 0 }, { name := "labelOf", type := (.array .int), accessFlags := 18, slot := 3, constantValue := 0 }, { name := "targetOf", type := (.array .int), accessFlags := 18, slot := 4, constantValue := 0 }]
  methods := #[k13m0, k13m1, k13m2, k13m3]
  instanceTypes := #[(.object "java/util/List"), (.array .int), (.array .int), (.array .int), (.array .int)]
  staticTypes := #[.int]
  resolved := ((((((Array.replicate 267 none).setIfInBounds 17 (some (.field 2 0))).setIfInBounds 22 (some (.field 2 3))).setIfInBounds 33 (some (.field 2 1))).setIfInBounds 35 (some (.field 2 4))).setIfInBounds 41 (some (.field 2 2)))
  statics := none }

def pool14 : Array CpInfo := pool [(2, .class_ 4), (1, u "java/lang/Object"), (0, u "<init>"), (0, u "()V"), (7, .class_ 16), (1, u "java/util/Arrays"), (57, .class_ 76), (1, u "java/util/Arrays$NaturalOrder"), (36, .class_ 115), (1, u "java/util/Arrays$LegacyMergeSort"), (1, u "Z"), (32, .methodref 151 152), (0, .class_ 153), (0, .nameAndType 154 155), (0, u "java/lang/System"), (0, u "arraycopy"), (0, u "(Ljava/lang/Object;ILjava/lang/Object;II)V"), (146, u "copyOf"), (1, .methodref 305 306), (0, .class_ 307), (0, .nameAndType 308 309), (0, u "java/lang/Math"), (0, u "min"), (0, u "(II)I"), (65, .class_ 376), (0, u "java/util/Arrays$ArrayList"), (68, u "$assertionsDisabled"), (269, u "MIN_ARRAY_SORT_GRAN"), (0, u "I"), (2, u "INSERTIONSORT_THRESHOLD"), (151, u "([II)[I"), (103, .class_ 976), (0, u "java/util/Arrays$ArrayItr")] 52

def k14m0 : Method := { name := "<init>", desc := "()V", sig := { parameters := [], returnType := none }, accessFlags := 2, code := none }
def k14c1 : Code := { maxStack := 6, maxLocals := 3, code := jdk_65_method_123_code, exceptionTable := #[], attributes := #[] }
def k14m1 : Method := { name := "copyOf", desc := "([II)[I", sig := { parameters := [(.array .int), .int], returnType := some (.array .int) }, accessFlags := 9, code := some k14c1 }
/-- java/util/Arrays -/
def k14 : Class := { plain "java/util/Arrays" (some 0) with
  accessFlags := 49
  interfaces := #[]
  cf := some (fileOf pool14 14 #[.nestMembers #[975, 375, 113, 74]] #[{ accessFlags := 2, nameIndex := 5, descriptorIndex := 6, attributes := #[] }, { accessFlags := 9, nameIndex := 302, descriptorIndex := 871, attributes := #[] }] 49 2 #[] #[{ accessFlags := 26, nameIndex := 715, descriptorIndex := 716, attributes := #[] }, { accessFlags := 26, nameIndex := 719, descriptorIndex := 716, attributes := #[] }, { accessFlags := 4120, nameIndex := 445, descriptorIndex := 117, attributes := #[] }])
  fields := #[{ name := "MIN_ARRAY_SORT_GRAN", type := .int, accessFlags := 26, slot := 0, constantValue := 0 }, { name := "INSERTIONSORT_THRESHOLD", type := .int, accessFlags := 26, slot := 1, constantValue := 0 }, { name := "$assertionsDisabled", type := .boolean, accessFlags := 4120, slot := 2, constantValue := 0 }]
  methods := #[k14m0, k14m1]
  instanceTypes := #[]
  staticTypes := #[.int, .int, .boolean]
  resolved := Array.replicate 1029 none
  statics := none }

def pool15 : Array CpInfo := pool [(1, .class_ 2), (0, u "java/lang/Math"), (1, .class_ 6), (1, u "java/lang/Object"), (0, u "<init>"), (0, u "()V"), (89, .class_ 100), (1, u "java/lang/Math$RandomNumberGeneratorHolder"), (71, u "negativeZeroFloatBits"), (0, u "J"), (2, u "negativeZeroDoubleBits"), (24, u "min"), (43, u "$assertionsDisabled"), (0, u "Z"), (88, u "(II)I"), (2, u "twoToTheDoubleScaleDown"), (0, u "D"), (4, u "twoToTheDoubleScaleUp"), (9, u "E"), (3, u "PI"), (2, u "TAU"), (2, u "DEGREES_TO_RADIANS"), (0, u "RADIANS_TO_DEGREES")] 94

def k15m0 : Method := { name := "<init>", desc := "()V", sig := { parameters := [], returnType := none }, accessFlags := 2, code := none }
def k15c1 : Code := { maxStack := 2, maxLocals := 2, code := jdk_29_method_69_code, exceptionTable := #[], attributes := #[] }
def k15m1 : Method := { name := "min", desc := "(II)I", sig := { parameters := [.int, .int], returnType := some .int }, accessFlags := 9, code := some k15c1 }
/-- java/lang/Math -/
def k15 : Class := { plain "java/lang/Math" (some 0) with
  accessFlags := 49
  interfaces := #[]
  cf := some (fileOf pool15 1 #[.nestMembers #[98]] #[{ accessFlags := 2, nameIndex := 7, descriptorIndex := 8, attributes := #[] }, { accessFlags := 9, nameIndex := 201, descriptorIndex := 335, attributes := #[] }] 49 4 #[] #[{ accessFlags := 25, nameIndex := 354, descriptorIndex := 339, attributes := #[] }, { accessFlags := 25, nameIndex := 358, descriptorIndex := 339, attributes := #[] }, { accessFlags := 25, nameIndex := 361, descriptorIndex := 339, attributes := #[] }, { accessFlags := 26, nameIndex := 364, descriptorIndex := 339, attributes := #[] }, { accessFlags := 26, nameIndex := 365, descriptorIndex := 339, attributes := #[] }, { accessFlags := 26, nameIndex := 172, descriptorIndex := 173, attributes := #[] }, { accessFlags := 26, nameIndex := 176, descriptorIndex := 173, attributes := #[] }, { accessFlags := 8, nameIndex := 344, descriptorIndex := 339, attributes := #[] }, { accessFlags := 8, nameIndex := 338, descriptorIndex := 339, attributes := #[] }, { accessFlags := 4120, nameIndex := 245, descriptorIndex := 246, attributes := #[] }])
  fields := #[{ name := "E", type := .double, accessFlags := 25, slot := 0, constantValue := 0 }, { name := "PI", type := .double, accessFlags := 25, slot := 1, constantValue := 0 }, { name := "TAU", type := .double, accessFlags := 25, slot := 2, constantValue := 0 }, { name := "DEGREES_TO_RADIANS", type := .double, accessFlags := 26, slot := 3, constantValue := 0 }, { name := "RADIANS_TO_DEGREES", type := .double, accessFlags := 26, slot := 4, constantValue := 0 }, { name := "negativeZeroFloatBits", type := .long, accessFlags := 26, slot := 5, constantValue := 0 }, { name := "negativeZeroDoubleBits", type := .long, accessFlags := 26, slot := 6, constantValue := 0 }, { name := "twoToTheDoubleScaleUp", type := .double, accessFlags := 8, slot := 7, constantValue := 0 }, { name := "twoToTheDoubleScaleDown", type := .double, accessFlags := 8, slot := 8, constantValue := 0 }, { name := "$assertionsDisabled", type := .boolean, accessFlags := 4120, slot := 9, constantValue := 0 }]
  methods := #[k15m0, k15m1]
  instanceTypes := #[]
  staticTypes := #[.double, .double, .double, .double, .double, .long, .long, .double, .double, .boolean]
  resolved := Array.replicate 460 none
  statics := none }

def pool16 : Array CpInfo := pool [(2, .class_ 4), (1, u "java/lang/Object"), (0, u "<init>"), (0, u "()V"), (1, .class_ 10), (1, u "java/lang/System"), (0, u "allowSecurityManager"), (0, u "I"), (16, u "cons"), (0, u "Ljava/io/Console;"), (77, .class_ 110), (1, u "java/lang/System$CallersHolder"), (43, u "initialErrStream"), (0, u "Ljava/io/PrintStream;"), (19, u "security"), (0, u "Ljava/lang/SecurityManager;"), (31, .class_ 209), (0, u "java/lang/System$1"), (7, u "props"), (0, u "Ljava/util/Properties;"), (2, u "lineSeparator"), (0, u "Ljava/lang/String;"), (96, .class_ 321), (1, u "java/lang/System$LoggerFinder"), (5, .class_ 328), (0, u "java/lang/System$Logger"), (67, u "err"), (2, u "out"), (91, u "notSupportedJnuEncoding"), (15, u "in"), (17, u "initialIn"), (0, u "Ljava/io/InputStream;"), (35, u "bootLayer"), (0, u "Ljava/lang/ModuleLayer;"), (99, .class_ 664), (0, u "java/lang/System$2"), (9, u "NEVER"), (2, u "MAYBE"), (49, u "arraycopy"), (0, u "(Ljava/lang/Object;ILjava/lang/Object;II)V"), (72, .class_ 802), (0, u "java/lang/System$Logger$Level")] 31

def k16m0 : Method := { name := "<init>", desc := "()V", sig := { parameters := [], returnType := none }, accessFlags := 2, code := none }
def k16m1 : Method := { name := "arraycopy", desc := "(Ljava/lang/Object;ILjava/lang/Object;II)V", sig := { parameters := [(.object "java/lang/Object"), .int, (.object "java/lang/Object"), .int, .int], returnType := none }, accessFlags := 265, code := none }
/-- java/lang/System -/
def k16 : Class := { plain "java/lang/System" (some 0) with
  accessFlags := 49
  interfaces := #[]
  cf := some (fileOf pool16 8 #[.nestMembers #[319, 327, 801, 108, 663, 208]] #[{ accessFlags := 2, nameIndex := 5, descriptorIndex := 6, attributes := #[] }, { accessFlags := 265, nameIndex := 727, descriptorIndex := 728, attributes := #[] }] 49 2 #[] #[{ accessFlags := 25, nameIndex := 507, descriptorIndex := 526, attributes := #[] }, { accessFlags := 25, nameIndex := 399, descriptorIndex := 155, attributes := #[] }, { accessFlags := 25, nameIndex := 396, descriptorIndex := 155, attributes := #[] }, { accessFlags := 10, nameIndex := 525, descriptorIndex := 526, attributes := #[] }, { accessFlags := 26, nameIndex := 674, descriptorIndex := 12, attributes := #[] }, { accessFlags := 26, nameIndex := 677, descriptorIndex := 12, attributes := #[] }, { accessFlags := 10, nameIndex := 11, descriptorIndex := 12, attributes := #[] }, { accessFlags := 74, nameIndex := 175, descriptorIndex := 176, attributes := #[] }, { accessFlags := 10, nameIndex := 491, descriptorIndex := 222, attributes := #[] }, { accessFlags := 74, nameIndex := 29, descriptorIndex := 30, attributes := #[] }, { accessFlags := 74, nameIndex := 154, descriptorIndex := 155, attributes := #[] }, { accessFlags := 10, nameIndex := 217, descriptorIndex := 218, attributes := #[] }, { accessFlags := 10, nameIndex := 221, descriptorIndex := 222, attributes := #[] }, { accessFlags := 8, nameIndex := 562, descriptorIndex := 563, attributes := #[] }])
  fields := #[{ name := "in", type := (.object "java/io/InputStream"), accessFlags := 25, slot := 0, constantValue := 0 }, { name := "out", type := (.object "java/io/PrintStream"), accessFlags := 25, slot := 1, constantValue := 0 }, { name := "err", type := (.object "java/io/PrintStream"), accessFlags := 25, slot := 2, constantValue := 0 }, { name := "initialIn", type := (.object "java/io/InputStream"), accessFlags := 10, slot := 3, constantValue := 0 }, { name := "NEVER", type := .int, accessFlags := 26, slot := 4, constantValue := 0 }, { name := "MAYBE", type := .int, accessFlags := 26, slot := 5, constantValue := 0 }, { name := "allowSecurityManager", type := .int, accessFlags := 10, slot := 6, constantValue := 0 }, { name := "security", type := (.object "java/lang/SecurityManager"), accessFlags := 74, slot := 7, constantValue := 0 }, { name := "notSupportedJnuEncoding", type := (.object "java/lang/String"), accessFlags := 10, slot := 8, constantValue := 0 }, { name := "cons", type := (.object "java/io/Console"), accessFlags := 74, slot := 9, constantValue := 0 }, { name := "initialErrStream", type := (.object "java/io/PrintStream"), accessFlags := 74, slot := 10, constantValue := 0 }, { name := "props", type := (.object "java/util/Properties"), accessFlags := 10, slot := 11, constantValue := 0 }, { name := "lineSeparator", type := (.object "java/lang/String"), accessFlags := 10, slot := 12, constantValue := 0 }, { name := "bootLayer", type := (.object "java/lang/ModuleLayer"), accessFlags := 8, slot := 13, constantValue := 0 }]
  methods := #[k16m0, k16m1]
  instanceTypes := #[]
  staticTypes := #[(.object "java/io/InputStream"), (.object "java/io/PrintStream"), (.object "java/io/PrintStream"), (.object "java/io/InputStream"), .int, .int, .int, (.object "java/lang/SecurityManager"), (.object "java/lang/String"), (.object "java/io/Console"), (.object "java/io/PrintStream"), (.object "java/util/Properties"), (.object "java/lang/String"), (.object "java/lang/ModuleLayer")]
  resolved := Array.replicate 834 none
  statics := none }

/-- the primitive byte -/
def k17 : Class := { plain "byte" none with kind := .primitive 'B', accessFlags := 0x411 }
/-- [B -/
def k18 : Class := { plain "[B" (some 0) with kind := .array 17 .byte, interfaces := #[10, 11], accessFlags := 1041 }

/-- the primitive int -/
def k19 : Class := { plain "int" none with kind := .primitive 'I', accessFlags := 0x411 }
/-- [I -/
def k20 : Class := { plain "[I" (some 0) with kind := .array 19 .int, interfaces := #[10, 11], accessFlags := 1041 }

/-- [Ljava/lang/Object; -/
def k21 : Class := { plain "[Ljava/lang/Object;" (some 0) with kind := .array 0 (.object "java/lang/Object"), interfaces := #[10, 11], accessFlags := 1041 }

def heap : Heap := #[{ cls := 12, slots := #[.long 0, .int 0, .ref 1, .ref 2], vm := .statics 12 },
  { cls := 21, slots := #[], vm := .none },
  { cls := 21, slots := #[], vm := .none }]
def classes : Array Class := #[k0, k1, k2, k3, k4, k5, k6, k7, k8, k9, k10, k11, k12, k13, k14, k15, k16, k17, k18, k19, k20, k21]
def interned : List (Array UInt16 × Addr) := []
def slotsUsed : Nat := 4
def theMethod : MethodId := ⟨1, 1⟩
def args0 : Array Value := #[.int 1, .int 2, .int 3, .int 4, .int 5, .int 6]
def aboutOver (below : List Frame) : State where
  vm := { classes := classes, interned := interned.toArray }
  heap := heap
  slotsUsed := slotsUsed
  threads := #[{ frames := .invoking theMethod args0 :: below }]
def below0 : List Frame := [.native { method := ⟨0, 0⟩, args := #[] }]
def about1 : State := aboutOver below0
def p0 : Program := .bare "" "" ""
def e0 : Env := launch0.env 0 0 0
theorem w_frames : about1.frames = Frame.invoking theMethod args0 :: below0 := rfl
set_option maxRecDepth 65536 in
theorem w_args : argsFit about1.vm theMethod args0 = true := by decide +kernel
set_option maxRecDepth 65536 in
theorem w_heap : heapFits about1 = true := by decide +kernel
set_option maxRecDepth 65536 in
theorem w_runnable : about1.curStatus? = some .runnable := by decide +kernel
set_option maxRecDepth 65536 in
theorem w_alone : about1.alone = true := by decide +kernel
set_option maxRecDepth 65536 in
theorem w_named : about1.methodNamed? x = some theMethod := by decide +kernel
set_option maxRecDepth 65536 in
theorem w_hears : about1.hears theMethod below0 = true := by decide +kernel
set_option maxRecDepth 65536 in
theorem w_ripe : about1.ripe theMethod args0 below0 = true := by decide +kernel
theorem w_running : about1.status = .running := rfl
set_option maxRecDepth 65536 in
theorem w_room : about1.hasRoom e0.platform room_1 = true :=
  launch0.hasRoom_least _ room_1 (by decide +kernel) (by decide +kernel) (by decide +kernel) (by decide +kernel) (by decide +kernel) (by decide +kernel)
theorem allAtoms_all (ts : List Jvm.Cond) (a : Array Jvm.Value) (st : Jvm.State) : (allAtoms ts).before a st = ts.all (fun c => c.before a st) := by
  induction ts with
  | nil => rfl
  | cons c t ih =>
    show (Jvm.Cond.and c (allAtoms t)).before a st = _
    rw [Jvm.Cond.before_and, ih, List.all_cons]
def words1 : List Jvm.Cond := Jvm.Cond.code x code maxLocals ret :: tables_1
/-- a 'code' word, met by the world's own term for the bytes: nothing is compared byte by byte -/
theorem code_word {y : MethodName} {bytes : ByteArray} {mx : Nat} {rt : Option FieldType} {a : Array Value} {s : State} {m : MethodId} {meth : Method} {c : Code} (h1 : s.methodNamed? y = some m) (h2 : s.vm.method? m = some meth) (h3 : meth.code = some c) (h4 : c.code = bytes)
    (h5 : (c.maxLocals == mx && c.exceptionTable.isEmpty && decide (c.maxStack ≤ mostOperands) && decide (meth.sig.returnType = rt) && !meth.locks && decide (parseMethodDescriptor y.desc = some meth.sig)) = true) : (Jvm.Cond.code y bytes mx rt).before a s = true := by
  simp only [Bool.and_eq_true, beq_iff_eq, Bool.not_eq_true', decide_eq_true_eq] at h5
  obtain ⟨⟨⟨⟨⟨g1, g2⟩, g3⟩, g4⟩, g5⟩, g6⟩ := h5
  simp [Cond.before, Cond.holds, Cond.value, h1, h2, h3, h4, g1, g2, g3, g4, g5, g6]
def isCode : Jvm.Cond → Bool
  | .code _ _ _ _ => true
  | _ => false
theorem all_split {L : List Jvm.Cond} {P : Jvm.Cond → Bool} (h1 : L.all (fun c => isCode c || P c) = true) (h2 : ∀ c ∈ L.filter isCode, P c = true) : L.all P = true := by
  refine List.all_eq_true.mpr fun c hc => ?_
  have h := List.all_eq_true.mp h1 c hc
  rcases Bool.eq_false_or_eq_true (isCode c) with hi | hi
  · exact h2 c (List.mem_filter.mpr ⟨hc, hi⟩)
  · simpa [hi] using h
set_option maxRecDepth 65536 in
theorem w_c0 : (Jvm.Cond.code x code maxLocals ret).before args0 about1 = true := code_word (m := ⟨1, 1⟩) (meth := k1m1) (c := k1c1) (by decide +kernel) rfl rfl rfl (by decide +kernel)
set_option maxRecDepth 65536 in
theorem w_c1 : (Jvm.Cond.code ({ cls := "com/example/repco/repco/service/TransitionGraph$Builder", name := "<init>", desc := "()V" } : Jvm.MethodName) prog_57_method_1_code (1 : Nat) (Option.none : Option Jvm.ClassFile.FieldType)).before args0 about1 = true := code_word (m := ⟨2, 0⟩) (meth := k2m0) (c := k2c0) (by decide +kernel) rfl rfl rfl (by decide +kernel)
set_option maxRecDepth 65536 in
theorem w_c2 : (Jvm.Cond.code ({ cls := "java/lang/Object", name := "<init>", desc := "()V" } : Jvm.MethodName) object_method_1_code (1 : Nat) (Option.none : Option Jvm.ClassFile.FieldType)).before args0 about1 = true := code_word (m := ⟨0, 0⟩) (meth := k0m0) (c := k0c0) (by decide +kernel) rfl rfl rfl (by decide +kernel)
set_option maxRecDepth 65536 in
theorem w_c3 : (Jvm.Cond.code ({ cls := "com/example/repco/repco/service/TransitionGraph$Builder", name := "add", desc := "(II)V" } : Jvm.MethodName) prog_57_method_3_code (3 : Nat) (Option.none : Option Jvm.ClassFile.FieldType)).before args0 about1 = true := code_word (m := ⟨2, 1⟩) (meth := k2m1) (c := k2c1) (by decide +kernel) rfl rfl rfl (by decide +kernel)
set_option maxRecDepth 65536 in
theorem w_c4 : (Jvm.Cond.code ({ cls := "java/util/ArrayList", name := "<init>", desc := "()V" } : Jvm.MethodName) jdk_38_method_2_code (1 : Nat) (Option.none : Option Jvm.ClassFile.FieldType)).before args0 about1 = true := code_word (m := ⟨12, 0⟩) (meth := k12m0) (c := k12c0) (by decide +kernel) rfl rfl rfl (by decide +kernel)
set_option maxRecDepth 65536 in
theorem w_c5 : (Jvm.Cond.code ({ cls := "java/util/AbstractList", name := "<init>", desc := "()V" } : Jvm.MethodName) jdk_39_method_1_code (1 : Nat) (Option.none : Option Jvm.ClassFile.FieldType)).before args0 about1 = true := code_word (m := ⟨8, 0⟩) (meth := k8m0) (c := k8c0) (by decide +kernel) rfl rfl rfl (by decide +kernel)
set_option maxRecDepth 65536 in
theorem w_c6 : (Jvm.Cond.code ({ cls := "java/util/AbstractCollection", name := "<init>", desc := "()V" } : Jvm.MethodName) jdk_22_method_1_code (1 : Nat) (Option.none : Option Jvm.ClassFile.FieldType)).before args0 about1 = true := code_word (m := ⟨5, 0⟩) (meth := k5m0) (c := k5c0) (by decide +kernel) rfl rfl rfl (by decide +kernel)
set_option maxRecDepth 65536 in
theorem w_c7 : (Jvm.Cond.code ({ cls := "com/example/repco/repco/service/TransitionGraph$Builder", name := "build", desc := "(Ljava/util/List;[I)Lcom/example/repco/repco/service/TransitionGraph;" } : Jvm.MethodName) prog_57_method_4_code (3 : Nat) (Option.some (Jvm.ClassFile.FieldType.object "com/example/repco/repco/service/TransitionGraph"))).before args0 about1 = true := code_word (m := ⟨2, 2⟩) (meth := k2m2) (c := k2c2) (by decide +kernel) rfl rfl rfl (by decide +kernel)
set_option maxRecDepth 65536 in
theorem w_c8 : (Jvm.Cond.code ({ cls := "com/example/repco/repco/service/TransitionGraph", name := "<init>", desc := "(Ljava/util/List;[ILcom/example/repco/repco/service/TransitionGraph$Builder;)V" } : Jvm.MethodName) prog_56_method_1_code (4 : Nat) (Option.none : Option Jvm.ClassFile.FieldType)).before args0 about1 = true := code_word (m := ⟨13, 0⟩) (meth := k13m0) (c := k13c0) (by decide +kernel) rfl rfl rfl (by decide +kernel)
set_option maxRecDepth 65536 in
theorem w_c9 : (Jvm.Cond.code ({ cls := "java/util/Arrays", name := "copyOf", desc := "([II)[I" } : Jvm.MethodName) jdk_65_method_123_code (3 : Nat) (Option.some (Jvm.ClassFile.FieldType.array Jvm.ClassFile.FieldType.int))).before args0 about1 = true := code_word (m := ⟨14, 1⟩) (meth := k14m1) (c := k14c1) (by decide +kernel) rfl rfl rfl (by decide +kernel)
set_option maxRecDepth 65536 in
theorem w_c10 : (Jvm.Cond.code ({ cls := "java/lang/Math", name := "min", desc := "(II)I" } : Jvm.MethodName) jdk_29_method_69_code (2 : Nat) (Option.some Jvm.ClassFile.FieldType.int)).before args0 about1 = true := code_word (m := ⟨15, 1⟩) (meth := k15m1) (c := k15c1) (by decide +kernel) rfl rfl rfl (by decide +kernel)
set_option maxRecDepth 65536 in
theorem w_c11 : (Jvm.Cond.code ({ cls := "com/example/repco/repco/service/TransitionGraph", name := "transitionCount", desc := "()I" } : Jvm.MethodName) prog_56_method_5_code (1 : Nat) (Option.some Jvm.ClassFile.FieldType.int)).before args0 about1 = true := code_word (m := ⟨13, 1⟩) (meth := k13m1) (c := k13c1) (by decide +kernel) rfl rfl rfl (by decide +kernel)
set_option maxRecDepth 65536 in
theorem w_c12 : (Jvm.Cond.code ({ cls := "com/example/repco/repco/service/TransitionGraph", name := "label", desc := "(I)I" } : Jvm.MethodName) prog_56_method_10_code (2 : Nat) (Option.some Jvm.ClassFile.FieldType.int)).before args0 about1 = true := code_word (m := ⟨13, 2⟩) (meth := k13m2) (c := k13c2) (by decide +kernel) rfl rfl rfl (by decide +kernel)
set_option maxRecDepth 65536 in
theorem w_c13 : (Jvm.Cond.code ({ cls := "com/example/repco/repco/service/TransitionGraph", name := "target", desc := "(I)I" } : Jvm.MethodName) prog_56_method_11_code (2 : Nat) (Option.some Jvm.ClassFile.FieldType.int)).before args0 about1 = true := code_word (m := ⟨13, 3⟩) (meth := k13m3) (c := k13c3) (by decide +kernel) rfl rfl rfl (by decide +kernel)
def codes1 : List Jvm.Cond := [Jvm.Cond.code x code maxLocals ret, Jvm.Cond.code ({ cls := "com/example/repco/repco/service/TransitionGraph$Builder", name := "<init>", desc := "()V" } : Jvm.MethodName) prog_57_method_1_code (1 : Nat) (Option.none : Option Jvm.ClassFile.FieldType), Jvm.Cond.code ({ cls := "java/lang/Object", name := "<init>", desc := "()V" } : Jvm.MethodName) object_method_1_code (1 : Nat) (Option.none : Option Jvm.ClassFile.FieldType), Jvm.Cond.code ({ cls := "com/example/repco/repco/service/TransitionGraph$Builder", name := "add", desc := "(II)V" } : Jvm.MethodName) prog_57_method_3_code (3 : Nat) (Option.none : Option Jvm.ClassFile.FieldType), Jvm.Cond.code ({ cls := "java/util/ArrayList", name := "<init>", desc := "()V" } : Jvm.MethodName) jdk_38_method_2_code (1 : Nat) (Option.none : Option Jvm.ClassFile.FieldType), Jvm.Cond.code ({ cls := "java/util/AbstractList", name := "<init>", desc := "()V" } : Jvm.MethodName) jdk_39_method_1_code (1 : Nat) (Option.none : Option Jvm.ClassFile.FieldType), Jvm.Cond.code ({ cls := "java/util/AbstractCollection", name := "<init>", desc := "()V" } : Jvm.MethodName) jdk_22_method_1_code (1 : Nat) (Option.none : Option Jvm.ClassFile.FieldType), Jvm.Cond.code ({ cls := "com/example/repco/repco/service/TransitionGraph$Builder", name := "build", desc := "(Ljava/util/List;[I)Lcom/example/repco/repco/service/TransitionGraph;" } : Jvm.MethodName) prog_57_method_4_code (3 : Nat) (Option.some (Jvm.ClassFile.FieldType.object "com/example/repco/repco/service/TransitionGraph")), Jvm.Cond.code ({ cls := "com/example/repco/repco/service/TransitionGraph", name := "<init>", desc := "(Ljava/util/List;[ILcom/example/repco/repco/service/TransitionGraph$Builder;)V" } : Jvm.MethodName) prog_56_method_1_code (4 : Nat) (Option.none : Option Jvm.ClassFile.FieldType), Jvm.Cond.code ({ cls := "java/util/Arrays", name := "copyOf", desc := "([II)[I" } : Jvm.MethodName) jdk_65_method_123_code (3 : Nat) (Option.some (Jvm.ClassFile.FieldType.array Jvm.ClassFile.FieldType.int)), Jvm.Cond.code ({ cls := "java/lang/Math", name := "min", desc := "(II)I" } : Jvm.MethodName) jdk_29_method_69_code (2 : Nat) (Option.some Jvm.ClassFile.FieldType.int), Jvm.Cond.code ({ cls := "com/example/repco/repco/service/TransitionGraph", name := "transitionCount", desc := "()I" } : Jvm.MethodName) prog_56_method_5_code (1 : Nat) (Option.some Jvm.ClassFile.FieldType.int), Jvm.Cond.code ({ cls := "com/example/repco/repco/service/TransitionGraph", name := "label", desc := "(I)I" } : Jvm.MethodName) prog_56_method_10_code (2 : Nat) (Option.some Jvm.ClassFile.FieldType.int), Jvm.Cond.code ({ cls := "com/example/repco/repco/service/TransitionGraph", name := "target", desc := "(I)I" } : Jvm.MethodName) prog_56_method_11_code (2 : Nat) (Option.some Jvm.ClassFile.FieldType.int)]
set_option maxRecDepth 65536 in
theorem codes_eq : words1.filter isCode = codes1 := rfl
theorem w_codes : ∀ c ∈ words1.filter isCode, c.before args0 about1 = true := by
  rw [codes_eq]
  intro c hc
  simp only [codes1, List.mem_cons, List.not_mem_nil, or_false] at hc
  rcases hc with rfl | rfl | rfl | rfl | rfl | rfl | rfl | rfl | rfl | rfl | rfl | rfl | rfl | rfl
  · exact w_c0
  · exact w_c1
  · exact w_c2
  · exact w_c3
  · exact w_c4
  · exact w_c5
  · exact w_c6
  · exact w_c7
  · exact w_c8
  · exact w_c9
  · exact w_c10
  · exact w_c11
  · exact w_c12
  · exact w_c13
set_option maxRecDepth 65536 in
theorem w_t1 : (words1.take 24).all (fun c => isCode c || c.before args0 about1) = true := by decide +kernel
set_option maxRecDepth 65536 in
theorem w_t2 : ((words1.drop 24).take 24).all (fun c => isCode c || c.before args0 about1) = true := by decide +kernel
set_option maxRecDepth 65536 in
theorem w_t3 : (((words1.drop 24).drop 24).take 24).all (fun c => isCode c || c.before args0 about1) = true := by decide +kernel
set_option maxRecDepth 65536 in
theorem w_t4 : ((((words1.drop 24).drop 24).drop 24).take 24).all (fun c => isCode c || c.before args0 about1) = true := by decide +kernel
set_option maxRecDepth 65536 in
theorem w_t5 : ((((words1.drop 24).drop 24).drop 24).drop 24).all (fun c => isCode c || c.before args0 about1) = true := by decide +kernel
theorem w_tables : (allAtoms (Jvm.Cond.code x code maxLocals ret :: tables_1)).before args0 about1 = true := by
  rw [allAtoms_all]
  show words1.all (fun c => c.before args0 about1) = true
  refine all_split ?_ w_codes
  rw [← List.take_append_drop 24 words1, List.all_append, w_t1, ← List.take_append_drop 24 (words1.drop 24), List.all_append, w_t2, ← List.take_append_drop 24 ((words1.drop 24).drop 24), List.all_append, w_t3, ← List.take_append_drop 24 (((words1.drop 24).drop 24).drop 24), List.all_append, w_t4, w_t5]
  rfl
set_option maxRecDepth 65536 in
theorem w_rest : rest_1_c.before args0 about1 = true := by decide +kernel
set_option maxRecDepth 65536 in
theorem w_case : (Jvm.Cond.and given_1 narrow_1).before args0 about1 = true := by decide +kernel
theorem w_applies : (headSpec (Jvm.Cond.code x code maxLocals ret :: tables_1) room_1).applies x e0.platform about1 = true :=
  (Spec.applies_iff w_frames).mpr ⟨w_running, w_runnable, w_alone, w_named, w_hears, w_ripe, w_room, w_tables⟩
theorem atStart : AtStart classFile x code maxLocals ret World_1 tables_1 room_1 Calls_1 rest_1 Pre_1 launch0 p0 e0 about1 theMethod args0 below0 :=
  ⟨lists_1, trivial, launch0.admits_env _ _ _, launch0.least_env, fairChoices_fair.cas, fairChoices_fair.clock, w_frames, w_args, w_heap, w_applies, trivial, w_rest, w_case⟩
end start1
theorem witness_1 : WitnessClaimed_1 := ⟨start1.p0, start1.e0, start1.about1, start1.theMethod, start1.args0, start1.below0, start1.atStart⟩
end Jvm.Pilot.@@N@@
