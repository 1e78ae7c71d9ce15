import JvmDerived
import JvmDerived.Pilot.@@N@@Statement
import JvmDerived.Pilot.@@N@@Code
set_option linter.unusedVariables false
set_option linter.unusedSimpArgs false
namespace Jvm.RoadKit
open Sem ClassFile Op Lib Jvm.Stand Jvm.Free Jvm.LawKit
section New
variable {p : Program} {l : Launch} {e : Env} {R : Room} {s : State} {m : MethodId} {args : Array Value} {below : List Frame} {meth : Method} {c : Code} {T : State} {locs : List Loc} {cells slots : Nat}
theorem retI (X : Stand p l e R s m args below meth c T locs cells slots) (hx : p.tables.exec = Jvm.exec) {pc : Nat} {Ls : Array Slot} {z : Int32} {rest : List Value} (hret : meth.sig.returnType = some .int) (hd : decode c.code pc = .ok (.ireturn, 1)) {fs : List Frame}
    (hl : ∀ (f : JFrame) (acts : List Action), f.method = m → f.locked = none → f.entered = [] → (doReturn e (T.setTop f) acts (some (.int z))).1 = T.setFrames fs) : Steps p.tables e below (T.setTop (mkF m pc Ls (.int z :: rest))) (T.setFrames fs) := by
  have hm' : T.vm.method? m = some meth := X.method'
  have hn : narrow .int (.int z) = .int z := rfl
  show Steps p.tables e below (T.setTop { method := m, pc := pc, locals := Ls, stack := _ :: rest, locked := none }) _
  jvm_step X.here [X.here.top, hx, hd, hm', hret, hn]
  first | (intro acts; rw [hl _ acts rfl rfl rfl]) | rw [hl _ _ rfl rfl rfl]
  exact Steps.refl _
end New
end Jvm.RoadKit
namespace Jvm.Pilot.@@N@@
open Jvm Jvm.ClassFile Sem Op Lib Jvm.Free Jvm.Stand Jvm.LawKit Jvm.RoadKit Bundle Jvm.Pilot.@@N@@.Jvm.D
theorem own_go {tb : Tables} {e : Env} {below : List Frame} {T T' : State} {g g' : JFrame} {P : State → Outcome → Prop} (st : ∀ t, Steps tb e below (T'.setTop g') t → Steps tb e below (T.setTop g) t) (k : ∃ s₂ o, Steps tb e below (T'.setTop g') s₂ ∧ P s₂ o) : ∃ s₂ o, Steps tb e below (T.setTop g) s₂ ∧ P s₂ o := by
  obtain ⟨s₂, o, h, r⟩ := k
  exact ⟨s₂, o, st _ h, r⟩
def own_sv (b : Int32) : Int32 := if (128 : Int32) < b then (if b < (161 : Int32) then (if b < (129 : Int32) then 65533 else if (159 : Int32) < b then 65533 else -1) else if (223 : Int32) < b then (if b < (224 : Int32) then 65533 else if (252 : Int32) < b then 65533 else -1) else 65216 + b) else b
def own_ev (b : Int32) : Int32 := if b < (129 : Int32) then b else if b = (160 : Int32) then 65533 else if (252 : Int32) < b then 65533 else if b < (161 : Int32) then -1 else if (223 : Int32) < b then -1 else b + 65216
theorem own_law (x : Int32) : own_sv (x &&& 255) = own_ev (x &&& 255) := by
  have h : (x &&& 255).toInt = x.toInt % (2 ^ 8 : Nat) := c_mask x 255 8 (by decide) (by decide)
  generalize x &&& 255 = b at h ⊢
  have h1 : 0 ≤ b.toInt := by omega
  have h2 : b.toInt < 256 := by omega
  clear h
  unfold own_sv own_ev
  simp only [Int32.lt_iff_toInt_lt, ← Int32.toInt_inj, Int32.reduceToInt]
  have hadd : (65216 : Int32) + b = b + 65216 := Int32.add_comm _ _
  rw [hadd]
  repeat' split
  all_goals first | (exfalso; omega) | rfl
theorem pn_2 : plainName "com/example/intent_to_crawl/intenttocrawl/encoding/DoubleByteDecoder" = true := by first | (simp [plainName, overriddenIn]; done) | decide +kernel
theorem ef_2 (m : MethodId) (x0 : Addr) : entryFrame m #[(.ref x0)] 1 = mkF m 0 #[.val (.ref x0)] [] := by first | (simp [entryFrame, mkF, argsToLocals, Value.category]; done) | rfl
def Q_rm2 (Z : State) (a1 : Addr) (h0 : Heap) (n0 : Nat) (v : Option Value) (h : Heap) (L : List Loc) : Prop := v = none ∧ Fr n0 L ∧ h = h0
theorem d2_0 : decode prog_12_method_1_code 0 = .ok (.aload_n 0, 1) := by decide +kernel
theorem d2_1 : decode prog_12_method_1_code 1 = .ok (.invokespecial 1, 3) := by decide +kernel
theorem d2_4 : decode prog_12_method_1_code 4 = .ok (.return_, 1) := by decide +kernel
set_option maxRecDepth 65536 in
set_option maxHeartbeats 40000000 in
theorem rm2 (l : Launch) (Z : State) (a0 : Array Value) (hw : ∀ d ∈ tables_1, d.before a0 Z = true) (ws : List Jvm.Cond) (a1 : Addr) (h0 : Heap) (n0 : Nat) (Z0 : n0 ≤ h0.size)  :
    MetFree l (⟨"com/example/intent_to_crawl/intenttocrawl/encoding/DoubleByteDecoder", "<init>", "()V"⟩ : MethodName) (head1 (Jvm.Cond.code (⟨"com/example/intent_to_crawl/intenttocrawl/encoding/DoubleByteDecoder", "<init>", "()V"⟩ : MethodName) prog_12_method_1_code 1 none :: ws) ({ frames := 1, cells := 0, slots := 0, locals := 12 } : Room)) (fun a U => a = #[(.ref a1)] ∧ Z.Warmed39 U.vm ∧ U.heap = h0) (fun _ _ _ _ _ => True) (fun _ U o U' => ∃ v L, o = .returned v ∧ Q_rm2 Z a1 h0 n0 v U'.heap L ∧ FrameEnd U o U' L ({ frames := 1, cells := 0, slots := 0, locals := 12 } : Room).cells ({ frames := 1, cells := 0, slots := 0, locals := 12 } : Room).slots) := by
  refine MetFree.of_bodySF (plainFor_of_name pn_2) hisR ?_
  intro p e s m args below meth c s₁ Bd hml0 hP hK
  obtain ⟨rfl, hZ, hh⟩ := hP
  have hx := Bd.exec
  have hby := Bd.bytes
  have hml : c.maxLocals = 1 := hml0
  have hown : s.vm.findClass "com/example/intent_to_crawl/intenttocrawl/encoding/DoubleByteDecoder" = some m.cls := findClass_of_methodNamed Bd.named
  have hnm := (name_of_methodNamed Bd.named Bd.method).1
  have X0 : Stand p l e ({ frames := 1, cells := 0, slots := 0, locals := 12 } : Room) s m #[(.ref a1)] below meth c s₁ [] 0 0 := Stand.of_body Bd
  have e0 : s₁.heap = h0 := by rw [← hh, Bd.state]; rfl
  have N0 := Fr.nil n0
  refine own_go (g' := (mkF m 0 #[.val (.ref a1)] [])) (fun t k => castTop (ef_2 m (a1)) k) ?_
  refine own_go (T' := s₁) (g' := (mkF m 1 #[.val (.ref a1)] [(.ref a1)])) (fun t kt => ?_) ?_
  · show Steps p.tables e below (s₁.setTop (mkF m 0 #[.val (.ref a1)] [])) t
    refine XS.aloadN X0.here hx rfl (hb hby d2_0) rfl rfl ?_
    exact kt
  obtain ⟨T1, X1, e1, st1⟩ := initO X0 hx hZ hown (hw _ (List.mem_of_getElem? (i := 11) rfl)) (hw _ (List.mem_of_getElem? (i := 12) rfl)) (hw _ (List.mem_of_getElem? (i := 13) rfl)) e0 (g := (mkF m 1 #[.val (.ref a1)] [(.ref a1)])) rfl (by rw [hml]; rfl) rfl (hb hby d2_1) (by decide) (W := 0) (by show 2 * 0 + _ ≤ _; exact Nat.le_of_eq rfl) (by decide)
  refine own_go (g' := (mkF m 4 #[.val (.ref a1)] [])) st1 ?_
  obtain ⟨fs, hr, hrun, hended, hW, hsame⟩ := X1.leave (v := none) (fun _ => rfl)
  refine ⟨_, _, ?_, hrun, hended, _, _, rfl, ?_, ⟨_, rfl⟩, hW, hsame.mono (by decide) (by decide)⟩
  · exact X1.returnOut hx Bd.returns (hb hby d2_4) hr
  · show Q_rm2 Z a1 h0 n0 _ T1.heap _
    rw [e1]
    exact ⟨rfl, N0, rfl⟩
theorem pn_1 : plainName "com/example/intent_to_crawl/intenttocrawl/encoding/ShiftJisDecoder" = true := by first | (simp [plainName, overriddenIn]; done) | decide +kernel
theorem ef_1 (m : MethodId) (x0 : Addr) : entryFrame m #[(.ref x0)] 1 = mkF m 0 #[.val (.ref x0)] [] := by first | (simp [entryFrame, mkF, argsToLocals, Value.category]; done) | rfl
def Q_rm1 (Z : State) (a1 : Addr) (h0 : Heap) (n0 : Nat) (v : Option Value) (h : Heap) (L : List Loc) : Prop := v = none ∧ Fr n0 L ∧ h = h0
theorem d1_0 : decode prog_24_method_1_code 0 = .ok (.aload_n 0, 1) := by decide +kernel
theorem d1_1 : decode prog_24_method_1_code 1 = .ok (.invokespecial 1, 3) := by decide +kernel
theorem pd_0 : parseMethodDescriptor "()V" = some ⟨[], none⟩ := by decide +kernel
theorem d1_4 : decode prog_24_method_1_code 4 = .ok (.return_, 1) := by decide +kernel
set_option maxRecDepth 65536 in
set_option maxHeartbeats 40000000 in
theorem rm1 (l : Launch) (Z : State) (a0 : Array Value) (hw : ∀ d ∈ tables_1, d.before a0 Z = true) (ws : List Jvm.Cond) (a1 : Addr) (h0 : Heap) (n0 : Nat) (Z0 : n0 ≤ h0.size)  :
    MetFree l (⟨"com/example/intent_to_crawl/intenttocrawl/encoding/ShiftJisDecoder", "<init>", "()V"⟩ : MethodName) (head1 (Jvm.Cond.code (⟨"com/example/intent_to_crawl/intenttocrawl/encoding/ShiftJisDecoder", "<init>", "()V"⟩ : MethodName) prog_24_method_1_code 1 none :: ws) ({ frames := 2, cells := 0, slots := 0, locals := 24 } : Room)) (fun a U => a = #[(.ref a1)] ∧ Z.Warmed39 U.vm ∧ U.heap = h0) (fun _ _ _ _ _ => True) (fun _ U o U' => ∃ v L, o = .returned v ∧ Q_rm1 Z a1 h0 n0 v U'.heap L ∧ FrameEnd U o U' L ({ frames := 2, cells := 0, slots := 0, locals := 24 } : Room).cells ({ frames := 2, cells := 0, slots := 0, locals := 24 } : Room).slots) := by
  refine MetFree.of_bodySF (plainFor_of_name pn_1) hisR ?_
  intro p e s m args below meth c s₁ Bd hml0 hP hK
  obtain ⟨rfl, hZ, hh⟩ := hP
  have hx := Bd.exec
  have hby := Bd.bytes
  have hml : c.maxLocals = 1 := hml0
  have hown : s.vm.findClass "com/example/intent_to_crawl/intenttocrawl/encoding/ShiftJisDecoder" = some m.cls := findClass_of_methodNamed Bd.named
  have hnm := (name_of_methodNamed Bd.named Bd.method).1
  have X0 : Stand p l e ({ frames := 2, cells := 0, slots := 0, locals := 24 } : Room) s m #[(.ref a1)] below meth c s₁ [] 0 0 := Stand.of_body Bd
  have e0 : s₁.heap = h0 := by rw [← hh, Bd.state]; rfl
  have N0 := Fr.nil n0
  refine own_go (g' := (mkF m 0 #[.val (.ref a1)] [])) (fun t k => castTop (ef_1 m (a1)) k) ?_
  refine own_go (T' := s₁) (g' := (mkF m 1 #[.val (.ref a1)] [(.ref a1)])) (fun t kt => ?_) ?_
  · show Steps p.tables e below (s₁.setTop (mkF m 0 #[.val (.ref a1)] [])) t
    refine XS.aloadN X0.here hx rfl (hb hby d1_0) rfl rfl ?_
    exact kt
  obtain ⟨_, _, ⟨T1, L1, k1, n1⟩, -, X1, ⟨Lc1, hQ1, l1, y1, z1⟩, st1⟩ := X0.specialBack hx (y := (⟨"com/example/intent_to_crawl/intenttocrawl/encoding/DoubleByteDecoder", "<init>", "()V"⟩ : MethodName)) rfl hown (mvT hZ (hw _ (List.mem_of_getElem? (i := 6) rfl))) (mvT hZ (hw _ (List.mem_of_getElem? (i := 7) rfl))) (mvT hZ (hw _ (List.mem_of_getElem? (i := 10) rfl))) (by decide) (backOf (W := 0) (rm2 l Z a0 hw [] (a1)  h0 n0 Z0 ) hZ (hw _ (List.mem_of_getElem? (i := 10) rfl)) (hw _ (List.mem_of_getElem? (i := 9) rfl)) (by decide) (by decide)) (g := (mkF m 1 #[.val (.ref a1)] [(.ref a1)])) rfl (by rw [hml]; rfl) (Steps.refl _) (a := a1) (argsL := []) (rest := []) (lenOf pd_0 rfl) rfl (by show 2 * 0 + _ ≤ _; exact Nat.le_of_eq rfl) (hb hby d1_1) (fun _ _ => ⟨rfl, e0, (by decide : 0 + 0 ≤ _), (by decide : 0 + 0 ≤ _)⟩)
  dsimp only [Pt.U, Pt.locs, Pt.cells, Pt.slots] at X1 l1 y1 z1 st1 hQ1
  subst l1 y1 z1
  obtain ⟨rfl, N1q, e1⟩ := hQ1
  have N1 := Fr.app N0 N1q
  refine own_go (g' := (mkF m 4 #[.val (.ref a1)] [])) (fun t kt => st1.trans kt) ?_
  obtain ⟨fs, hr, hrun, hended, hW, hsame⟩ := X1.leave (v := none) (fun _ => rfl)
  refine ⟨_, _, ?_, hrun, hended, _, _, rfl, ?_, ⟨_, rfl⟩, hW, hsame.mono (by decide) (by decide)⟩
  · exact X1.returnOut hx Bd.returns (hb hby d1_4) hr
  · show Q_rm1 Z a1 h0 n0 _ T1.heap _
    rw [e1]
    exact ⟨rfl, N1, rfl⟩
theorem pn_4 : plainName "com/example/intent_to_crawl/intenttocrawl/encoding/ShiftJisDecoder" = true := by first | (simp [plainName, overriddenIn]; done) | decide +kernel
theorem ef_4 (m : MethodId) (x0 : Addr) (x1 : Int32) : entryFrame m #[(.ref x0), (.int x1)] 2 = mkF m 0 #[.val (.ref x0), .val (.int x1)] [] := by first | (simp [entryFrame, mkF, argsToLocals, Value.category]; done) | rfl
def Q_rm4 (Z : State) (a1 : Addr) (p2 : Int32) (h0 : Heap) (n0 : Nat) (v : Option Value) (h : Heap) (L : List Loc) : Prop := v = some (.int (own_sv p2)) ∧ Fr n0 L ∧ h = h0
theorem d4_0 : decode prog_24_method_2_code 0 = .ok (.iload_n 1, 1) := by decide +kernel
theorem d4_1 : decode prog_24_method_2_code 1 = .ok (.sipush 128, 3) := by decide +kernel
theorem d4_4 : decode prog_24_method_2_code 4 = .ok (.if_icmp .gt 5, 3) := by decide +kernel
theorem d4_9 : decode prog_24_method_2_code 9 = .ok (.iload_n 1, 1) := by decide +kernel
theorem d4_10 : decode prog_24_method_2_code 10 = .ok (.sipush 161, 3) := by decide +kernel
theorem d4_13 : decode prog_24_method_2_code 13 = .ok (.if_icmp .lt 15, 3) := by decide +kernel
theorem d4_28 : decode prog_24_method_2_code 28 = .ok (.iload_n 1, 1) := by decide +kernel
theorem d4_29 : decode prog_24_method_2_code 29 = .ok (.sipush 129, 3) := by decide +kernel
theorem d4_32 : decode prog_24_method_2_code 32 = .ok (.if_icmp .lt 10, 3) := by decide +kernel
theorem d4_42 : decode prog_24_method_2_code 42 = .ok (.iload_n 1, 1) := by decide +kernel
theorem d4_43 : decode prog_24_method_2_code 43 = .ok (.sipush 224, 3) := by decide +kernel
theorem d4_46 : decode prog_24_method_2_code 46 = .ok (.if_icmp .lt 14, 3) := by decide +kernel
theorem d4_60 : decode prog_24_method_2_code 60 = .ok (.ldc 10, 2) := by decide +kernel
theorem d4_62 : decode prog_24_method_2_code 62 = .ok (.ireturn, 1) := by decide +kernel
theorem d4_49 : decode prog_24_method_2_code 49 = .ok (.iload_n 1, 1) := by decide +kernel
theorem d4_50 : decode prog_24_method_2_code 50 = .ok (.sipush 252, 3) := by decide +kernel
theorem d4_53 : decode prog_24_method_2_code 53 = .ok (.if_icmp .gt 7, 3) := by decide +kernel
theorem d4_56 : decode prog_24_method_2_code 56 = .ok (.iconst (-1), 1) := by decide +kernel
theorem d4_57 : decode prog_24_method_2_code 57 = .ok (.goto 5, 3) := by decide +kernel
theorem d4_35 : decode prog_24_method_2_code 35 = .ok (.iload_n 1, 1) := by decide +kernel
theorem d4_36 : decode prog_24_method_2_code 36 = .ok (.sipush 159, 3) := by decide +kernel
theorem d4_39 : decode prog_24_method_2_code 39 = .ok (.if_icmp .le 17, 3) := by decide +kernel
theorem d4_16 : decode prog_24_method_2_code 16 = .ok (.iload_n 1, 1) := by decide +kernel
theorem d4_17 : decode prog_24_method_2_code 17 = .ok (.sipush 223, 3) := by decide +kernel
theorem d4_20 : decode prog_24_method_2_code 20 = .ok (.if_icmp .gt 8, 3) := by decide +kernel
theorem d4_23 : decode prog_24_method_2_code 23 = .ok (.ldc 7, 2) := by decide +kernel
theorem d4_25 : decode prog_24_method_2_code 25 = .ok (.iload_n 1, 1) := by decide +kernel
theorem d4_26 : decode prog_24_method_2_code 26 = .ok (.iadd, 1) := by decide +kernel
theorem d4_27 : decode prog_24_method_2_code 27 = .ok (.ireturn, 1) := by decide +kernel
theorem d4_7 : decode prog_24_method_2_code 7 = .ok (.iload_n 1, 1) := by decide +kernel
theorem d4_8 : decode prog_24_method_2_code 8 = .ok (.ireturn, 1) := by decide +kernel
set_option maxRecDepth 65536 in
set_option maxHeartbeats 40000000 in
theorem rm4 (l : Launch) (Z : State) (a0 : Array Value) (hw : ∀ d ∈ tables_1, d.before a0 Z = true) (ws : List Jvm.Cond) (a1 : Addr) (p2 : Int32) (h0 : Heap) (n0 : Nat) (Z0 : n0 ≤ h0.size)  :
    MetFree l (⟨"com/example/intent_to_crawl/intenttocrawl/encoding/ShiftJisDecoder", "single", "(I)I"⟩ : MethodName) (head1 (Jvm.Cond.code (⟨"com/example/intent_to_crawl/intenttocrawl/encoding/ShiftJisDecoder", "single", "(I)I"⟩ : MethodName) prog_24_method_2_code 2 (some .int) :: ws) ({ frames := 0, cells := 0, slots := 0, locals := 0 } : Room)) (fun a U => a = #[(.ref a1), (.int p2)] ∧ Z.Warmed39 U.vm ∧ U.heap = h0) (fun _ _ _ _ _ => True) (fun _ U o U' => ∃ v L, o = .returned v ∧ Q_rm4 Z a1 p2 h0 n0 v U'.heap L ∧ FrameEnd U o U' L ({ frames := 0, cells := 0, slots := 0, locals := 0 } : Room).cells ({ frames := 0, cells := 0, slots := 0, locals := 0 } : Room).slots) := by
  refine MetFree.of_bodySF (plainFor_of_name pn_4) hisR ?_
  intro p e s m args below meth c s₁ Bd hml0 hP hK
  obtain ⟨rfl, hZ, hh⟩ := hP
  have hx := Bd.exec
  have hby := Bd.bytes
  have hml : c.maxLocals = 2 := hml0
  have hown : s.vm.findClass "com/example/intent_to_crawl/intenttocrawl/encoding/ShiftJisDecoder" = some m.cls := findClass_of_methodNamed Bd.named
  have hnm := (name_of_methodNamed Bd.named Bd.method).1
  have X0 : Stand p l e ({ frames := 0, cells := 0, slots := 0, locals := 0 } : Room) s m #[(.ref a1), (.int p2)] below meth c s₁ [] 0 0 := Stand.of_body Bd
  have e0 : s₁.heap = h0 := by rw [← hh, Bd.state]; rfl
  have N0 := Fr.nil n0
  refine own_go (g' := (mkF m 0 #[.val (.ref a1), .val (.int p2)] [])) (fun t k => castTop (ef_4 m (a1) (p2)) k) ?_
  refine own_go (T' := s₁) (g' := (mkF m 4 #[.val (.ref a1), .val (.int p2)] [(.int (128 : Int32)), (.int p2)])) (fun t kt => ?_) ?_
  · show Steps p.tables e below (s₁.setTop (mkF m 0 #[.val (.ref a1), .val (.int p2)] [])) t
    refine XS.iloadN X0.here hx rfl (hb hby d4_0) rfl ?_
    show Steps p.tables e below (s₁.setTop (mkF m 1 #[.val (.ref a1), .val (.int p2)] [(.int p2)])) t
    refine XS.sipush X0.here hx rfl (hb hby d4_1) ?_
    exact kt
  by_cases hc4 : (128 : Int32) < p2
  · refine own_go (T' := s₁) (g' := (mkF m 13 #[.val (.ref a1), .val (.int p2)] [(.int (161 : Int32)), (.int p2)])) (fun t kt => ?_) ?_
    · show Steps p.tables e below (s₁.setTop (mkF m 4 #[.val (.ref a1), .val (.int p2)] [(.int (128 : Int32)), (.int p2)])) t
      refine XS.icmpYes X0.here hx rfl (pc0 := 4) (pc' := 9) rfl (hb hby d4_4) rfl (tlt hc4).2.2.1 (by decide) (by decide) ?_
      show Steps p.tables e below (s₁.setTop (mkF m 9 #[.val (.ref a1), .val (.int p2)] [])) t
      refine XS.iloadN X0.here hx rfl (hb hby d4_9) rfl ?_
      show Steps p.tables e below (s₁.setTop (mkF m 10 #[.val (.ref a1), .val (.int p2)] [(.int p2)])) t
      refine XS.sipush X0.here hx rfl (hb hby d4_10) ?_
      exact kt
    by_cases hc13 : p2 < (161 : Int32)
    · refine own_go (T' := s₁) (g' := (mkF m 32 #[.val (.ref a1), .val (.int p2)] [(.int (129 : Int32)), (.int p2)])) (fun t kt => ?_) ?_
      · show Steps p.tables e below (s₁.setTop (mkF m 13 #[.val (.ref a1), .val (.int p2)] [(.int (161 : Int32)), (.int p2)])) t
        refine XS.icmpYes X0.here hx rfl (pc0 := 13) (pc' := 28) rfl (hb hby d4_13) rfl (tlt hc13).1 (by decide) (by decide) ?_
        show Steps p.tables e below (s₁.setTop (mkF m 28 #[.val (.ref a1), .val (.int p2)] [])) t
        refine XS.iloadN X0.here hx rfl (hb hby d4_28) rfl ?_
        show Steps p.tables e below (s₁.setTop (mkF m 29 #[.val (.ref a1), .val (.int p2)] [(.int p2)])) t
        refine XS.sipush X0.here hx rfl (hb hby d4_29) ?_
        exact kt
      by_cases hc32 : p2 < (129 : Int32)
      · refine own_go (T' := s₁) (g' := (mkF m 46 #[.val (.ref a1), .val (.int p2)] [(.int (224 : Int32)), (.int p2)])) (fun t kt => ?_) ?_
        · show Steps p.tables e below (s₁.setTop (mkF m 32 #[.val (.ref a1), .val (.int p2)] [(.int (129 : Int32)), (.int p2)])) t
          refine XS.icmpYes X0.here hx rfl (pc0 := 32) (pc' := 42) rfl (hb hby d4_32) rfl (tlt hc32).1 (by decide) (by decide) ?_
          show Steps p.tables e below (s₁.setTop (mkF m 42 #[.val (.ref a1), .val (.int p2)] [])) t
          refine XS.iloadN X0.here hx rfl (hb hby d4_42) rfl ?_
          show Steps p.tables e below (s₁.setTop (mkF m 43 #[.val (.ref a1), .val (.int p2)] [(.int p2)])) t
          refine XS.sipush X0.here hx rfl (hb hby d4_43) ?_
          exact kt
        by_cases hc46 : p2 < (224 : Int32)
        · refine own_go (T' := s₁) (g' := (mkF m 62 #[.val (.ref a1), .val (.int p2)] [(.int (65533 : Int32))])) (fun t kt => ?_) ?_
          · show Steps p.tables e below (s₁.setTop (mkF m 46 #[.val (.ref a1), .val (.int p2)] [(.int (224 : Int32)), (.int p2)])) t
            refine XS.icmpYes X0.here hx rfl (pc0 := 46) (pc' := 60) rfl (hb hby d4_46) rfl (tlt hc46).1 (by decide) (by decide) ?_
            show Steps p.tables e below (s₁.setTop (mkF m 60 #[.val (.ref a1), .val (.int p2)] [])) t
            refine X0.ldcInt hx hown (mvT hZ (hw _ (List.mem_of_getElem? (i := 25) rfl))) (g := (mkF m 60 #[.val (.ref a1), .val (.int p2)] [])) rfl (hb hby d4_60) _ ?_
            exact kt
          have hz : own_sv p2 = (65533 : Int32) := by
            simp only [own_sv]
            first | (simp [hc4, hc13, hc32, hc46]; done) | (simp only [Int32.lt_iff_toInt_lt, ← Int32.toInt_inj, Int32.reduceToInt] at *; repeat' split) <;> first | (exfalso; omega) | rfl
          obtain ⟨fs, hr, hrun, hended, hW, hsame⟩ := X0.leave (v := some (.int (65533 : Int32))) (fun h => by rw [Bd.returns] at h; cases h)
          refine ⟨_, _, ?_, hrun, hended, _, _, rfl, ?_, ⟨_, rfl⟩, hW, hsame.mono (by decide) (by decide)⟩
          · exact retI X0 hx Bd.returns (hb hby d4_62) hr
          · show Q_rm4 Z a1 p2 h0 n0 _ s₁.heap _
            rw [e0]
            exact ⟨congrArg (fun z => some (Value.int z)) hz.symm, N0, rfl⟩
        · refine own_go (T' := s₁) (g' := (mkF m 53 #[.val (.ref a1), .val (.int p2)] [(.int (252 : Int32)), (.int p2)])) (fun t kt => ?_) ?_
          · show Steps p.tables e below (s₁.setTop (mkF m 46 #[.val (.ref a1), .val (.int p2)] [(.int (224 : Int32)), (.int p2)])) t
            refine XS.icmpNo X0.here hx rfl (hb hby d4_46) rfl (flt hc46).1 ?_
            show Steps p.tables e below (s₁.setTop (mkF m 49 #[.val (.ref a1), .val (.int p2)] [])) t
            refine XS.iloadN X0.here hx rfl (hb hby d4_49) rfl ?_
            show Steps p.tables e below (s₁.setTop (mkF m 50 #[.val (.ref a1), .val (.int p2)] [(.int p2)])) t
            refine XS.sipush X0.here hx rfl (hb hby d4_50) ?_
            exact kt
          by_cases hc53 : (252 : Int32) < p2
          · refine own_go (T' := s₁) (g' := (mkF m 62 #[.val (.ref a1), .val (.int p2)] [(.int (65533 : Int32))])) (fun t kt => ?_) ?_
            · show Steps p.tables e below (s₁.setTop (mkF m 53 #[.val (.ref a1), .val (.int p2)] [(.int (252 : Int32)), (.int p2)])) t
              refine XS.icmpYes X0.here hx rfl (pc0 := 53) (pc' := 60) rfl (hb hby d4_53) rfl (tlt hc53).2.2.1 (by decide) (by decide) ?_
              show Steps p.tables e below (s₁.setTop (mkF m 60 #[.val (.ref a1), .val (.int p2)] [])) t
              refine X0.ldcInt hx hown (mvT hZ (hw _ (List.mem_of_getElem? (i := 25) rfl))) (g := (mkF m 60 #[.val (.ref a1), .val (.int p2)] [])) rfl (hb hby d4_60) _ ?_
              exact kt
            have hz : own_sv p2 = (65533 : Int32) := by
              simp only [own_sv]
              first | (simp [hc4, hc13, hc32, hc46, hc53]; done) | (simp only [Int32.lt_iff_toInt_lt, ← Int32.toInt_inj, Int32.reduceToInt] at *; repeat' split) <;> first | (exfalso; omega) | rfl
            obtain ⟨fs, hr, hrun, hended, hW, hsame⟩ := X0.leave (v := some (.int (65533 : Int32))) (fun h => by rw [Bd.returns] at h; cases h)
            refine ⟨_, _, ?_, hrun, hended, _, _, rfl, ?_, ⟨_, rfl⟩, hW, hsame.mono (by decide) (by decide)⟩
            · exact retI X0 hx Bd.returns (hb hby d4_62) hr
            · show Q_rm4 Z a1 p2 h0 n0 _ s₁.heap _
              rw [e0]
              exact ⟨congrArg (fun z => some (Value.int z)) hz.symm, N0, rfl⟩
          · refine own_go (T' := s₁) (g' := (mkF m 62 #[.val (.ref a1), .val (.int p2)] [(.int (-1 : Int32))])) (fun t kt => ?_) ?_
            · show Steps p.tables e below (s₁.setTop (mkF m 53 #[.val (.ref a1), .val (.int p2)] [(.int (252 : Int32)), (.int p2)])) t
              refine XS.icmpNo X0.here hx rfl (hb hby d4_53) rfl (flt hc53).2.2.1 ?_
              show Steps p.tables e below (s₁.setTop (mkF m 56 #[.val (.ref a1), .val (.int p2)] [])) t
              refine XS.iconst X0.here hx rfl (hb hby d4_56) ?_
              show Steps p.tables e below (s₁.setTop (mkF m 57 #[.val (.ref a1), .val (.int p2)] [(.int (-1 : Int32))])) t
              refine XS.goto X0.here hx rfl (pc0 := 57) (pc' := 62) rfl (hb hby d4_57) (by decide) (by decide) ?_
              exact kt
            have hz : own_sv p2 = (-1 : Int32) := by
              simp only [own_sv]
              first | (simp [hc4, hc13, hc32, hc46, hc53]; done) | (simp only [Int32.lt_iff_toInt_lt, ← Int32.toInt_inj, Int32.reduceToInt] at *; repeat' split) <;> first | (exfalso; omega) | rfl
            obtain ⟨fs, hr, hrun, hended, hW, hsame⟩ := X0.leave (v := some (.int (-1 : Int32))) (fun h => by rw [Bd.returns] at h; cases h)
            refine ⟨_, _, ?_, hrun, hended, _, _, rfl, ?_, ⟨_, rfl⟩, hW, hsame.mono (by decide) (by decide)⟩
            · exact retI X0 hx Bd.returns (hb hby d4_62) hr
            · show Q_rm4 Z a1 p2 h0 n0 _ s₁.heap _
              rw [e0]
              exact ⟨congrArg (fun z => some (Value.int z)) hz.symm, N0, rfl⟩
      · refine own_go (T' := s₁) (g' := (mkF m 39 #[.val (.ref a1), .val (.int p2)] [(.int (159 : Int32)), (.int p2)])) (fun t kt => ?_) ?_
        · show Steps p.tables e below (s₁.setTop (mkF m 32 #[.val (.ref a1), .val (.int p2)] [(.int (129 : Int32)), (.int p2)])) t
          refine XS.icmpNo X0.here hx rfl (hb hby d4_32) rfl (flt hc32).1 ?_
          show Steps p.tables e below (s₁.setTop (mkF m 35 #[.val (.ref a1), .val (.int p2)] [])) t
          refine XS.iloadN X0.here hx rfl (hb hby d4_35) rfl ?_
          show Steps p.tables e below (s₁.setTop (mkF m 36 #[.val (.ref a1), .val (.int p2)] [(.int p2)])) t
          refine XS.sipush X0.here hx rfl (hb hby d4_36) ?_
          exact kt
        by_cases hc39 : (159 : Int32) < p2
        · refine own_go (T' := s₁) (g' := (mkF m 46 #[.val (.ref a1), .val (.int p2)] [(.int (224 : Int32)), (.int p2)])) (fun t kt => ?_) ?_
          · show Steps p.tables e below (s₁.setTop (mkF m 39 #[.val (.ref a1), .val (.int p2)] [(.int (159 : Int32)), (.int p2)])) t
            refine XS.icmpNo X0.here hx rfl (hb hby d4_39) rfl (tlt hc39).2.2.2 ?_
            show Steps p.tables e below (s₁.setTop (mkF m 42 #[.val (.ref a1), .val (.int p2)] [])) t
            refine XS.iloadN X0.here hx rfl (hb hby d4_42) rfl ?_
            show Steps p.tables e below (s₁.setTop (mkF m 43 #[.val (.ref a1), .val (.int p2)] [(.int p2)])) t
            refine XS.sipush X0.here hx rfl (hb hby d4_43) ?_
            exact kt
          by_cases hc46 : p2 < (224 : Int32)
          · refine own_go (T' := s₁) (g' := (mkF m 62 #[.val (.ref a1), .val (.int p2)] [(.int (65533 : Int32))])) (fun t kt => ?_) ?_
            · show Steps p.tables e below (s₁.setTop (mkF m 46 #[.val (.ref a1), .val (.int p2)] [(.int (224 : Int32)), (.int p2)])) t
              refine XS.icmpYes X0.here hx rfl (pc0 := 46) (pc' := 60) rfl (hb hby d4_46) rfl (tlt hc46).1 (by decide) (by decide) ?_
              show Steps p.tables e below (s₁.setTop (mkF m 60 #[.val (.ref a1), .val (.int p2)] [])) t
              refine X0.ldcInt hx hown (mvT hZ (hw _ (List.mem_of_getElem? (i := 25) rfl))) (g := (mkF m 60 #[.val (.ref a1), .val (.int p2)] [])) rfl (hb hby d4_60) _ ?_
              exact kt
            have hz : own_sv p2 = (65533 : Int32) := by
              simp only [own_sv]
              first | (simp [hc4, hc13, hc32, hc39, hc46]; done) | (simp only [Int32.lt_iff_toInt_lt, ← Int32.toInt_inj, Int32.reduceToInt] at *; repeat' split) <;> first | (exfalso; omega) | rfl
            obtain ⟨fs, hr, hrun, hended, hW, hsame⟩ := X0.leave (v := some (.int (65533 : Int32))) (fun h => by rw [Bd.returns] at h; cases h)
            refine ⟨_, _, ?_, hrun, hended, _, _, rfl, ?_, ⟨_, rfl⟩, hW, hsame.mono (by decide) (by decide)⟩
            · exact retI X0 hx Bd.returns (hb hby d4_62) hr
            · show Q_rm4 Z a1 p2 h0 n0 _ s₁.heap _
              rw [e0]
              exact ⟨congrArg (fun z => some (Value.int z)) hz.symm, N0, rfl⟩
          · refine own_go (T' := s₁) (g' := (mkF m 53 #[.val (.ref a1), .val (.int p2)] [(.int (252 : Int32)), (.int p2)])) (fun t kt => ?_) ?_
            · show Steps p.tables e below (s₁.setTop (mkF m 46 #[.val (.ref a1), .val (.int p2)] [(.int (224 : Int32)), (.int p2)])) t
              refine XS.icmpNo X0.here hx rfl (hb hby d4_46) rfl (flt hc46).1 ?_
              show Steps p.tables e below (s₁.setTop (mkF m 49 #[.val (.ref a1), .val (.int p2)] [])) t
              refine XS.iloadN X0.here hx rfl (hb hby d4_49) rfl ?_
              show Steps p.tables e below (s₁.setTop (mkF m 50 #[.val (.ref a1), .val (.int p2)] [(.int p2)])) t
              refine XS.sipush X0.here hx rfl (hb hby d4_50) ?_
              exact kt
            by_cases hc53 : (252 : Int32) < p2
            · refine own_go (T' := s₁) (g' := (mkF m 62 #[.val (.ref a1), .val (.int p2)] [(.int (65533 : Int32))])) (fun t kt => ?_) ?_
              · show Steps p.tables e below (s₁.setTop (mkF m 53 #[.val (.ref a1), .val (.int p2)] [(.int (252 : Int32)), (.int p2)])) t
                refine XS.icmpYes X0.here hx rfl (pc0 := 53) (pc' := 60) rfl (hb hby d4_53) rfl (tlt hc53).2.2.1 (by decide) (by decide) ?_
                show Steps p.tables e below (s₁.setTop (mkF m 60 #[.val (.ref a1), .val (.int p2)] [])) t
                refine X0.ldcInt hx hown (mvT hZ (hw _ (List.mem_of_getElem? (i := 25) rfl))) (g := (mkF m 60 #[.val (.ref a1), .val (.int p2)] [])) rfl (hb hby d4_60) _ ?_
                exact kt
              have hz : own_sv p2 = (65533 : Int32) := by
                simp only [own_sv]
                first | (simp [hc4, hc13, hc32, hc39, hc46, hc53]; done) | (simp only [Int32.lt_iff_toInt_lt, ← Int32.toInt_inj, Int32.reduceToInt] at *; repeat' split) <;> first | (exfalso; omega) | rfl
              obtain ⟨fs, hr, hrun, hended, hW, hsame⟩ := X0.leave (v := some (.int (65533 : Int32))) (fun h => by rw [Bd.returns] at h; cases h)
              refine ⟨_, _, ?_, hrun, hended, _, _, rfl, ?_, ⟨_, rfl⟩, hW, hsame.mono (by decide) (by decide)⟩
              · exact retI X0 hx Bd.returns (hb hby d4_62) hr
              · show Q_rm4 Z a1 p2 h0 n0 _ s₁.heap _
                rw [e0]
                exact ⟨congrArg (fun z => some (Value.int z)) hz.symm, N0, rfl⟩
            · refine own_go (T' := s₁) (g' := (mkF m 62 #[.val (.ref a1), .val (.int p2)] [(.int (-1 : Int32))])) (fun t kt => ?_) ?_
              · show Steps p.tables e below (s₁.setTop (mkF m 53 #[.val (.ref a1), .val (.int p2)] [(.int (252 : Int32)), (.int p2)])) t
                refine XS.icmpNo X0.here hx rfl (hb hby d4_53) rfl (flt hc53).2.2.1 ?_
                show Steps p.tables e below (s₁.setTop (mkF m 56 #[.val (.ref a1), .val (.int p2)] [])) t
                refine XS.iconst X0.here hx rfl (hb hby d4_56) ?_
                show Steps p.tables e below (s₁.setTop (mkF m 57 #[.val (.ref a1), .val (.int p2)] [(.int (-1 : Int32))])) t
                refine XS.goto X0.here hx rfl (pc0 := 57) (pc' := 62) rfl (hb hby d4_57) (by decide) (by decide) ?_
                exact kt
              have hz : own_sv p2 = (-1 : Int32) := by
                simp only [own_sv]
                first | (simp [hc4, hc13, hc32, hc39, hc46, hc53]; done) | (simp only [Int32.lt_iff_toInt_lt, ← Int32.toInt_inj, Int32.reduceToInt] at *; repeat' split) <;> first | (exfalso; omega) | rfl
              obtain ⟨fs, hr, hrun, hended, hW, hsame⟩ := X0.leave (v := some (.int (-1 : Int32))) (fun h => by rw [Bd.returns] at h; cases h)
              refine ⟨_, _, ?_, hrun, hended, _, _, rfl, ?_, ⟨_, rfl⟩, hW, hsame.mono (by decide) (by decide)⟩
              · exact retI X0 hx Bd.returns (hb hby d4_62) hr
              · show Q_rm4 Z a1 p2 h0 n0 _ s₁.heap _
                rw [e0]
                exact ⟨congrArg (fun z => some (Value.int z)) hz.symm, N0, rfl⟩
        · refine own_go (T' := s₁) (g' := (mkF m 62 #[.val (.ref a1), .val (.int p2)] [(.int (-1 : Int32))])) (fun t kt => ?_) ?_
          · show Steps p.tables e below (s₁.setTop (mkF m 39 #[.val (.ref a1), .val (.int p2)] [(.int (159 : Int32)), (.int p2)])) t
            refine XS.icmpYes X0.here hx rfl (pc0 := 39) (pc' := 56) rfl (hb hby d4_39) rfl (flt hc39).2.2.2 (by decide) (by decide) ?_
            show Steps p.tables e below (s₁.setTop (mkF m 56 #[.val (.ref a1), .val (.int p2)] [])) t
            refine XS.iconst X0.here hx rfl (hb hby d4_56) ?_
            show Steps p.tables e below (s₁.setTop (mkF m 57 #[.val (.ref a1), .val (.int p2)] [(.int (-1 : Int32))])) t
            refine XS.goto X0.here hx rfl (pc0 := 57) (pc' := 62) rfl (hb hby d4_57) (by decide) (by decide) ?_
            exact kt
          have hz : own_sv p2 = (-1 : Int32) := by
            simp only [own_sv]
            first | (simp [hc4, hc13, hc32, hc39]; done) | (simp only [Int32.lt_iff_toInt_lt, ← Int32.toInt_inj, Int32.reduceToInt] at *; repeat' split) <;> first | (exfalso; omega) | rfl
          obtain ⟨fs, hr, hrun, hended, hW, hsame⟩ := X0.leave (v := some (.int (-1 : Int32))) (fun h => by rw [Bd.returns] at h; cases h)
          refine ⟨_, _, ?_, hrun, hended, _, _, rfl, ?_, ⟨_, rfl⟩, hW, hsame.mono (by decide) (by decide)⟩
          · exact retI X0 hx Bd.returns (hb hby d4_62) hr
          · show Q_rm4 Z a1 p2 h0 n0 _ s₁.heap _
            rw [e0]
            exact ⟨congrArg (fun z => some (Value.int z)) hz.symm, N0, rfl⟩
    · refine own_go (T' := s₁) (g' := (mkF m 20 #[.val (.ref a1), .val (.int p2)] [(.int (223 : Int32)), (.int p2)])) (fun t kt => ?_) ?_
      · show Steps p.tables e below (s₁.setTop (mkF m 13 #[.val (.ref a1), .val (.int p2)] [(.int (161 : Int32)), (.int p2)])) t
        refine XS.icmpNo X0.here hx rfl (hb hby d4_13) rfl (flt hc13).1 ?_
        show Steps p.tables e below (s₁.setTop (mkF m 16 #[.val (.ref a1), .val (.int p2)] [])) t
        refine XS.iloadN X0.here hx rfl (hb hby d4_16) rfl ?_
        show Steps p.tables e below (s₁.setTop (mkF m 17 #[.val (.ref a1), .val (.int p2)] [(.int p2)])) t
        refine XS.sipush X0.here hx rfl (hb hby d4_17) ?_
        exact kt
      by_cases hc20 : (223 : Int32) < p2
      · refine own_go (T' := s₁) (g' := (mkF m 32 #[.val (.ref a1), .val (.int p2)] [(.int (129 : Int32)), (.int p2)])) (fun t kt => ?_) ?_
        · show Steps p.tables e below (s₁.setTop (mkF m 20 #[.val (.ref a1), .val (.int p2)] [(.int (223 : Int32)), (.int p2)])) t
          refine XS.icmpYes X0.here hx rfl (pc0 := 20) (pc' := 28) rfl (hb hby d4_20) rfl (tlt hc20).2.2.1 (by decide) (by decide) ?_
          show Steps p.tables e below (s₁.setTop (mkF m 28 #[.val (.ref a1), .val (.int p2)] [])) t
          refine XS.iloadN X0.here hx rfl (hb hby d4_28) rfl ?_
          show Steps p.tables e below (s₁.setTop (mkF m 29 #[.val (.ref a1), .val (.int p2)] [(.int p2)])) t
          refine XS.sipush X0.here hx rfl (hb hby d4_29) ?_
          exact kt
        by_cases hc32 : p2 < (129 : Int32)
        · refine own_go (T' := s₁) (g' := (mkF m 46 #[.val (.ref a1), .val (.int p2)] [(.int (224 : Int32)), (.int p2)])) (fun t kt => ?_) ?_
          · show Steps p.tables e below (s₁.setTop (mkF m 32 #[.val (.ref a1), .val (.int p2)] [(.int (129 : Int32)), (.int p2)])) t
            refine XS.icmpYes X0.here hx rfl (pc0 := 32) (pc' := 42) rfl (hb hby d4_32) rfl (tlt hc32).1 (by decide) (by decide) ?_
            show Steps p.tables e below (s₁.setTop (mkF m 42 #[.val (.ref a1), .val (.int p2)] [])) t
            refine XS.iloadN X0.here hx rfl (hb hby d4_42) rfl ?_
            show Steps p.tables e below (s₁.setTop (mkF m 43 #[.val (.ref a1), .val (.int p2)] [(.int p2)])) t
            refine XS.sipush X0.here hx rfl (hb hby d4_43) ?_
            exact kt
          by_cases hc46 : p2 < (224 : Int32)
          · refine own_go (T' := s₁) (g' := (mkF m 62 #[.val (.ref a1), .val (.int p2)] [(.int (65533 : Int32))])) (fun t kt => ?_) ?_
            · show Steps p.tables e below (s₁.setTop (mkF m 46 #[.val (.ref a1), .val (.int p2)] [(.int (224 : Int32)), (.int p2)])) t
              refine XS.icmpYes X0.here hx rfl (pc0 := 46) (pc' := 60) rfl (hb hby d4_46) rfl (tlt hc46).1 (by decide) (by decide) ?_
              show Steps p.tables e below (s₁.setTop (mkF m 60 #[.val (.ref a1), .val (.int p2)] [])) t
              refine X0.ldcInt hx hown (mvT hZ (hw _ (List.mem_of_getElem? (i := 25) rfl))) (g := (mkF m 60 #[.val (.ref a1), .val (.int p2)] [])) rfl (hb hby d4_60) _ ?_
              exact kt
            have hz : own_sv p2 = (65533 : Int32) := by
              simp only [own_sv]
              first | (simp [hc4, hc13, hc20, hc32, hc46]; done) | (simp only [Int32.lt_iff_toInt_lt, ← Int32.toInt_inj, Int32.reduceToInt] at *; repeat' split) <;> first | (exfalso; omega) | rfl
            obtain ⟨fs, hr, hrun, hended, hW, hsame⟩ := X0.leave (v := some (.int (65533 : Int32))) (fun h => by rw [Bd.returns] at h; cases h)
            refine ⟨_, _, ?_, hrun, hended, _, _, rfl, ?_, ⟨_, rfl⟩, hW, hsame.mono (by decide) (by decide)⟩
            · exact retI X0 hx Bd.returns (hb hby d4_62) hr
            · show Q_rm4 Z a1 p2 h0 n0 _ s₁.heap _
              rw [e0]
              exact ⟨congrArg (fun z => some (Value.int z)) hz.symm, N0, rfl⟩
          · refine own_go (T' := s₁) (g' := (mkF m 53 #[.val (.ref a1), .val (.int p2)] [(.int (252 : Int32)), (.int p2)])) (fun t kt => ?_) ?_
            · show Steps p.tables e below (s₁.setTop (mkF m 46 #[.val (.ref a1), .val (.int p2)] [(.int (224 : Int32)), (.int p2)])) t
              refine XS.icmpNo X0.here hx rfl (hb hby d4_46) rfl (flt hc46).1 ?_
              show Steps p.tables e below (s₁.setTop (mkF m 49 #[.val (.ref a1), .val (.int p2)] [])) t
              refine XS.iloadN X0.here hx rfl (hb hby d4_49) rfl ?_
              show Steps p.tables e below (s₁.setTop (mkF m 50 #[.val (.ref a1), .val (.int p2)] [(.int p2)])) t
              refine XS.sipush X0.here hx rfl (hb hby d4_50) ?_
              exact kt
            by_cases hc53 : (252 : Int32) < p2
            · refine own_go (T' := s₁) (g' := (mkF m 62 #[.val (.ref a1), .val (.int p2)] [(.int (65533 : Int32))])) (fun t kt => ?_) ?_
              · show Steps p.tables e below (s₁.setTop (mkF m 53 #[.val (.ref a1), .val (.int p2)] [(.int (252 : Int32)), (.int p2)])) t
                refine XS.icmpYes X0.here hx rfl (pc0 := 53) (pc' := 60) rfl (hb hby d4_53) rfl (tlt hc53).2.2.1 (by decide) (by decide) ?_
                show Steps p.tables e below (s₁.setTop (mkF m 60 #[.val (.ref a1), .val (.int p2)] [])) t
                refine X0.ldcInt hx hown (mvT hZ (hw _ (List.mem_of_getElem? (i := 25) rfl))) (g := (mkF m 60 #[.val (.ref a1), .val (.int p2)] [])) rfl (hb hby d4_60) _ ?_
                exact kt
              have hz : own_sv p2 = (65533 : Int32) := by
                simp only [own_sv]
                first | (simp [hc4, hc13, hc20, hc32, hc46, hc53]; done) | (simp only [Int32.lt_iff_toInt_lt, ← Int32.toInt_inj, Int32.reduceToInt] at *; repeat' split) <;> first | (exfalso; omega) | rfl
              obtain ⟨fs, hr, hrun, hended, hW, hsame⟩ := X0.leave (v := some (.int (65533 : Int32))) (fun h => by rw [Bd.returns] at h; cases h)
              refine ⟨_, _, ?_, hrun, hended, _, _, rfl, ?_, ⟨_, rfl⟩, hW, hsame.mono (by decide) (by decide)⟩
              · exact retI X0 hx Bd.returns (hb hby d4_62) hr
              · show Q_rm4 Z a1 p2 h0 n0 _ s₁.heap _
                rw [e0]
                exact ⟨congrArg (fun z => some (Value.int z)) hz.symm, N0, rfl⟩
            · refine own_go (T' := s₁) (g' := (mkF m 62 #[.val (.ref a1), .val (.int p2)] [(.int (-1 : Int32))])) (fun t kt => ?_) ?_
              · show Steps p.tables e below (s₁.setTop (mkF m 53 #[.val (.ref a1), .val (.int p2)] [(.int (252 : Int32)), (.int p2)])) t
                refine XS.icmpNo X0.here hx rfl (hb hby d4_53) rfl (flt hc53).2.2.1 ?_
                show Steps p.tables e below (s₁.setTop (mkF m 56 #[.val (.ref a1), .val (.int p2)] [])) t
                refine XS.iconst X0.here hx rfl (hb hby d4_56) ?_
                show Steps p.tables e below (s₁.setTop (mkF m 57 #[.val (.ref a1), .val (.int p2)] [(.int (-1 : Int32))])) t
                refine XS.goto X0.here hx rfl (pc0 := 57) (pc' := 62) rfl (hb hby d4_57) (by decide) (by decide) ?_
                exact kt
              have hz : own_sv p2 = (-1 : Int32) := by
                simp only [own_sv]
                first | (simp [hc4, hc13, hc20, hc32, hc46, hc53]; done) | (simp only [Int32.lt_iff_toInt_lt, ← Int32.toInt_inj, Int32.reduceToInt] at *; repeat' split) <;> first | (exfalso; omega) | rfl
              obtain ⟨fs, hr, hrun, hended, hW, hsame⟩ := X0.leave (v := some (.int (-1 : Int32))) (fun h => by rw [Bd.returns] at h; cases h)
              refine ⟨_, _, ?_, hrun, hended, _, _, rfl, ?_, ⟨_, rfl⟩, hW, hsame.mono (by decide) (by decide)⟩
              · exact retI X0 hx Bd.returns (hb hby d4_62) hr
              · show Q_rm4 Z a1 p2 h0 n0 _ s₁.heap _
                rw [e0]
                exact ⟨congrArg (fun z => some (Value.int z)) hz.symm, N0, rfl⟩
        · refine own_go (T' := s₁) (g' := (mkF m 39 #[.val (.ref a1), .val (.int p2)] [(.int (159 : Int32)), (.int p2)])) (fun t kt => ?_) ?_
          · show Steps p.tables e below (s₁.setTop (mkF m 32 #[.val (.ref a1), .val (.int p2)] [(.int (129 : Int32)), (.int p2)])) t
            refine XS.icmpNo X0.here hx rfl (hb hby d4_32) rfl (flt hc32).1 ?_
            show Steps p.tables e below (s₁.setTop (mkF m 35 #[.val (.ref a1), .val (.int p2)] [])) t
            refine XS.iloadN X0.here hx rfl (hb hby d4_35) rfl ?_
            show Steps p.tables e below (s₁.setTop (mkF m 36 #[.val (.ref a1), .val (.int p2)] [(.int p2)])) t
            refine XS.sipush X0.here hx rfl (hb hby d4_36) ?_
            exact kt
          by_cases hc39 : (159 : Int32) < p2
          · refine own_go (T' := s₁) (g' := (mkF m 46 #[.val (.ref a1), .val (.int p2)] [(.int (224 : Int32)), (.int p2)])) (fun t kt => ?_) ?_
            · show Steps p.tables e below (s₁.setTop (mkF m 39 #[.val (.ref a1), .val (.int p2)] [(.int (159 : Int32)), (.int p2)])) t
              refine XS.icmpNo X0.here hx rfl (hb hby d4_39) rfl (tlt hc39).2.2.2 ?_
              show Steps p.tables e below (s₁.setTop (mkF m 42 #[.val (.ref a1), .val (.int p2)] [])) t
              refine XS.iloadN X0.here hx rfl (hb hby d4_42) rfl ?_
              show Steps p.tables e below (s₁.setTop (mkF m 43 #[.val (.ref a1), .val (.int p2)] [(.int p2)])) t
              refine XS.sipush X0.here hx rfl (hb hby d4_43) ?_
              exact kt
            by_cases hc46 : p2 < (224 : Int32)
            · refine own_go (T' := s₁) (g' := (mkF m 62 #[.val (.ref a1), .val (.int p2)] [(.int (65533 : Int32))])) (fun t kt => ?_) ?_
              · show Steps p.tables e below (s₁.setTop (mkF m 46 #[.val (.ref a1), .val (.int p2)] [(.int (224 : Int32)), (.int p2)])) t
                refine XS.icmpYes X0.here hx rfl (pc0 := 46) (pc' := 60) rfl (hb hby d4_46) rfl (tlt hc46).1 (by decide) (by decide) ?_
                show Steps p.tables e below (s₁.setTop (mkF m 60 #[.val (.ref a1), .val (.int p2)] [])) t
                refine X0.ldcInt hx hown (mvT hZ (hw _ (List.mem_of_getElem? (i := 25) rfl))) (g := (mkF m 60 #[.val (.ref a1), .val (.int p2)] [])) rfl (hb hby d4_60) _ ?_
                exact kt
              have hz : own_sv p2 = (65533 : Int32) := by
                simp only [own_sv]
                first | (simp [hc4, hc13, hc20, hc32, hc39, hc46]; done) | (simp only [Int32.lt_iff_toInt_lt, ← Int32.toInt_inj, Int32.reduceToInt] at *; repeat' split) <;> first | (exfalso; omega) | rfl
              obtain ⟨fs, hr, hrun, hended, hW, hsame⟩ := X0.leave (v := some (.int (65533 : Int32))) (fun h => by rw [Bd.returns] at h; cases h)
              refine ⟨_, _, ?_, hrun, hended, _, _, rfl, ?_, ⟨_, rfl⟩, hW, hsame.mono (by decide) (by decide)⟩
              · exact retI X0 hx Bd.returns (hb hby d4_62) hr
              · show Q_rm4 Z a1 p2 h0 n0 _ s₁.heap _
                rw [e0]
                exact ⟨congrArg (fun z => some (Value.int z)) hz.symm, N0, rfl⟩
            · refine own_go (T' := s₁) (g' := (mkF m 53 #[.val (.ref a1), .val (.int p2)] [(.int (252 : Int32)), (.int p2)])) (fun t kt => ?_) ?_
              · show Steps p.tables e below (s₁.setTop (mkF m 46 #[.val (.ref a1), .val (.int p2)] [(.int (224 : Int32)), (.int p2)])) t
                refine XS.icmpNo X0.here hx rfl (hb hby d4_46) rfl (flt hc46).1 ?_
                show Steps p.tables e below (s₁.setTop (mkF m 49 #[.val (.ref a1), .val (.int p2)] [])) t
                refine XS.iloadN X0.here hx rfl (hb hby d4_49) rfl ?_
                show Steps p.tables e below (s₁.setTop (mkF m 50 #[.val (.ref a1), .val (.int p2)] [(.int p2)])) t
                refine XS.sipush X0.here hx rfl (hb hby d4_50) ?_
                exact kt
              by_cases hc53 : (252 : Int32) < p2
              · refine own_go (T' := s₁) (g' := (mkF m 62 #[.val (.ref a1), .val (.int p2)] [(.int (65533 : Int32))])) (fun t kt => ?_) ?_
                · show Steps p.tables e below (s₁.setTop (mkF m 53 #[.val (.ref a1), .val (.int p2)] [(.int (252 : Int32)), (.int p2)])) t
                  refine XS.icmpYes X0.here hx rfl (pc0 := 53) (pc' := 60) rfl (hb hby d4_53) rfl (tlt hc53).2.2.1 (by decide) (by decide) ?_
                  show Steps p.tables e below (s₁.setTop (mkF m 60 #[.val (.ref a1), .val (.int p2)] [])) t
                  refine X0.ldcInt hx hown (mvT hZ (hw _ (List.mem_of_getElem? (i := 25) rfl))) (g := (mkF m 60 #[.val (.ref a1), .val (.int p2)] [])) rfl (hb hby d4_60) _ ?_
                  exact kt
                have hz : own_sv p2 = (65533 : Int32) := by
                  simp only [own_sv]
                  first | (simp [hc4, hc13, hc20, hc32, hc39, hc46, hc53]; done) | (simp only [Int32.lt_iff_toInt_lt, ← Int32.toInt_inj, Int32.reduceToInt] at *; repeat' split) <;> first | (exfalso; omega) | rfl
                obtain ⟨fs, hr, hrun, hended, hW, hsame⟩ := X0.leave (v := some (.int (65533 : Int32))) (fun h => by rw [Bd.returns] at h; cases h)
                refine ⟨_, _, ?_, hrun, hended, _, _, rfl, ?_, ⟨_, rfl⟩, hW, hsame.mono (by decide) (by decide)⟩
                · exact retI X0 hx Bd.returns (hb hby d4_62) hr
                · show Q_rm4 Z a1 p2 h0 n0 _ s₁.heap _
                  rw [e0]
                  exact ⟨congrArg (fun z => some (Value.int z)) hz.symm, N0, rfl⟩
              · refine own_go (T' := s₁) (g' := (mkF m 62 #[.val (.ref a1), .val (.int p2)] [(.int (-1 : Int32))])) (fun t kt => ?_) ?_
                · show Steps p.tables e below (s₁.setTop (mkF m 53 #[.val (.ref a1), .val (.int p2)] [(.int (252 : Int32)), (.int p2)])) t
                  refine XS.icmpNo X0.here hx rfl (hb hby d4_53) rfl (flt hc53).2.2.1 ?_
                  show Steps p.tables e below (s₁.setTop (mkF m 56 #[.val (.ref a1), .val (.int p2)] [])) t
                  refine XS.iconst X0.here hx rfl (hb hby d4_56) ?_
                  show Steps p.tables e below (s₁.setTop (mkF m 57 #[.val (.ref a1), .val (.int p2)] [(.int (-1 : Int32))])) t
                  refine XS.goto X0.here hx rfl (pc0 := 57) (pc' := 62) rfl (hb hby d4_57) (by decide) (by decide) ?_
                  exact kt
                have hz : own_sv p2 = (-1 : Int32) := by
                  simp only [own_sv]
                  first | (simp [hc4, hc13, hc20, hc32, hc39, hc46, hc53]; done) | (simp only [Int32.lt_iff_toInt_lt, ← Int32.toInt_inj, Int32.reduceToInt] at *; repeat' split) <;> first | (exfalso; omega) | rfl
                obtain ⟨fs, hr, hrun, hended, hW, hsame⟩ := X0.leave (v := some (.int (-1 : Int32))) (fun h => by rw [Bd.returns] at h; cases h)
                refine ⟨_, _, ?_, hrun, hended, _, _, rfl, ?_, ⟨_, rfl⟩, hW, hsame.mono (by decide) (by decide)⟩
                · exact retI X0 hx Bd.returns (hb hby d4_62) hr
                · show Q_rm4 Z a1 p2 h0 n0 _ s₁.heap _
                  rw [e0]
                  exact ⟨congrArg (fun z => some (Value.int z)) hz.symm, N0, rfl⟩
          · refine own_go (T' := s₁) (g' := (mkF m 62 #[.val (.ref a1), .val (.int p2)] [(.int (-1 : Int32))])) (fun t kt => ?_) ?_
            · show Steps p.tables e below (s₁.setTop (mkF m 39 #[.val (.ref a1), .val (.int p2)] [(.int (159 : Int32)), (.int p2)])) t
              refine XS.icmpYes X0.here hx rfl (pc0 := 39) (pc' := 56) rfl (hb hby d4_39) rfl (flt hc39).2.2.2 (by decide) (by decide) ?_
              show Steps p.tables e below (s₁.setTop (mkF m 56 #[.val (.ref a1), .val (.int p2)] [])) t
              refine XS.iconst X0.here hx rfl (hb hby d4_56) ?_
              show Steps p.tables e below (s₁.setTop (mkF m 57 #[.val (.ref a1), .val (.int p2)] [(.int (-1 : Int32))])) t
              refine XS.goto X0.here hx rfl (pc0 := 57) (pc' := 62) rfl (hb hby d4_57) (by decide) (by decide) ?_
              exact kt
            have hz : own_sv p2 = (-1 : Int32) := by
              simp only [own_sv]
              first | (simp [hc4, hc13, hc20, hc32, hc39]; done) | (simp only [Int32.lt_iff_toInt_lt, ← Int32.toInt_inj, Int32.reduceToInt] at *; repeat' split) <;> first | (exfalso; omega) | rfl
            obtain ⟨fs, hr, hrun, hended, hW, hsame⟩ := X0.leave (v := some (.int (-1 : Int32))) (fun h => by rw [Bd.returns] at h; cases h)
            refine ⟨_, _, ?_, hrun, hended, _, _, rfl, ?_, ⟨_, rfl⟩, hW, hsame.mono (by decide) (by decide)⟩
            · exact retI X0 hx Bd.returns (hb hby d4_62) hr
            · show Q_rm4 Z a1 p2 h0 n0 _ s₁.heap _
              rw [e0]
              exact ⟨congrArg (fun z => some (Value.int z)) hz.symm, N0, rfl⟩
      · refine own_go (T' := s₁) (g' := (mkF m 27 #[.val (.ref a1), .val (.int p2)] [(.int ((65216 : Int32) + p2))])) (fun t kt => ?_) ?_
        · show Steps p.tables e below (s₁.setTop (mkF m 20 #[.val (.ref a1), .val (.int p2)] [(.int (223 : Int32)), (.int p2)])) t
          refine XS.icmpNo X0.here hx rfl (hb hby d4_20) rfl (flt hc20).2.2.1 ?_
          show Steps p.tables e below (s₁.setTop (mkF m 23 #[.val (.ref a1), .val (.int p2)] [])) t
          refine X0.ldcInt hx hown (mvT hZ (hw _ (List.mem_of_getElem? (i := 23) rfl))) (g := (mkF m 23 #[.val (.ref a1), .val (.int p2)] [])) rfl (hb hby d4_23) _ ?_
          show Steps p.tables e below (s₁.setTop (mkF m 25 #[.val (.ref a1), .val (.int p2)] [(.int (65216 : Int32))])) t
          refine XS.iloadN X0.here hx rfl (hb hby d4_25) rfl ?_
          show Steps p.tables e below (s₁.setTop (mkF m 26 #[.val (.ref a1), .val (.int p2)] [(.int p2), (.int (65216 : Int32))])) t
          refine XS.iadd X0.here hx rfl (hb hby d4_26) rfl ?_
          exact kt
        have hz : own_sv p2 = ((65216 : Int32) + p2) := by
          simp only [own_sv]
          first | (simp [hc4, hc13, hc20]; done) | (simp only [Int32.lt_iff_toInt_lt, ← Int32.toInt_inj, Int32.reduceToInt] at *; repeat' split) <;> first | (exfalso; omega) | rfl
        obtain ⟨fs, hr, hrun, hended, hW, hsame⟩ := X0.leave (v := some (.int ((65216 : Int32) + p2))) (fun h => by rw [Bd.returns] at h; cases h)
        refine ⟨_, _, ?_, hrun, hended, _, _, rfl, ?_, ⟨_, rfl⟩, hW, hsame.mono (by decide) (by decide)⟩
        · exact retI X0 hx Bd.returns (hb hby d4_27) hr
        · show Q_rm4 Z a1 p2 h0 n0 _ s₁.heap _
          rw [e0]
          exact ⟨congrArg (fun z => some (Value.int z)) hz.symm, N0, rfl⟩
  · refine own_go (T' := s₁) (g' := (mkF m 8 #[.val (.ref a1), .val (.int p2)] [(.int p2)])) (fun t kt => ?_) ?_
    · show Steps p.tables e below (s₁.setTop (mkF m 4 #[.val (.ref a1), .val (.int p2)] [(.int (128 : Int32)), (.int p2)])) t
      refine XS.icmpNo X0.here hx rfl (hb hby d4_4) rfl (flt hc4).2.2.1 ?_
      show Steps p.tables e below (s₁.setTop (mkF m 7 #[.val (.ref a1), .val (.int p2)] [])) t
      refine XS.iloadN X0.here hx rfl (hb hby d4_7) rfl ?_
      exact kt
    have hz : own_sv p2 = p2 := by
      simp only [own_sv]
      first | (simp [hc4]; done) | (simp only [Int32.lt_iff_toInt_lt, ← Int32.toInt_inj, Int32.reduceToInt] at *; repeat' split) <;> first | (exfalso; omega) | rfl
    obtain ⟨fs, hr, hrun, hended, hW, hsame⟩ := X0.leave (v := some (.int p2)) (fun h => by rw [Bd.returns] at h; cases h)
    refine ⟨_, _, ?_, hrun, hended, _, _, rfl, ?_, ⟨_, rfl⟩, hW, hsame.mono (by decide) (by decide)⟩
    · exact retI X0 hx Bd.returns (hb hby d4_8) hr
    · show Q_rm4 Z a1 p2 h0 n0 _ s₁.heap _
      rw [e0]
      exact ⟨congrArg (fun z => some (Value.int z)) hz.symm, N0, rfl⟩
theorem pn_5 : plainName "com/example/intent_to_crawl/intenttocrawl/encoding/ShiftJisDecoderSinglePinLaw" = true := by first | (simp [plainName, overriddenIn]; done) | decide +kernel
theorem ef_5 (m : MethodId) (x0 : Int32) : entryFrame m #[(.int x0)] 1 = mkF m 0 #[.val (.int x0)] [] := by first | (simp [entryFrame, mkF, argsToLocals, Value.category]; done) | rfl
def Q_rm5 (Z : State) (p1 : Int32) (h0 : Heap) (n0 : Nat) (v : Option Value) (h : Heap) (L : List Loc) : Prop := v = some (.int (own_ev p1)) ∧ Fr n0 L ∧ h = h0
theorem d5_0 : decode method_2_code 0 = .ok (.iload_n 0, 1) := by decide +kernel
theorem d5_1 : decode method_2_code 1 = .ok (.sipush 129, 3) := by decide +kernel
theorem d5_4 : decode method_2_code 4 = .ok (.if_icmp .ge 5, 3) := by decide +kernel
theorem d5_7 : decode method_2_code 7 = .ok (.iload_n 0, 1) := by decide +kernel
theorem d5_8 : decode method_2_code 8 = .ok (.ireturn, 1) := by decide +kernel
theorem d5_9 : decode method_2_code 9 = .ok (.iload_n 0, 1) := by decide +kernel
theorem d5_10 : decode method_2_code 10 = .ok (.sipush 160, 3) := by decide +kernel
theorem d5_13 : decode method_2_code 13 = .ok (.if_icmp .eq 10, 3) := by decide +kernel
theorem d5_23 : decode method_2_code 23 = .ok (.ldc 7, 2) := by decide +kernel
theorem d5_25 : decode method_2_code 25 = .ok (.ireturn, 1) := by decide +kernel
theorem d5_16 : decode method_2_code 16 = .ok (.iload_n 0, 1) := by decide +kernel
theorem d5_17 : decode method_2_code 17 = .ok (.sipush 252, 3) := by decide +kernel
theorem d5_20 : decode method_2_code 20 = .ok (.if_icmp .le 6, 3) := by decide +kernel
theorem d5_26 : decode method_2_code 26 = .ok (.iload_n 0, 1) := by decide +kernel
theorem d5_27 : decode method_2_code 27 = .ok (.sipush 161, 3) := by decide +kernel
theorem d5_30 : decode method_2_code 30 = .ok (.if_icmp .lt 15, 3) := by decide +kernel
theorem d5_45 : decode method_2_code 45 = .ok (.iconst (-1), 1) := by decide +kernel
theorem d5_46 : decode method_2_code 46 = .ok (.ireturn, 1) := by decide +kernel
theorem d5_33 : decode method_2_code 33 = .ok (.iload_n 0, 1) := by decide +kernel
theorem d5_34 : decode method_2_code 34 = .ok (.sipush 223, 3) := by decide +kernel
theorem d5_37 : decode method_2_code 37 = .ok (.if_icmp .gt 8, 3) := by decide +kernel
theorem d5_40 : decode method_2_code 40 = .ok (.iload_n 0, 1) := by decide +kernel
theorem d5_41 : decode method_2_code 41 = .ok (.ldc 8, 2) := by decide +kernel
theorem d5_43 : decode method_2_code 43 = .ok (.iadd, 1) := by decide +kernel
theorem d5_44 : decode method_2_code 44 = .ok (.ireturn, 1) := by decide +kernel
set_option maxRecDepth 65536 in
set_option maxHeartbeats 40000000 in
theorem rm5 (l : Launch) (Z : State) (a0 : Array Value) (hw : ∀ d ∈ tables_1, d.before a0 Z = true) (ws : List Jvm.Cond) (p1 : Int32) (h0 : Heap) (n0 : Nat) (Z0 : n0 ≤ h0.size)  :
    MetFree l (⟨"com/example/intent_to_crawl/intenttocrawl/encoding/ShiftJisDecoderSinglePinLaw", "expected", "(I)I"⟩ : MethodName) (head1 (Jvm.Cond.code (⟨"com/example/intent_to_crawl/intenttocrawl/encoding/ShiftJisDecoderSinglePinLaw", "expected", "(I)I"⟩ : MethodName) method_2_code 1 (some .int) :: ws) ({ frames := 0, cells := 0, slots := 0, locals := 0 } : Room)) (fun a U => a = #[(.int p1)] ∧ Z.Warmed39 U.vm ∧ U.heap = h0) (fun _ _ _ _ _ => True) (fun _ U o U' => ∃ v L, o = .returned v ∧ Q_rm5 Z p1 h0 n0 v U'.heap L ∧ FrameEnd U o U' L ({ frames := 0, cells := 0, slots := 0, locals := 0 } : Room).cells ({ frames := 0, cells := 0, slots := 0, locals := 0 } : Room).slots) := by
  refine MetFree.of_bodySF (plainFor_of_name pn_5) hisR ?_
  intro p e s m args below meth c s₁ Bd hml0 hP hK
  obtain ⟨rfl, hZ, hh⟩ := hP
  have hx := Bd.exec
  have hby := Bd.bytes
  have hml : c.maxLocals = 1 := hml0
  have hown : s.vm.findClass "com/example/intent_to_crawl/intenttocrawl/encoding/ShiftJisDecoderSinglePinLaw" = some m.cls := findClass_of_methodNamed Bd.named
  have hnm := (name_of_methodNamed Bd.named Bd.method).1
  have X0 : Stand p l e ({ frames := 0, cells := 0, slots := 0, locals := 0 } : Room) s m #[(.int p1)] below meth c s₁ [] 0 0 := Stand.of_body Bd
  have e0 : s₁.heap = h0 := by rw [← hh, Bd.state]; rfl
  have N0 := Fr.nil n0
  refine own_go (g' := (mkF m 0 #[.val (.int p1)] [])) (fun t k => castTop (ef_5 m (p1)) k) ?_
  refine own_go (T' := s₁) (g' := (mkF m 4 #[.val (.int p1)] [(.int (129 : Int32)), (.int p1)])) (fun t kt => ?_) ?_
  · show Steps p.tables e below (s₁.setTop (mkF m 0 #[.val (.int p1)] [])) t
    refine XS.iloadN X0.here hx rfl (hb hby d5_0) rfl ?_
    show Steps p.tables e below (s₁.setTop (mkF m 1 #[.val (.int p1)] [(.int p1)])) t
    refine XS.sipush X0.here hx rfl (hb hby d5_1) ?_
    exact kt
  by_cases hc4 : p1 < (129 : Int32)
  · refine own_go (T' := s₁) (g' := (mkF m 8 #[.val (.int p1)] [(.int p1)])) (fun t kt => ?_) ?_
    · show Steps p.tables e below (s₁.setTop (mkF m 4 #[.val (.int p1)] [(.int (129 : Int32)), (.int p1)])) t
      refine XS.icmpNo X0.here hx rfl (hb hby d5_4) rfl (tlt hc4).2.1 ?_
      show Steps p.tables e below (s₁.setTop (mkF m 7 #[.val (.int p1)] [])) t
      refine XS.iloadN X0.here hx rfl (hb hby d5_7) rfl ?_
      exact kt
    have hz : own_ev p1 = p1 := by
      simp only [own_ev]
      first | (simp [hc4]; done) | (simp only [Int32.lt_iff_toInt_lt, ← Int32.toInt_inj, Int32.reduceToInt] at *; repeat' split) <;> first | (exfalso; omega) | rfl
    obtain ⟨fs, hr, hrun, hended, hW, hsame⟩ := X0.leave (v := some (.int p1)) (fun h => by rw [Bd.returns] at h; cases h)
    refine ⟨_, _, ?_, hrun, hended, _, _, rfl, ?_, ⟨_, rfl⟩, hW, hsame.mono (by decide) (by decide)⟩
    · exact retI X0 hx Bd.returns (hb hby d5_8) hr
    · show Q_rm5 Z p1 h0 n0 _ s₁.heap _
      rw [e0]
      exact ⟨congrArg (fun z => some (Value.int z)) hz.symm, N0, rfl⟩
  · refine own_go (T' := s₁) (g' := (mkF m 13 #[.val (.int p1)] [(.int (160 : Int32)), (.int p1)])) (fun t kt => ?_) ?_
    · show Steps p.tables e below (s₁.setTop (mkF m 4 #[.val (.int p1)] [(.int (129 : Int32)), (.int p1)])) t
      refine XS.icmpYes X0.here hx rfl (pc0 := 4) (pc' := 9) rfl (hb hby d5_4) rfl (flt hc4).2.1 (by decide) (by decide) ?_
      show Steps p.tables e below (s₁.setTop (mkF m 9 #[.val (.int p1)] [])) t
      refine XS.iloadN X0.here hx rfl (hb hby d5_9) rfl ?_
      show Steps p.tables e below (s₁.setTop (mkF m 10 #[.val (.int p1)] [(.int p1)])) t
      refine XS.sipush X0.here hx rfl (hb hby d5_10) ?_
      exact kt
    by_cases hc13 : p1 = (160 : Int32)
    · refine own_go (T' := s₁) (g' := (mkF m 25 #[.val (.int p1)] [(.int (65533 : Int32))])) (fun t kt => ?_) ?_
      · show Steps p.tables e below (s₁.setTop (mkF m 13 #[.val (.int p1)] [(.int (160 : Int32)), (.int p1)])) t
        refine XS.icmpYes X0.here hx rfl (pc0 := 13) (pc' := 23) rfl (hb hby d5_13) rfl (teq hc13).1 (by decide) (by decide) ?_
        show Steps p.tables e below (s₁.setTop (mkF m 23 #[.val (.int p1)] [])) t
        refine X0.ldcInt hx hown (mvT hZ (hw _ (List.mem_of_getElem? (i := 26) rfl))) (g := (mkF m 23 #[.val (.int p1)] [])) rfl (hb hby d5_23) _ ?_
        exact kt
      have hz : own_ev p1 = (65533 : Int32) := by
        simp only [own_ev]
        first | (simp [hc4, hc13]; done) | (simp only [Int32.lt_iff_toInt_lt, ← Int32.toInt_inj, Int32.reduceToInt] at *; repeat' split) <;> first | (exfalso; omega) | rfl
      obtain ⟨fs, hr, hrun, hended, hW, hsame⟩ := X0.leave (v := some (.int (65533 : Int32))) (fun h => by rw [Bd.returns] at h; cases h)
      refine ⟨_, _, ?_, hrun, hended, _, _, rfl, ?_, ⟨_, rfl⟩, hW, hsame.mono (by decide) (by decide)⟩
      · exact retI X0 hx Bd.returns (hb hby d5_25) hr
      · show Q_rm5 Z p1 h0 n0 _ s₁.heap _
        rw [e0]
        exact ⟨congrArg (fun z => some (Value.int z)) hz.symm, N0, rfl⟩
    · refine own_go (T' := s₁) (g' := (mkF m 20 #[.val (.int p1)] [(.int (252 : Int32)), (.int p1)])) (fun t kt => ?_) ?_
      · show Steps p.tables e below (s₁.setTop (mkF m 13 #[.val (.int p1)] [(.int (160 : Int32)), (.int p1)])) t
        refine XS.icmpNo X0.here hx rfl (hb hby d5_13) rfl (feq hc13).1 ?_
        show Steps p.tables e below (s₁.setTop (mkF m 16 #[.val (.int p1)] [])) t
        refine XS.iloadN X0.here hx rfl (hb hby d5_16) rfl ?_
        show Steps p.tables e below (s₁.setTop (mkF m 17 #[.val (.int p1)] [(.int p1)])) t
        refine XS.sipush X0.here hx rfl (hb hby d5_17) ?_
        exact kt
      by_cases hc20 : (252 : Int32) < p1
      · refine own_go (T' := s₁) (g' := (mkF m 25 #[.val (.int p1)] [(.int (65533 : Int32))])) (fun t kt => ?_) ?_
        · show Steps p.tables e below (s₁.setTop (mkF m 20 #[.val (.int p1)] [(.int (252 : Int32)), (.int p1)])) t
          refine XS.icmpNo X0.here hx rfl (hb hby d5_20) rfl (tlt hc20).2.2.2 ?_
          show Steps p.tables e below (s₁.setTop (mkF m 23 #[.val (.int p1)] [])) t
          refine X0.ldcInt hx hown (mvT hZ (hw _ (List.mem_of_getElem? (i := 26) rfl))) (g := (mkF m 23 #[.val (.int p1)] [])) rfl (hb hby d5_23) _ ?_
          exact kt
        have hz : own_ev p1 = (65533 : Int32) := by
          simp only [own_ev]
          first | (simp [hc4, hc13, hc20]; done) | (simp only [Int32.lt_iff_toInt_lt, ← Int32.toInt_inj, Int32.reduceToInt] at *; repeat' split) <;> first | (exfalso; omega) | rfl
        obtain ⟨fs, hr, hrun, hended, hW, hsame⟩ := X0.leave (v := some (.int (65533 : Int32))) (fun h => by rw [Bd.returns] at h; cases h)
        refine ⟨_, _, ?_, hrun, hended, _, _, rfl, ?_, ⟨_, rfl⟩, hW, hsame.mono (by decide) (by decide)⟩
        · exact retI X0 hx Bd.returns (hb hby d5_25) hr
        · show Q_rm5 Z p1 h0 n0 _ s₁.heap _
          rw [e0]
          exact ⟨congrArg (fun z => some (Value.int z)) hz.symm, N0, rfl⟩
      · refine own_go (T' := s₁) (g' := (mkF m 30 #[.val (.int p1)] [(.int (161 : Int32)), (.int p1)])) (fun t kt => ?_) ?_
        · show Steps p.tables e below (s₁.setTop (mkF m 20 #[.val (.int p1)] [(.int (252 : Int32)), (.int p1)])) t
          refine XS.icmpYes X0.here hx rfl (pc0 := 20) (pc' := 26) rfl (hb hby d5_20) rfl (flt hc20).2.2.2 (by decide) (by decide) ?_
          show Steps p.tables e below (s₁.setTop (mkF m 26 #[.val (.int p1)] [])) t
          refine XS.iloadN X0.here hx rfl (hb hby d5_26) rfl ?_
          show Steps p.tables e below (s₁.setTop (mkF m 27 #[.val (.int p1)] [(.int p1)])) t
          refine XS.sipush X0.here hx rfl (hb hby d5_27) ?_
          exact kt
        by_cases hc30 : p1 < (161 : Int32)
        · refine own_go (T' := s₁) (g' := (mkF m 46 #[.val (.int p1)] [(.int (-1 : Int32))])) (fun t kt => ?_) ?_
          · show Steps p.tables e below (s₁.setTop (mkF m 30 #[.val (.int p1)] [(.int (161 : Int32)), (.int p1)])) t
            refine XS.icmpYes X0.here hx rfl (pc0 := 30) (pc' := 45) rfl (hb hby d5_30) rfl (tlt hc30).1 (by decide) (by decide) ?_
            show Steps p.tables e below (s₁.setTop (mkF m 45 #[.val (.int p1)] [])) t
            refine XS.iconst X0.here hx rfl (hb hby d5_45) ?_
            exact kt
          have hz : own_ev p1 = (-1 : Int32) := by
            simp only [own_ev]
            first | (simp [hc4, hc13, hc20, hc30]; done) | (simp only [Int32.lt_iff_toInt_lt, ← Int32.toInt_inj, Int32.reduceToInt] at *; repeat' split) <;> first | (exfalso; omega) | rfl
          obtain ⟨fs, hr, hrun, hended, hW, hsame⟩ := X0.leave (v := some (.int (-1 : Int32))) (fun h => by rw [Bd.returns] at h; cases h)
          refine ⟨_, _, ?_, hrun, hended, _, _, rfl, ?_, ⟨_, rfl⟩, hW, hsame.mono (by decide) (by decide)⟩
          · exact retI X0 hx Bd.returns (hb hby d5_46) hr
          · show Q_rm5 Z p1 h0 n0 _ s₁.heap _
            rw [e0]
            exact ⟨congrArg (fun z => some (Value.int z)) hz.symm, N0, rfl⟩
        · refine own_go (T' := s₁) (g' := (mkF m 37 #[.val (.int p1)] [(.int (223 : Int32)), (.int p1)])) (fun t kt => ?_) ?_
          · show Steps p.tables e below (s₁.setTop (mkF m 30 #[.val (.int p1)] [(.int (161 : Int32)), (.int p1)])) t
            refine XS.icmpNo X0.here hx rfl (hb hby d5_30) rfl (flt hc30).1 ?_
            show Steps p.tables e below (s₁.setTop (mkF m 33 #[.val (.int p1)] [])) t
            refine XS.iloadN X0.here hx rfl (hb hby d5_33) rfl ?_
            show Steps p.tables e below (s₁.setTop (mkF m 34 #[.val (.int p1)] [(.int p1)])) t
            refine XS.sipush X0.here hx rfl (hb hby d5_34) ?_
            exact kt
          by_cases hc37 : (223 : Int32) < p1
          · refine own_go (T' := s₁) (g' := (mkF m 46 #[.val (.int p1)] [(.int (-1 : Int32))])) (fun t kt => ?_) ?_
            · show Steps p.tables e below (s₁.setTop (mkF m 37 #[.val (.int p1)] [(.int (223 : Int32)), (.int p1)])) t
              refine XS.icmpYes X0.here hx rfl (pc0 := 37) (pc' := 45) rfl (hb hby d5_37) rfl (tlt hc37).2.2.1 (by decide) (by decide) ?_
              show Steps p.tables e below (s₁.setTop (mkF m 45 #[.val (.int p1)] [])) t
              refine XS.iconst X0.here hx rfl (hb hby d5_45) ?_
              exact kt
            have hz : own_ev p1 = (-1 : Int32) := by
              simp only [own_ev]
              first | (simp [hc4, hc13, hc20, hc30, hc37]; done) | (simp only [Int32.lt_iff_toInt_lt, ← Int32.toInt_inj, Int32.reduceToInt] at *; repeat' split) <;> first | (exfalso; omega) | rfl
            obtain ⟨fs, hr, hrun, hended, hW, hsame⟩ := X0.leave (v := some (.int (-1 : Int32))) (fun h => by rw [Bd.returns] at h; cases h)
            refine ⟨_, _, ?_, hrun, hended, _, _, rfl, ?_, ⟨_, rfl⟩, hW, hsame.mono (by decide) (by decide)⟩
            · exact retI X0 hx Bd.returns (hb hby d5_46) hr
            · show Q_rm5 Z p1 h0 n0 _ s₁.heap _
              rw [e0]
              exact ⟨congrArg (fun z => some (Value.int z)) hz.symm, N0, rfl⟩
          · refine own_go (T' := s₁) (g' := (mkF m 44 #[.val (.int p1)] [(.int (p1 + (65216 : Int32)))])) (fun t kt => ?_) ?_
            · show Steps p.tables e below (s₁.setTop (mkF m 37 #[.val (.int p1)] [(.int (223 : Int32)), (.int p1)])) t
              refine XS.icmpNo X0.here hx rfl (hb hby d5_37) rfl (flt hc37).2.2.1 ?_
              show Steps p.tables e below (s₁.setTop (mkF m 40 #[.val (.int p1)] [])) t
              refine XS.iloadN X0.here hx rfl (hb hby d5_40) rfl ?_
              show Steps p.tables e below (s₁.setTop (mkF m 41 #[.val (.int p1)] [(.int p1)])) t
              refine X0.ldcInt hx hown (mvT hZ (hw _ (List.mem_of_getElem? (i := 24) rfl))) (g := (mkF m 41 #[.val (.int p1)] [(.int p1)])) rfl (hb hby d5_41) _ ?_
              show Steps p.tables e below (s₁.setTop (mkF m 43 #[.val (.int p1)] [(.int (65216 : Int32)), (.int p1)])) t
              refine XS.iadd X0.here hx rfl (hb hby d5_43) rfl ?_
              exact kt
            have hz : own_ev p1 = (p1 + (65216 : Int32)) := by
              simp only [own_ev]
              first | (simp [hc4, hc13, hc20, hc30, hc37]; done) | (simp only [Int32.lt_iff_toInt_lt, ← Int32.toInt_inj, Int32.reduceToInt] at *; repeat' split) <;> first | (exfalso; omega) | rfl
            obtain ⟨fs, hr, hrun, hended, hW, hsame⟩ := X0.leave (v := some (.int (p1 + (65216 : Int32)))) (fun h => by rw [Bd.returns] at h; cases h)
            refine ⟨_, _, ?_, hrun, hended, _, _, rfl, ?_, ⟨_, rfl⟩, hW, hsame.mono (by decide) (by decide)⟩
            · exact retI X0 hx Bd.returns (hb hby d5_44) hr
            · show Q_rm5 Z p1 h0 n0 _ s₁.heap _
              rw [e0]
              exact ⟨congrArg (fun z => some (Value.int z)) hz.symm, N0, rfl⟩
theorem pn_0 : plainName "com/example/intent_to_crawl/intenttocrawl/encoding/ShiftJisDecoderSinglePinLaw" = true := by first | (simp [plainName, overriddenIn]; done) | decide +kernel
theorem ef_0 (m : MethodId) (x0 : Int32) : entryFrame m #[(.int x0)] maxLocals = mkF m 0 #[.val (.int x0), .unset, .unset] [] := by first | (simp [entryFrame, mkF, argsToLocals, Value.category, maxLocals]; done) | rfl
def Q_rm0 (Z : State) (p1 : Int32) (h0 : Heap) (n0 : Nat) (v : Option Value) (h : Heap) (L : List Loc) : Prop := v = some (.int (1 : Int32)) ∧ Fr n0 L
theorem pd_1 : parseMethodDescriptor "(I)I" = some ⟨[.int], some .int⟩ := by decide +kernel
set_option maxRecDepth 65536 in
set_option maxHeartbeats 40000000 in
theorem rm0 (l : Launch) (Z : State) (a0 : Array Value) (hw : ∀ d ∈ tables_1, d.before a0 Z = true) (ws : List Jvm.Cond) (p1 : Int32) (h0 : Heap) (n0 : Nat) (Z0 : n0 ≤ h0.size)  :
    MetFree l x (head1 (Jvm.Cond.code x code maxLocals ret :: ws) room_1) (fun a U => a = #[(.int p1)] ∧ Z.Warmed39 U.vm ∧ U.heap = h0) (fun _ _ _ _ _ => True) (fun _ U o U' => ∃ v L, o = .returned v ∧ Q_rm0 Z p1 h0 n0 v U'.heap L ∧ FrameEnd U o U' L room_1.cells room_1.slots) := by
  refine MetFree.of_bodySF (plainFor_of_name pn_0) hisR ?_
  intro p e s m args below meth c s₁ Bd hml0 hP hK
  obtain ⟨rfl, hZ, hh⟩ := hP
  have hx := Bd.exec
  have hby := Bd.bytes
  have hml : c.maxLocals = 3 := hml0
  have hown : s.vm.findClass "com/example/intent_to_crawl/intenttocrawl/encoding/ShiftJisDecoderSinglePinLaw" = some m.cls := findClass_of_methodNamed Bd.named
  have hnm := (name_of_methodNamed Bd.named Bd.method).1
  have X0 : Stand p l e room_1 s m #[(.int p1)] below meth c s₁ [] 0 0 := Stand.of_body Bd
  have e0 : s₁.heap = h0 := by rw [← hh, Bd.state]; rfl
  have N0 := Fr.nil n0
  refine own_go (g' := (mkF m 0 #[.val (.int p1), .unset, .unset] [])) (fun t k => castTop (ef_0 m (p1)) k) ?_
  refine own_go (T' := s₁) (g' := (mkF m 6 #[.val (.int p1), .val (.int (p1 &&& (255 : Int32))), .unset] [])) (fun t kt => ?_) ?_
  · show Steps p.tables e below (s₁.setTop (mkF m 0 #[.val (.int p1), .unset, .unset] [])) t
    refine XS.iloadN X0.here hx rfl (hb hby at_0) rfl ?_
    show Steps p.tables e below (s₁.setTop (mkF m 1 #[.val (.int p1), .unset, .unset] [(.int p1)])) t
    refine XS.sipush X0.here hx rfl (hb hby at_1) ?_
    show Steps p.tables e below (s₁.setTop (mkF m 4 #[.val (.int p1), .unset, .unset] [(.int (255 : Int32)), (.int p1)])) t
    refine XS.iand X0.here hx rfl (hb hby at_4) rfl ?_
    show Steps p.tables e below (s₁.setTop (mkF m 5 #[.val (.int p1), .unset, .unset] [(.int (p1 &&& (255 : Int32)))])) t
    refine XS.istoreN X0.here hx rfl (hb hby at_5) rfl (l' := #[.val (.int p1), .val (.int (p1 &&& (255 : Int32))), .unset]) rfl ?_
    exact kt
  obtain ⟨T1, h1, X1, e1, E1, A1, D1, -, st1⟩ := newO X0 hx hZ hown (hw _ (List.mem_of_getElem? (i := 0) rfl)) (hw _ (List.mem_of_getElem? (i := 1) rfl)) (hw _ (List.mem_of_getElem? (i := 2) rfl)) e0 (g := (mkF m 6 #[.val (.int p1), .val (.int (p1 &&& (255 : Int32))), .unset] [])) rfl (hb hby at_6) (by decide) (by decide)
  obtain ⟨b1, g1⟩ : ∃ z, z = h0.size := ⟨_, rfl⟩
  rw [← g1] at A1 D1 st1
  have g_b1 : n0 ≤ b1 := Nat.le_trans Z0 (Nat.le_of_eq g1.symm)
  have Z1 : n0 ≤ h1.size := Nat.le_trans Z0 E1.1
  refine own_go (g' := (mkF m 9 #[.val (.int p1), .val (.int (p1 &&& (255 : Int32))), .unset] [(.ref b1)])) st1 ?_
  refine own_go (T' := T1) (g' := (mkF m 10 #[.val (.int p1), .val (.int (p1 &&& (255 : Int32))), .unset] [(.ref b1), (.ref b1)])) (fun t kt => ?_) ?_
  · show Steps p.tables e below (T1.setTop (mkF m 9 #[.val (.int p1), .val (.int (p1 &&& (255 : Int32))), .unset] [(.ref b1)])) t
    refine XS.dup X1.here hx rfl (hb hby at_9) rfl rfl ?_
    exact kt
  obtain ⟨_, _, ⟨T2, L2, k2, n2⟩, -, X2, ⟨Lc2, hQ2, l2, y2, z2⟩, st2⟩ := X1.specialBack hx (y := (⟨"com/example/intent_to_crawl/intenttocrawl/encoding/ShiftJisDecoder", "<init>", "()V"⟩ : MethodName)) rfl hown (mvT hZ (hw _ (List.mem_of_getElem? (i := 3) rfl))) (mvT hZ (hw _ (List.mem_of_getElem? (i := 4) rfl))) (mvT hZ (hw _ (List.mem_of_getElem? (i := 5) rfl))) (by decide) (backOf (W := 1) (rm1 l Z a0 hw [] (b1)  h1 n0 Z1 ) hZ (hw _ (List.mem_of_getElem? (i := 5) rfl)) (hw _ (List.mem_of_getElem? (i := 2) rfl)) (by decide) (by decide)) (g := (mkF m 10 #[.val (.int p1), .val (.int (p1 &&& (255 : Int32))), .unset] [(.ref b1), (.ref b1)])) rfl (by rw [hml]; rfl) (Steps.refl _) (a := b1) (argsL := []) (rest := [(.ref b1)]) (lenOf pd_0 rfl) rfl (by show 2 * 0 + _ ≤ _; exact Nat.le_of_eq rfl) (hb hby at_10) (fun _ _ => ⟨rfl, e1, (by decide : 1 + 0 ≤ _), (by decide : 0 + 0 ≤ _)⟩)
  dsimp only [Pt.U, Pt.locs, Pt.cells, Pt.slots] at X2 l2 y2 z2 st2 hQ2
  subst l2 y2 z2
  obtain ⟨rfl, N2q, e2⟩ := hQ2
  have N2 := Fr.app N0 N2q
  refine own_go (g' := (mkF m 13 #[.val (.int p1), .val (.int (p1 &&& (255 : Int32))), .unset] [(.ref b1)])) (fun t kt => st2.trans kt) ?_
  refine own_go (T' := T2) (g' := (mkF m 16 #[.val (.int p1), .val (.int (p1 &&& (255 : Int32))), .val (.ref b1)] [(.int (p1 &&& (255 : Int32))), (.ref b1)])) (fun t kt => ?_) ?_
  · show Steps p.tables e below (T2.setTop (mkF m 13 #[.val (.int p1), .val (.int (p1 &&& (255 : Int32))), .unset] [(.ref b1)])) t
    refine XS.astoreN X2.here hx rfl (hb hby at_13) rfl rfl (l' := #[.val (.int p1), .val (.int (p1 &&& (255 : Int32))), .val (.ref b1)]) rfl ?_
    show Steps p.tables e below (T2.setTop (mkF m 14 #[.val (.int p1), .val (.int (p1 &&& (255 : Int32))), .val (.ref b1)] [])) t
    refine XS.aloadN X2.here hx rfl (hb hby at_14) rfl rfl ?_
    show Steps p.tables e below (T2.setTop (mkF m 15 #[.val (.int p1), .val (.int (p1 &&& (255 : Int32))), .val (.ref b1)] [(.ref b1)])) t
    refine XS.iloadN X2.here hx rfl (hb hby at_15) rfl ?_
    exact kt
  obtain ⟨cq3, kq3, q3a, q3b, q3c⟩ := isOf hZ e2 A1
  obtain ⟨_, _, ⟨T3, L3, k3, n3⟩, -, X3, ⟨Lc3, hQ3, l3, y3, z3⟩, st3⟩ := X2.virtualBack hx (y := (⟨"com/example/intent_to_crawl/intenttocrawl/encoding/ShiftJisDecoder", "single", "(I)I"⟩ : MethodName)) (z := (⟨"com/example/intent_to_crawl/intenttocrawl/encoding/ShiftJisDecoder", "single", "(I)I"⟩ : MethodName)) hown (mvT hZ (hw _ (List.mem_of_getElem? (i := 14) rfl))) (mvT hZ (hw _ (List.mem_of_getElem? (i := 15) rfl))) (notFace_of_selects (args := #[]) (mvT hZ (hw _ (List.mem_of_getElem? (i := 17) rfl)))) (mvT hZ (hw _ (List.mem_of_getElem? (i := 17) rfl))) (mvT hZ (hw _ (List.mem_of_getElem? (i := 16) rfl))) (by decide) (backOf (W := 0) (rm4 l Z a0 hw [] (b1) ((p1 &&& (255 : Int32)))  h1 n0 Z1 ) hZ (hw _ (List.mem_of_getElem? (i := 18) rfl)) (hw _ (List.mem_of_getElem? (i := 2) rfl)) (by decide) (by decide)) q3a q3c (g := (mkF m 16 #[.val (.int p1), .val (.int (p1 &&& (255 : Int32))), .val (.ref b1)] [(.int (p1 &&& (255 : Int32))), (.ref b1)])) rfl (by rw [hml]; rfl) (Steps.refl _) (argsL := [(.int (p1 &&& (255 : Int32)))]) (rest := []) (lenOf pd_1 rfl) rfl (by show 2 * 0 + _ ≤ _; exact Nat.le_of_eq rfl) (hb hby at_16) (fun _ _ => ⟨rfl, e2, (by decide : 1 + 0 ≤ _), (by decide : 0 + 0 ≤ _)⟩)
  dsimp only [Pt.U, Pt.locs, Pt.cells, Pt.slots] at X3 l3 y3 z3 st3 hQ3
  subst l3 y3 z3
  obtain ⟨rfl, N3q, e3⟩ := hQ3
  have N3 := Fr.app N2 N3q
  refine own_go (g' := (mkF m 19 #[.val (.int p1), .val (.int (p1 &&& (255 : Int32))), .val (.ref b1)] [(.int (own_sv (p1 &&& (255 : Int32))))])) (fun t kt => st3.trans kt) ?_
  refine own_go (T' := T3) (g' := (mkF m 20 #[.val (.int p1), .val (.int (p1 &&& (255 : Int32))), .val (.ref b1)] [(.int (p1 &&& (255 : Int32))), (.int (own_sv (p1 &&& (255 : Int32))))])) (fun t kt => ?_) ?_
  · show Steps p.tables e below (T3.setTop (mkF m 19 #[.val (.int p1), .val (.int (p1 &&& (255 : Int32))), .val (.ref b1)] [(.int (own_sv (p1 &&& (255 : Int32))))])) t
    refine XS.iloadN X3.here hx rfl (hb hby at_19) rfl ?_
    exact kt
  obtain ⟨_, _, ⟨T4, L4, k4, n4⟩, -, X4, ⟨Lc4, hQ4, l4, y4, z4⟩, st4⟩ := Jvm.LawKit.callS X3 hx (y := (⟨"com/example/intent_to_crawl/intenttocrawl/encoding/ShiftJisDecoderSinglePinLaw", "expected", "(I)I"⟩ : MethodName)) hown (mvT hZ (hw _ (List.mem_of_getElem? (i := 19) rfl))) (mvT hZ (hw _ (List.mem_of_getElem? (i := 20) rfl))) (mvT hZ (hw _ (List.mem_of_getElem? (i := 21) rfl))) (mvT hZ (hw _ (List.mem_of_getElem? (i := 22) rfl))) (by decide) (backOf (W := 1) (rm5 l Z a0 hw [] ((p1 &&& (255 : Int32)))  h1 n0 Z1 ) hZ (hw _ (List.mem_of_getElem? (i := 22) rfl)) (hw _ (List.mem_of_getElem? (i := 21) rfl)) (by decide) (by decide)) (g := (mkF m 20 #[.val (.int p1), .val (.int (p1 &&& (255 : Int32))), .val (.ref b1)] [(.int (p1 &&& (255 : Int32))), (.int (own_sv (p1 &&& (255 : Int32))))])) rfl (by rw [hml]; rfl) (argsL := [(.int (p1 &&& (255 : Int32)))]) (rest := [(.int (own_sv (p1 &&& (255 : Int32))))]) (lenOf pd_1 rfl) rfl (by show 2 * 0 + _ ≤ _; exact Nat.le_of_eq rfl) (hb hby at_20) (fun _ _ => ⟨rfl, e3, (by decide : 1 + 0 ≤ _), (by decide : 0 + 0 ≤ _)⟩)
  dsimp only [Pt.U, Pt.locs, Pt.cells, Pt.slots] at X4 l4 y4 z4 st4 hQ4
  subst l4 y4 z4
  obtain ⟨rfl, N4q, e4⟩ := hQ4
  have N4 := Fr.app N3 N4q
  refine own_go (g' := (mkF m 23 #[.val (.int p1), .val (.int (p1 &&& (255 : Int32))), .val (.ref b1)] [(.int (own_ev (p1 &&& (255 : Int32)))), (.int (own_sv (p1 &&& (255 : Int32))))])) st4 ?_
  refine own_go (T' := T4) (g' := (mkF m 31 #[.val (.int p1), .val (.int (p1 &&& (255 : Int32))), .val (.ref b1)] [(.int (1 : Int32))])) (fun t kt => ?_) ?_
  · show Steps p.tables e below (T4.setTop (mkF m 23 #[.val (.int p1), .val (.int (p1 &&& (255 : Int32))), .val (.ref b1)] [(.int (own_ev (p1 &&& (255 : Int32)))), (.int (own_sv (p1 &&& (255 : Int32))))])) t
    refine XS.icmpNo X4.here hx rfl (hb hby at_23) rfl (teq (own_law p1 : (own_sv (p1 &&& (255 : Int32))) = (own_ev (p1 &&& (255 : Int32))))).2 ?_
    show Steps p.tables e below (T4.setTop (mkF m 26 #[.val (.int p1), .val (.int (p1 &&& (255 : Int32))), .val (.ref b1)] [])) t
    refine XS.iconst X4.here hx rfl (hb hby at_26) ?_
    show Steps p.tables e below (T4.setTop (mkF m 27 #[.val (.int p1), .val (.int (p1 &&& (255 : Int32))), .val (.ref b1)] [(.int (1 : Int32))])) t
    refine XS.goto X4.here hx rfl (pc0 := 27) (pc' := 31) rfl (hb hby at_27) (by decide) (by decide) ?_
    exact kt
  obtain ⟨fs, hr, hrun, hended, hW, hsame⟩ := X4.leave (v := some (.int (1 : Int32))) (fun h => by rw [Bd.returns] at h; cases h)
  refine ⟨_, _, ?_, hrun, hended, _, _, rfl, ?_, ⟨_, rfl⟩, hW, hsame.mono (by decide) (by decide)⟩
  · exact retN X4 hx (t := .boolean) Bd.returns (by simp) (hb hby at_31) hr
  · show Q_rm0 Z p1 h0 n0 _ T4.heap _
    rw [e4]
    exact ⟨rfl, N4⟩
set_option maxRecDepth 65536 in
set_option maxHeartbeats 40000000 in
theorem comes_1 {Post : Tables → Env → Array Value → State → Outcome → State → Prop} (hpost : ∀ tb e args s v u, (limb_1_1.after args s (.returned v) u = true ∧ limb_1_2.after args s (.returned v) u = true ∧ True) → FrameEnd s (.returned v) u (Jvm.fieldLocs frame_1_writes args s ++ Jvm.arrayLocs frame_1_arrays args s ++ Jvm.staticLocs frame_1_statics s) 16 64 → Post tb e args s (.returned v) u) :
    ArmFor flags0 classFile x code maxLocals ret World_1 tables_1 room_1 Calls_1 rest_1 Pre_1 Post := by
  intro l hfl _ _ p e ha hc hk s m args below hf hA hF happ hP
  obtain ⟨hcalls, hrest, hpre⟩ := hP
  obtain ⟨-, -, -, hnamed, -, -, -, hat⟩ := (Spec.applies_iff hf).mp happ
  obtain ⟨hg, hn⟩ := and_e (Cond.before_iff.mp (show (Jvm.Cond.and given_1 narrow_1).before args s = true from hpre))
  obtain ⟨u0, v0⟩ := and_e hg
  obtain ⟨w0, rfl⟩ : ∃ w0 : Value, args = #[w0] := by
    have hs : args.size = 1 := by simpa [Cond.value, given_1] using u0
    obtain ⟨L⟩ := args
    match L, hs with
    | [w0], _ => exact ⟨w0, rfl⟩
  have hw := fun d (hd : d ∈ tables_1) => atoms_spec (ws := Jvm.Cond.code x code maxLocals ret :: tables_1) hat d (List.mem_cons_of_mem _ hd)
  obtain ⟨i0, ei0⟩ := is_v v0
  obtain rfl : w0 = (.int i0) := Option.some.inj ei0
  obtain ⟨n, o, h1, h2, h3, _, L, rfl, ⟨rfl, N⟩, hq⟩ := rm0 l s _ hw tables_1 i0  s.heap s.heap.size (Nat.le_refl _)  p e ha hc hk s m _ below hf ((Spec.applies_iff_loose hf).mp happ).1 ⟨rfl, State.Warmed39.refl s, rfl⟩ trivial
  refine ⟨n, _, h1, h2, h3, hpost _ _ _ _ _ _ ⟨Cond.after_iff.mpr rfl, Cond.after_iff.mpr (eq_i res_at (Term.int_eval (1)) rfl), trivial⟩ ⟨hq.1, hq.2.1, (hq.2.2.sift fun y hy => Or.inr (N y hy)).mono (by decide) (by decide)⟩⟩
theorem main_1_1 : Claimed_1_1 := comes_1 fun _ _ _ _ _ _ h hF => ⟨h.1, hF⟩
theorem main_1_2 : Claimed_1_2 := comes_1 fun _ _ _ _ _ _ h hF => ⟨h.2.1, hF⟩
end Jvm.Pilot.@@N@@
namespace Jvm.Pilot.@@N@@
open Jvm Jvm.ClassFile Sem Op Lib Jvm.Free Jvm.Stand Jvm.Pilot.@@N@@.Jvm.D
/-! MADE BY PROGRAM (witnessworld.py) out of the Statement's table words and the real class files: 11 classes; the members and pool entries that the words name. The judged class is class 1, her method 2. -/
namespace start1
open Jvm.ClassFile
def u (s : String) : CpInfo := .utf8 (stringToUtf16 s)
/-- a pool by its gaps: so many unusable entries, then the entry; so many at the end -/
def gap : Nat → List CpInfo → List CpInfo
  | 0, r => r
  | n + 1, r => .unusable :: gap n r
def poolList (es : List (Nat × CpInfo)) (last : Nat) : List CpInfo := es.foldr (fun e r => gap e.1 (e.2 :: r)) (gap last [])
def pool (es : List (Nat × CpInfo)) (last : Nat) : Array CpInfo := ⟨poolList es last⟩
def fileOf (pool : Array CpInfo) (this : Nat) (attrs : Array Attribute := #[]) (ms : Array MethodInfo := #[]) (fl : Nat := 33) (sup : Nat := 0) (ifs : Array Nat := #[]) (fds : Array FieldInfo := #[]) : ClassFile where
  minorVersion := 0
  majorVersion := 65
  constantPool := pool
  accessFlags := fl
  thisClass := this
  superClass := sup
  interfaces := ifs
  fields := fds
  methods := ms
  attributes := attrs
def plain (name : String) (sup : Option ClassId) : Class where
  name := name
  kind := .ordinary
  loader := none
  accessFlags := 33
  super := sup
  interfaces := #[]
  cf := none
  fields := #[]
  methods := #[]
  instanceTypes := #[]
  staticTypes := #[]
  resolved := #[]
  callSites := []
  init := .initialized
  statics := none
  mirror := none

def pool0 : Array CpInfo := pool [(5, u "<init>"), (0, u "()V"), (1, .class_ 10), (1, u "java/lang/Object")] 113

def k0c0 : Code := { maxStack := 0, maxLocals := 1, code := object_method_1_code, exceptionTable := #[], attributes := #[] }
def k0m0 : Method := { name := "<init>", desc := "()V", sig := { parameters := [], returnType := none }, accessFlags := 1, code := some k0c0 }
/-- java/lang/Object -/
def k0 : Class := { plain "java/lang/Object" none with
  accessFlags := 33
  interfaces := #[]
  cf := some (fileOf pool0 8 #[] #[{ accessFlags := 1, nameIndex := 5, descriptorIndex := 6, attributes := #[] }] 33 0 #[] #[])
  fields := #[]
  methods := #[k0m0]
  instanceTypes := #[]
  staticTypes := #[]
  resolved := Array.replicate 124 none
  statics := none }

def pool1 : Array CpInfo := pool [(2, .class_ 4), (0, .nameAndType 5 6), (0, u "java/lang/Object"), (0, u "<init>"), (0, u "()V"), (0, .integer 65533), (0, .integer 65216), (0, .class_ 10), (0, u "com/example/intent_to_crawl/intenttocrawl/encoding/ShiftJisDecoder"), (0, .methodref 9 3), (0, .methodref 9 13), (0, .nameAndType 14 15), (0, u "single"), (0, u "(I)I"), (0, .methodref 17 18), (0, .class_ 19), (0, .nameAndType 20 15), (0, u "com/example/intent_to_crawl/intenttocrawl/encoding/ShiftJisDecoderSinglePinLaw"), (0, u "expected"), (3, u "law"), (0, u "(I)Z")] 2

def k1m0 : Method := { name := "<init>", desc := "()V", sig := { parameters := [], returnType := none }, accessFlags := 2, code := none }
def k1c1 : Code := { maxStack := 2, maxLocals := 1, code := method_2_code, exceptionTable := #[], attributes := #[] }
def k1m1 : Method := { name := "expected", desc := "(I)I", sig := { parameters := [.int], returnType := some .int }, accessFlags := 10, code := some k1c1 }
def k1c2 : Code := { maxStack := 2, maxLocals := 3, code := code, exceptionTable := #[], attributes := #[] }
def k1m2 : Method := { name := "law", desc := "(I)Z", sig := { parameters := [.int], returnType := some .boolean }, accessFlags := 9, code := some k1c2 }
/-- com/example/intent_to_crawl/intenttocrawl/encoding/ShiftJisDecoderSinglePinLaw -/
def k1 : Class := { plain "com/example/intent_to_crawl/intenttocrawl/encoding/ShiftJisDecoderSinglePinLaw" (some 0) with
  accessFlags := 49
  interfaces := #[]
  cf := some (fileOf pool1 17 #[] #[{ accessFlags := 2, nameIndex := 5, descriptorIndex := 6, attributes := #[] }, { accessFlags := 10, nameIndex := 20, descriptorIndex := 15, attributes := #[] }, { accessFlags := 9, nameIndex := 24, descriptorIndex := 25, attributes := #[] }] 49 2 #[] #[])
  fields := #[]
  methods := #[k1m0, k1m1, k1m2]
  instanceTypes := #[]
  staticTypes := #[]
  resolved := Array.replicate 28 none
  statics := none }

def pool2 : Array CpInfo := pool [(11, .class_ 12), (0, u "com/example/intent_to_crawl/intenttocrawl/encoding/Decoder"), (0, .class_ 14), (0, u "java/lang/Object"), (0, u "REPLACEMENT"), (0, u "C")] 11

/-- com/example/intent_to_crawl/intenttocrawl/encoding/Decoder -/
def k2 : Class := { plain "com/example/intent_to_crawl/intenttocrawl/encoding/Decoder" (some 0) with
  accessFlags := 1536
  interfaces := #[]
  cf := some (fileOf pool2 11 #[] #[] 1536 13 #[] #[{ accessFlags := 25, nameIndex := 15, descriptorIndex := 16, attributes := #[] }])
  fields := #[{ name := "REPLACEMENT", type := .char, accessFlags := 25, slot := 0, constantValue := 0 }]
  methods := #[]
  instanceTypes := #[]
  staticTypes := #[.char]
  resolved := Array.replicate 28 none
  statics := none }

def pool3 : Array CpInfo := pool [(1, .methodref 2 3), (0, .class_ 4), (0, .nameAndType 5 6), (0, u "java/lang/Object"), (0, u "<init>"), (0, u "()V"), (0, .class_ 8), (0, u "com/example/intent_to_crawl/intenttocrawl/encoding/DoubleByteDecoder"), (0, .class_ 10), (0, u "com/example/intent_to_crawl/intenttocrawl/encoding/Decoder"), (13, u "LEAD"), (0, u "I")] 11

def k3c0 : Code := { maxStack := 1, maxLocals := 1, code := prog_12_method_1_code, exceptionTable := #[], attributes := #[] }
def k3m0 : Method := { name := "<init>", desc := "()V", sig := { parameters := [], returnType := none }, accessFlags := 0, code := some k3c0 }
/-- com/example/intent_to_crawl/intenttocrawl/encoding/DoubleByteDecoder -/
def k3 : Class := { plain "com/example/intent_to_crawl/intenttocrawl/encoding/DoubleByteDecoder" (some 0) with
  accessFlags := 1056
  interfaces := #[2]
  cf := some (fileOf pool3 7 #[] #[{ accessFlags := 0, nameIndex := 5, descriptorIndex := 6, attributes := #[] }] 1056 2 #[9] #[{ accessFlags := 24, nameIndex := 24, descriptorIndex := 25, attributes := #[] }])
  fields := #[{ name := "LEAD", type := .int, accessFlags := 24, slot := 0, constantValue := 0 }]
  methods := #[k3m0]
  instanceTypes := #[]
  staticTypes := #[.int]
  resolved := Array.replicate 37 none
  statics := none }

def pool4 : Array CpInfo := pool [(1, .methodref 2 3), (0, .class_ 4), (0, .nameAndType 5 6), (0, u "com/example/intent_to_crawl/intenttocrawl/encoding/DoubleByteDecoder"), (0, u "<init>"), (0, u "()V"), (0, .integer 65216), (2, .integer 65533), (10, u "(I)I"), (1, .class_ 25), (1, u "com/example/intent_to_crawl/intenttocrawl/encoding/ShiftJisDecoder"), (4, u "single")] 7

def k4c0 : Code := { maxStack := 1, maxLocals := 1, code := prog_24_method_1_code, exceptionTable := #[], attributes := #[] }
def k4m0 : Method := { name := "<init>", desc := "()V", sig := { parameters := [], returnType := none }, accessFlags := 0, code := some k4c0 }
def k4c1 : Code := { maxStack := 2, maxLocals := 2, code := prog_24_method_2_code, exceptionTable := #[], attributes := #[] }
def k4m1 : Method := { name := "single", desc := "(I)I", sig := { parameters := [.int], returnType := some .int }, accessFlags := 0, code := some k4c1 }
/-- com/example/intent_to_crawl/intenttocrawl/encoding/ShiftJisDecoder -/
def k4 : Class := { plain "com/example/intent_to_crawl/intenttocrawl/encoding/ShiftJisDecoder" (some 3) with
  accessFlags := 48
  interfaces := #[]
  cf := some (fileOf pool4 23 #[] #[{ accessFlags := 0, nameIndex := 5, descriptorIndex := 6, attributes := #[] }, { accessFlags := 0, nameIndex := 30, descriptorIndex := 21, attributes := #[] }] 48 2 #[] #[])
  fields := #[]
  methods := #[k4m0, k4m1]
  instanceTypes := #[]
  staticTypes := #[]
  resolved := Array.replicate 38 none
  statics := none }

def pool5 : Array CpInfo := pool [(1, u "java/lang/Cloneable"), (0, .class_ 1), (0, u "java/lang/Object"), (0, .class_ 3)] 3

/-- java/lang/Cloneable -/
def k5 : Class := { plain "java/lang/Cloneable" (some 0) with
  accessFlags := 1537
  interfaces := #[]
  cf := some (fileOf pool5 2 #[] #[] 1537 4 #[] #[])
  fields := #[]
  methods := #[]
  instanceTypes := #[]
  staticTypes := #[]
  resolved := Array.replicate 8 none
  statics := none }

def pool6 : Array CpInfo := pool [(1, u "java/io/Serializable"), (0, .class_ 1), (0, u "java/lang/Object"), (0, .class_ 3)] 3

/-- java/io/Serializable -/
def k6 : Class := { plain "java/io/Serializable" (some 0) with
  accessFlags := 1537
  interfaces := #[]
  cf := some (fileOf pool6 2 #[] #[] 1537 4 #[] #[])
  fields := #[]
  methods := #[]
  instanceTypes := #[]
  staticTypes := #[]
  resolved := Array.replicate 8 none
  statics := none }

/-- the primitive byte -/
def k7 : Class := { plain "byte" none with kind := .primitive 'B', accessFlags := 0x411 }
/-- [B -/
def k8 : Class := { plain "[B" (some 0) with kind := .array 7 .byte, interfaces := #[5, 6], accessFlags := 1041 }

/-- the primitive int -/
def k9 : Class := { plain "int" none with kind := .primitive 'I', accessFlags := 0x411 }
/-- [I -/
def k10 : Class := { plain "[I" (some 0) with kind := .array 9 .int, interfaces := #[5, 6], accessFlags := 1041 }

def heap : Heap := #[]
def classes : Array Class := #[k0, k1, k2, k3, k4, k5, k6, k7, k8, k9, k10]
def interned : List (Array UInt16 × Addr) := []
def slotsUsed : Nat := 0
def theMethod : MethodId := ⟨1, 2⟩
def args0 : Array Value := #[.int 5]
def aboutOver (below : List Frame) : State where
  vm := { classes := classes, interned := interned.toArray }
  heap := heap
  slotsUsed := slotsUsed
  threads := #[{ frames := .invoking theMethod args0 :: below }]
def below0 : List Frame := [.native { method := ⟨0, 0⟩, args := #[] }]
def about1 : State := aboutOver below0
def p0 : Program := .bare "" "" ""
def e0 : Env := launch0.env 0 0 0
theorem w_frames : about1.frames = Frame.invoking theMethod args0 :: below0 := rfl
set_option maxRecDepth 65536 in
theorem w_args : argsFit about1.vm theMethod args0 = true := by decide +kernel
set_option maxRecDepth 65536 in
theorem w_heap : heapFits about1 = true := by decide +kernel
set_option maxRecDepth 65536 in
theorem w_runnable : about1.curStatus? = some .runnable := by decide +kernel
set_option maxRecDepth 65536 in
theorem w_alone : about1.alone = true := by decide +kernel
set_option maxRecDepth 65536 in
theorem w_named : about1.methodNamed? x = some theMethod := by decide +kernel
set_option maxRecDepth 65536 in
theorem w_hears : about1.hears theMethod below0 = true := by decide +kernel
set_option maxRecDepth 65536 in
theorem w_ripe : about1.ripe theMethod args0 below0 = true := by decide +kernel
theorem w_running : about1.status = .running := rfl
set_option maxRecDepth 65536 in
theorem w_room : about1.hasRoom e0.platform room_1 = true :=
  launch0.hasRoom_least _ room_1 (by decide +kernel) (by decide +kernel) (by decide +kernel) (by decide +kernel) (by decide +kernel) (by decide +kernel)
theorem allAtoms_all (ts : List Jvm.Cond) (a : Array Jvm.Value) (st : Jvm.State) : (allAtoms ts).before a st = ts.all (fun c => c.before a st) := by
  induction ts with
  | nil => rfl
  | cons c t ih =>
    show (Jvm.Cond.and c (allAtoms t)).before a st = _
    rw [Jvm.Cond.before_and, ih, List.all_cons]
def words1 : List Jvm.Cond := Jvm.Cond.code x code maxLocals ret :: tables_1
/-- a 'code' word, met by the world's own term for the bytes: nothing is compared byte by byte -/
theorem code_word {y : MethodName} {bytes : ByteArray} {mx : Nat} {rt : Option FieldType} {a : Array Value} {s : State} {m : MethodId} {meth : Method} {c : Code} (h1 : s.methodNamed? y = some m) (h2 : s.vm.method? m = some meth) (h3 : meth.code = some c) (h4 : c.code = bytes)
    (h5 : (c.maxLocals == mx && c.exceptionTable.isEmpty && decide (c.maxStack ≤ mostOperands) && decide (meth.sig.returnType = rt) && !meth.locks && decide (parseMethodDescriptor y.desc = some meth.sig)) = true) : (Jvm.Cond.code y bytes mx rt).before a s = true := by
  simp only [Bool.and_eq_true, beq_iff_eq, Bool.not_eq_true', decide_eq_true_eq] at h5
  obtain ⟨⟨⟨⟨⟨g1, g2⟩, g3⟩, g4⟩, g5⟩, g6⟩ := h5
  simp [Cond.before, Cond.holds, Cond.value, h1, h2, h3, h4, g1, g2, g3, g4, g5, g6]
def isCode : Jvm.Cond → Bool
  | .code _ _ _ _ => true
  | _ => false
theorem all_split {L : List Jvm.Cond} {P : Jvm.Cond → Bool} (h1 : L.all (fun c => isCode c || P c) = true) (h2 : ∀ c ∈ L.filter isCode, P c = true) : L.all P = true := by
  refine List.all_eq_true.mpr fun c hc => ?_
  have h := List.all_eq_true.mp h1 c hc
  rcases Bool.eq_false_or_eq_true (isCode c) with hi | hi
  · exact h2 c (List.mem_filter.mpr ⟨hc, hi⟩)
  · simpa [hi] using h
set_option maxRecDepth 65536 in
theorem w_c0 : (Jvm.Cond.code x code maxLocals ret).before args0 about1 = true := code_word (m := ⟨1, 2⟩) (meth := k1m2) (c := k1c2) (by decide +kernel) rfl rfl rfl (by decide +kernel)
set_option maxRecDepth 65536 in
theorem w_c1 : (Jvm.Cond.code ({ cls := "com/example/intent_to_crawl/intenttocrawl/encoding/ShiftJisDecoder", name := "<init>", desc := "()V" } : Jvm.MethodName) prog_24_method_1_code (1 : Nat) (Option.none : Option Jvm.ClassFile.FieldType)).before args0 about1 = true := code_word (m := ⟨4, 0⟩) (meth := k4m0) (c := k4c0) (by decide +kernel) rfl rfl rfl (by decide +kernel)
set_option maxRecDepth 65536 in
theorem w_c2 : (Jvm.Cond.code ({ cls := "com/example/intent_to_crawl/intenttocrawl/encoding/DoubleByteDecoder", name := "<init>", desc := "()V" } : Jvm.MethodName) prog_12_method_1_code (1 : Nat) (Option.none : Option Jvm.ClassFile.FieldType)).before args0 about1 = true := code_word (m := ⟨3, 0⟩) (meth := k3m0) (c := k3c0) (by decide +kernel) rfl rfl rfl (by decide +kernel)
set_option maxRecDepth 65536 in
theorem w_c3 : (Jvm.Cond.code ({ cls := "java/lang/Object", name := "<init>", desc := "()V" } : Jvm.MethodName) object_method_1_code (1 : Nat) (Option.none : Option Jvm.ClassFile.FieldType)).before args0 about1 = true := code_word (m := ⟨0, 0⟩) (meth := k0m0) (c := k0c0) (by decide +kernel) rfl rfl rfl (by decide +kernel)
set_option maxRecDepth 65536 in
theorem w_c4 : (Jvm.Cond.code ({ cls := "com/example/intent_to_crawl/intenttocrawl/encoding/ShiftJisDecoder", name := "single", desc := "(I)I" } : Jvm.MethodName) prog_24_method_2_code (2 : Nat) (Option.some Jvm.ClassFile.FieldType.int)).before args0 about1 = true := code_word (m := ⟨4, 1⟩) (meth := k4m1) (c := k4c1) (by decide +kernel) rfl rfl rfl (by decide +kernel)
set_option maxRecDepth 65536 in
theorem w_c5 : (Jvm.Cond.code ({ cls := "com/example/intent_to_crawl/intenttocrawl/encoding/ShiftJisDecoderSinglePinLaw", name := "expected", desc := "(I)I" } : Jvm.MethodName) method_2_code (1 : Nat) (Option.some Jvm.ClassFile.FieldType.int)).before args0 about1 = true := code_word (m := ⟨1, 1⟩) (meth := k1m1) (c := k1c1) (by decide +kernel) rfl rfl rfl (by decide +kernel)
def codes1 : List Jvm.Cond := [Jvm.Cond.code x code maxLocals ret, Jvm.Cond.code ({ cls := "com/example/intent_to_crawl/intenttocrawl/encoding/ShiftJisDecoder", name := "<init>", desc := "()V" } : Jvm.MethodName) prog_24_method_1_code (1 : Nat) (Option.none : Option Jvm.ClassFile.FieldType), Jvm.Cond.code ({ cls := "com/example/intent_to_crawl/intenttocrawl/encoding/DoubleByteDecoder", name := "<init>", desc := "()V" } : Jvm.MethodName) prog_12_method_1_code (1 : Nat) (Option.none : Option Jvm.ClassFile.FieldType), Jvm.Cond.code ({ cls := "java/lang/Object", name := "<init>", desc := "()V" } : Jvm.MethodName) object_method_1_code (1 : Nat) (Option.none : Option Jvm.ClassFile.FieldType), Jvm.Cond.code ({ cls := "com/example/intent_to_crawl/intenttocrawl/encoding/ShiftJisDecoder", name := "single", desc := "(I)I" } : Jvm.MethodName) prog_24_method_2_code (2 : Nat) (Option.some Jvm.ClassFile.FieldType.int), Jvm.Cond.code ({ cls := "com/example/intent_to_crawl/intenttocrawl/encoding/ShiftJisDecoderSinglePinLaw", name := "expected", desc := "(I)I" } : Jvm.MethodName) method_2_code (1 : Nat) (Option.some Jvm.ClassFile.FieldType.int)]
set_option maxRecDepth 65536 in
theorem codes_eq : words1.filter isCode = codes1 := rfl
theorem w_codes : ∀ c ∈ words1.filter isCode, c.before args0 about1 = true := by
  rw [codes_eq]
  intro c hc
  simp only [codes1, List.mem_cons, List.not_mem_nil, or_false] at hc
  rcases hc with rfl | rfl | rfl | rfl | rfl | rfl
  · exact w_c0
  · exact w_c1
  · exact w_c2
  · exact w_c3
  · exact w_c4
  · exact w_c5
set_option maxRecDepth 65536 in
theorem w_t1 : (words1.take 24).all (fun c => isCode c || c.before args0 about1) = true := by decide +kernel
set_option maxRecDepth 65536 in
theorem w_t2 : (words1.drop 24).all (fun c => isCode c || c.before args0 about1) = true := by decide +kernel
theorem w_tables : (allAtoms (Jvm.Cond.code x code maxLocals ret :: tables_1)).before args0 about1 = true := by
  rw [allAtoms_all]
  show words1.all (fun c => c.before args0 about1) = true
  refine all_split ?_ w_codes
  rw [← List.take_append_drop 24 words1, List.all_append, w_t1, w_t2]
  rfl
set_option maxRecDepth 65536 in
theorem w_case : (Jvm.Cond.and given_1 narrow_1).before args0 about1 = true := by decide +kernel
theorem w_applies : (headSpec (Jvm.Cond.code x code maxLocals ret :: tables_1) room_1).applies x e0.platform about1 = true :=
  (Spec.applies_iff w_frames).mpr ⟨w_running, w_runnable, w_alone, w_named, w_hears, w_ripe, w_room, w_tables⟩
theorem atStart : AtStart classFile x code maxLocals ret World_1 tables_1 room_1 Calls_1 rest_1 Pre_1 launch0 p0 e0 about1 theMethod args0 below0 :=
  ⟨lists_1, trivial, launch0.admits_env _ _ _, launch0.least_env, fairChoices_fair.cas, fairChoices_fair.clock, w_frames, w_args, w_heap, w_applies, trivial, trivial, w_case⟩
end start1
theorem witness_1 : WitnessClaimed_1 := ⟨start1.p0, start1.e0, start1.about1, start1.theMethod, start1.args0, start1.below0, start1.atStart⟩
end Jvm.Pilot.@@N@@
