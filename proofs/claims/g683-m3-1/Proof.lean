import JvmDerived
import JvmDerived.Pilot.@@N@@Statement
import JvmDerived.Pilot.@@N@@Code
set_option linter.unusedVariables false
set_option linter.unusedSimpArgs false
namespace Jvm.RoadKit
open Sem ClassFile Op Lib Jvm.Stand Jvm.Free Jvm.LawKit
section New
variable {p : Program} {l : Launch} {e : Env} {R : Room} {s : State} {m : MethodId} {args : Array Value} {below : List Frame} {meth : Method} {c : Code} {T : State} {locs : List Loc} {cells slots : Nat}
theorem retI (X : Stand p l e R s m args below meth c T locs cells slots) (hx : p.tables.exec = Jvm.exec) {pc : Nat} {Ls : Array Slot} {z : Int32} {rest : List Value} (hret : meth.sig.returnType = some .int) (hd : decode c.code pc = .ok (.ireturn, 1)) {fs : List Frame}
    (hl : ∀ (f : JFrame) (acts : List Action), f.method = m → f.locked = none → f.entered = [] → (doReturn e (T.setTop f) acts (some (.int z))).1 = T.setFrames fs) : Steps p.tables e below (T.setTop (mkF m pc Ls (.int z :: rest))) (T.setFrames fs) := by
  have hm' : T.vm.method? m = some meth := X.method'
  have hn : narrow .int (.int z) = .int z := rfl
  show Steps p.tables e below (T.setTop { method := m, pc := pc, locals := Ls, stack := _ :: rest, locked := none }) _
  jvm_step X.here [X.here.top, hx, hd, hm', hret, hn]
  first | (intro acts; rw [hl _ acts rfl rfl rfl]) | rw [hl _ _ rfl rfl rfl]
  exact Steps.refl _
end New
end Jvm.RoadKit
namespace Jvm.Pilot.@@N@@
open Jvm Jvm.ClassFile Sem Op Lib Jvm.Free Jvm.Stand Jvm.LawKit Jvm.RoadKit Bundle Jvm.Pilot.@@N@@.Jvm.D
theorem own_go {tb : Tables} {e : Env} {below : List Frame} {T T' : State} {g g' : JFrame} {P : State → Outcome → Prop} (st : ∀ t, Steps tb e below (T'.setTop g') t → Steps tb e below (T.setTop g) t) (k : ∃ s₂ o, Steps tb e below (T'.setTop g') s₂ ∧ P s₂ o) : ∃ s₂ o, Steps tb e below (T.setTop g) s₂ ∧ P s₂ o := by
  obtain ⟨s₂, o, h, r⟩ := k
  exact ⟨s₂, o, st _ h, r⟩
def own_by (t : Int64) (s : Int32) : Int32 := nar .byte ((((t.toUInt64 >>> (s &&& 0x3f).toInt64.toUInt64).toInt64).toInt32).toInt8.toInt32)
def own_b0 (t : Int64) : Int32 := nar .byte ((t.toInt32).toInt8.toInt32)
theorem own_nar (x : Int32) : nar .byte (x.toInt8.toInt32) = x.toInt8.toInt32 := by
  have a := c_i2b x
  have b := c_i2b (x.toInt8.toInt32)
  show (x.toInt8.toInt32).toInt8.toInt32 = x.toInt8.toInt32
  rw [← Int32.toInt_inj]; omega
def own_put (vs : List Value) (k : Nat) (t : Int64) : List Value := ((((((((vs.set k (.int (own_by t 56))).set (k + 1) (.int (own_by t 48))).set (k + 2) (.int (own_by t 40))).set (k + 3) (.int (own_by t 32))).set (k + 4) (.int (own_by t 24))).set (k + 5) (.int (own_by t 16))).set (k + 6) (.int (own_by t 8))).set (k + 7) (.int (own_b0 t)))
theorem own_ix (p j : Int32) (k i : Nat) (hp : p.toInt = k) (hj : j.toInt = i) (hb : k + i < 1000) : (p + j).toNatClampNeg = k + i ∧ ¬ (p + j < 0) := by
  have e := c_iadd p j
  have ea := Int32.le_toInt (p + j)
  have eb := Int32.toInt_lt (p + j)
  have k0 : (0 : Int32).toInt = 0 := rfl
  rw [Int32.lt_iff_toInt_lt]
  simp only [Int32.toNatClampNeg]
  exact ⟨by omega, by omega⟩
theorem own_i0 (p : Int32) (k : Nat) (hp : p.toInt = k) : p.toNatClampNeg = k ∧ ¬ (p < 0) := by
  have k0 : (0 : Int32).toInt = 0 := rfl
  rw [Int32.lt_iff_toInt_lt]
  simp only [Int32.toNatClampNeg]
  exact ⟨by omega, by omega⟩
theorem own_inb {c : Cell} {z x : Int32} {n i : Nat} (S : c.slots.size = z.toNatClampNeg) (hz : n = z.toNatClampNeg) (hx : x.toNatClampNeg = i ∧ ¬ (x < 0)) (hi : i < n) : ¬ (x < 0 ∨ c.slots.size ≤ x.toNatClampNeg) := by
  rintro (q | q)
  · exact hx.2 q
  · rw [S, hx.1] at q; omega
theorem own_by_eq (t : Int64) (s : Int32) : own_by t s = ((((t.toUInt64 >>> (s &&& 0x3f).toInt64.toUInt64).toInt64).toInt32).toInt8.toInt32) := own_nar _
theorem own_b0_eq (t : Int64) : own_b0 t = ((t.toInt32).toInt8.toInt32) := own_nar _
def own_lk (x : Int32) : Int32 := if (x &&& (4 : Int32)) = (0 : Int32) then (0 : Int32) else (1 : Int32)
theorem own_lk2 (x : Int32) : own_lk x = (0 : Int32) ∨ own_lk x = (1 : Int32) := by
  unfold own_lk
  split
  · exact Or.inl rfl
  · exact Or.inr rfl
theorem own_n4 (x : Int32) : (x &&& (3 : Int32)) = (0 : Int32) ∨ (x &&& (3 : Int32)) = (1 : Int32) ∨ (x &&& (3 : Int32)) = (2 : Int32) ∨ (x &&& (3 : Int32)) = (3 : Int32) := by
  have h : (x &&& (3 : Int32)).toInt = x.toInt % (2 ^ 2 : Nat) := c_mask x 3 2 (by decide) (by decide)
  have k0 : (0 : Int32).toInt = 0 := rfl
  have k1 : (1 : Int32).toInt = 1 := rfl
  have k2 : (2 : Int32).toInt = 2 := rfl
  have k3 : (3 : Int32).toInt = 3 := rfl
  simp only [← Int32.toInt_inj]; omega
theorem pn_1 : plainName "com/example/thin_table/thintable/model/KeyOrderNewestValuePinLaw" = true := by first | (simp [plainName, overriddenIn]; done) | decide +kernel
theorem ef_1 (m : MethodId) (x0 : Addr) (x1 : Int32) (x2 : Int64) : entryFrame m #[(.ref x0), (.int x1), (.long x2)] 4 = mkF m 0 #[.val (.ref x0), .val (.int x1), .val (.long x2), .second] [] := by first | (simp [entryFrame, mkF, argsToLocals, Value.category]; done) | rfl
def Q_rput (Z : State) (a1 : Addr) (p2 : Int32) (q3 : Int64) (kA : ClassId) (z : Int32) (vs : List Value) (k : Nat) (h0 : Heap) (n0 : Nat) (v : Option Value) (h : Heap) (L : List Loc) : Prop := v = none ∧ Fr n0 L ∧ Keep h0 h [a1] ∧ Arv Z h a1 kA .byte z (own_put vs k q3) (.int (0 : Int32))
theorem d1_0 : decode method_3_code 0 = .ok (.aload_n 0, 1) := by decide +kernel
theorem d1_1 : decode method_3_code 1 = .ok (.iload_n 1, 1) := by decide +kernel
theorem d1_2 : decode method_3_code 2 = .ok (.lload_n 2, 1) := by decide +kernel
theorem d1_3 : decode method_3_code 3 = .ok (.bipush 56, 2) := by decide +kernel
theorem d1_5 : decode method_3_code 5 = .ok (.lushr, 1) := by decide +kernel
theorem d1_6 : decode method_3_code 6 = .ok (.l2i, 1) := by decide +kernel
theorem d1_7 : decode method_3_code 7 = .ok (.i2b, 1) := by decide +kernel
theorem d1_8 : decode method_3_code 8 = .ok (.bastore, 1) := by decide +kernel
theorem d1_9 : decode method_3_code 9 = .ok (.aload_n 0, 1) := by decide +kernel
theorem d1_10 : decode method_3_code 10 = .ok (.iload_n 1, 1) := by decide +kernel
theorem d1_11 : decode method_3_code 11 = .ok (.iconst 1, 1) := by decide +kernel
theorem d1_12 : decode method_3_code 12 = .ok (.iadd, 1) := by decide +kernel
theorem d1_13 : decode method_3_code 13 = .ok (.lload_n 2, 1) := by decide +kernel
theorem d1_14 : decode method_3_code 14 = .ok (.bipush 48, 2) := by decide +kernel
theorem d1_16 : decode method_3_code 16 = .ok (.lushr, 1) := by decide +kernel
theorem d1_17 : decode method_3_code 17 = .ok (.l2i, 1) := by decide +kernel
theorem d1_18 : decode method_3_code 18 = .ok (.i2b, 1) := by decide +kernel
theorem d1_19 : decode method_3_code 19 = .ok (.bastore, 1) := by decide +kernel
theorem d1_20 : decode method_3_code 20 = .ok (.aload_n 0, 1) := by decide +kernel
theorem d1_21 : decode method_3_code 21 = .ok (.iload_n 1, 1) := by decide +kernel
theorem d1_22 : decode method_3_code 22 = .ok (.iconst 2, 1) := by decide +kernel
theorem d1_23 : decode method_3_code 23 = .ok (.iadd, 1) := by decide +kernel
theorem d1_24 : decode method_3_code 24 = .ok (.lload_n 2, 1) := by decide +kernel
theorem d1_25 : decode method_3_code 25 = .ok (.bipush 40, 2) := by decide +kernel
theorem d1_27 : decode method_3_code 27 = .ok (.lushr, 1) := by decide +kernel
theorem d1_28 : decode method_3_code 28 = .ok (.l2i, 1) := by decide +kernel
theorem d1_29 : decode method_3_code 29 = .ok (.i2b, 1) := by decide +kernel
theorem d1_30 : decode method_3_code 30 = .ok (.bastore, 1) := by decide +kernel
theorem d1_31 : decode method_3_code 31 = .ok (.aload_n 0, 1) := by decide +kernel
theorem d1_32 : decode method_3_code 32 = .ok (.iload_n 1, 1) := by decide +kernel
theorem d1_33 : decode method_3_code 33 = .ok (.iconst 3, 1) := by decide +kernel
theorem d1_34 : decode method_3_code 34 = .ok (.iadd, 1) := by decide +kernel
theorem d1_35 : decode method_3_code 35 = .ok (.lload_n 2, 1) := by decide +kernel
theorem d1_36 : decode method_3_code 36 = .ok (.bipush 32, 2) := by decide +kernel
theorem d1_38 : decode method_3_code 38 = .ok (.lushr, 1) := by decide +kernel
theorem d1_39 : decode method_3_code 39 = .ok (.l2i, 1) := by decide +kernel
theorem d1_40 : decode method_3_code 40 = .ok (.i2b, 1) := by decide +kernel
theorem d1_41 : decode method_3_code 41 = .ok (.bastore, 1) := by decide +kernel
theorem d1_42 : decode method_3_code 42 = .ok (.aload_n 0, 1) := by decide +kernel
theorem d1_43 : decode method_3_code 43 = .ok (.iload_n 1, 1) := by decide +kernel
theorem d1_44 : decode method_3_code 44 = .ok (.iconst 4, 1) := by decide +kernel
theorem d1_45 : decode method_3_code 45 = .ok (.iadd, 1) := by decide +kernel
theorem d1_46 : decode method_3_code 46 = .ok (.lload_n 2, 1) := by decide +kernel
theorem d1_47 : decode method_3_code 47 = .ok (.bipush 24, 2) := by decide +kernel
theorem d1_49 : decode method_3_code 49 = .ok (.lushr, 1) := by decide +kernel
theorem d1_50 : decode method_3_code 50 = .ok (.l2i, 1) := by decide +kernel
theorem d1_51 : decode method_3_code 51 = .ok (.i2b, 1) := by decide +kernel
theorem d1_52 : decode method_3_code 52 = .ok (.bastore, 1) := by decide +kernel
theorem d1_53 : decode method_3_code 53 = .ok (.aload_n 0, 1) := by decide +kernel
theorem d1_54 : decode method_3_code 54 = .ok (.iload_n 1, 1) := by decide +kernel
theorem d1_55 : decode method_3_code 55 = .ok (.iconst 5, 1) := by decide +kernel
theorem d1_56 : decode method_3_code 56 = .ok (.iadd, 1) := by decide +kernel
theorem d1_57 : decode method_3_code 57 = .ok (.lload_n 2, 1) := by decide +kernel
theorem d1_58 : decode method_3_code 58 = .ok (.bipush 16, 2) := by decide +kernel
theorem d1_60 : decode method_3_code 60 = .ok (.lushr, 1) := by decide +kernel
theorem d1_61 : decode method_3_code 61 = .ok (.l2i, 1) := by decide +kernel
theorem d1_62 : decode method_3_code 62 = .ok (.i2b, 1) := by decide +kernel
theorem d1_63 : decode method_3_code 63 = .ok (.bastore, 1) := by decide +kernel
theorem d1_64 : decode method_3_code 64 = .ok (.aload_n 0, 1) := by decide +kernel
theorem d1_65 : decode method_3_code 65 = .ok (.iload_n 1, 1) := by decide +kernel
theorem d1_66 : decode method_3_code 66 = .ok (.bipush 6, 2) := by decide +kernel
theorem d1_68 : decode method_3_code 68 = .ok (.iadd, 1) := by decide +kernel
theorem d1_69 : decode method_3_code 69 = .ok (.lload_n 2, 1) := by decide +kernel
theorem d1_70 : decode method_3_code 70 = .ok (.bipush 8, 2) := by decide +kernel
theorem d1_72 : decode method_3_code 72 = .ok (.lushr, 1) := by decide +kernel
theorem d1_73 : decode method_3_code 73 = .ok (.l2i, 1) := by decide +kernel
theorem d1_74 : decode method_3_code 74 = .ok (.i2b, 1) := by decide +kernel
theorem d1_75 : decode method_3_code 75 = .ok (.bastore, 1) := by decide +kernel
theorem d1_76 : decode method_3_code 76 = .ok (.aload_n 0, 1) := by decide +kernel
theorem d1_77 : decode method_3_code 77 = .ok (.iload_n 1, 1) := by decide +kernel
theorem d1_78 : decode method_3_code 78 = .ok (.bipush 7, 2) := by decide +kernel
theorem d1_80 : decode method_3_code 80 = .ok (.iadd, 1) := by decide +kernel
theorem d1_81 : decode method_3_code 81 = .ok (.lload_n 2, 1) := by decide +kernel
theorem d1_82 : decode method_3_code 82 = .ok (.l2i, 1) := by decide +kernel
theorem d1_83 : decode method_3_code 83 = .ok (.i2b, 1) := by decide +kernel
theorem d1_84 : decode method_3_code 84 = .ok (.bastore, 1) := by decide +kernel
theorem d1_85 : decode method_3_code 85 = .ok (.return_, 1) := by decide +kernel
set_option maxRecDepth 65536 in
set_option maxHeartbeats 40000000 in
theorem rput (l : Launch) (Z : State) (a0 : Array Value) (hw : ∀ d ∈ tables_1, d.before a0 Z = true) (ws : List Jvm.Cond) (a1 : Addr) (p2 : Int32) (q3 : Int64) (kA : ClassId) (z : Int32) (vs : List Value) (k : Nat) (h0 : Heap) (n0 : Nat) (Z0 : n0 ≤ h0.size) (V0 : Arv Z h0 a1 kA .byte z vs (.int (0 : Int32))) (g_a1 : n0 ≤ a1) (hp : p2.toInt = k) (hk : k + 8 ≤ vs.length) (hz : vs.length = z.toNatClampNeg) (hl : vs.length < 900) :
    MetFree l (⟨"com/example/thin_table/thintable/model/KeyOrderNewestValuePinLaw", "put", "([BIJ)V"⟩ : MethodName) (head1 (Jvm.Cond.code (⟨"com/example/thin_table/thintable/model/KeyOrderNewestValuePinLaw", "put", "([BIJ)V"⟩ : MethodName) method_3_code 4 none :: ws) ({ frames := 0, cells := 0, slots := 0, locals := 0 } : Room)) (fun a U => a = #[(.ref a1), (.int p2), (.long q3)] ∧ Z.Warmed39 U.vm ∧ U.heap = h0) (fun _ _ _ _ _ => True) (fun _ U o U' => ∃ v L, o = .returned v ∧ Q_rput Z a1 p2 q3 kA z vs k h0 n0 v U'.heap L ∧ FrameEnd U o U' L ({ frames := 0, cells := 0, slots := 0, locals := 0 } : Room).cells ({ frames := 0, cells := 0, slots := 0, locals := 0 } : Room).slots) := by
  refine MetFree.of_bodySF (plainFor_of_name pn_1) hisR ?_
  intro p e s m args below meth c s₁ Bd hml0 hP hK
  obtain ⟨rfl, hZ, hh⟩ := hP
  have hx := Bd.exec
  have hby := Bd.bytes
  have hml : c.maxLocals = 4 := hml0
  have hown : s.vm.findClass "com/example/thin_table/thintable/model/KeyOrderNewestValuePinLaw" = some m.cls := findClass_of_methodNamed Bd.named
  have hnm := (name_of_methodNamed Bd.named Bd.method).1
  have X0 : Stand p l e ({ frames := 0, cells := 0, slots := 0, locals := 0 } : Room) s m #[(.ref a1), (.int p2), (.long q3)] below meth c s₁ [] 0 0 := Stand.of_body Bd
  have e0 : s₁.heap = h0 := by rw [← hh, Bd.state]; rfl
  have N0 := Fr.nil n0
  refine own_go (g' := (mkF m 0 #[.val (.ref a1), .val (.int p2), .val (.long q3), .second] [])) (fun t k => castTop (ef_1 m (a1) (p2) (q3)) k) ?_
  refine own_go (T' := s₁) (g' := (mkF m 8 #[.val (.ref a1), .val (.int p2), .val (.long q3), .second] [(.int ((((q3.toUInt64 >>> ((56 : Int32) &&& 0x3f).toInt64.toUInt64).toInt64).toInt32).toInt8.toInt32)), (.int p2), (.ref a1)])) (fun t kt => ?_) ?_
  · show Steps p.tables e below (s₁.setTop (mkF m 0 #[.val (.ref a1), .val (.int p2), .val (.long q3), .second] [])) t
    refine XS.aloadN X0.here hx rfl (hb hby d1_0) rfl rfl ?_
    show Steps p.tables e below (s₁.setTop (mkF m 1 #[.val (.ref a1), .val (.int p2), .val (.long q3), .second] [(.ref a1)])) t
    refine XS.iloadN X0.here hx rfl (hb hby d1_1) rfl ?_
    show Steps p.tables e below (s₁.setTop (mkF m 2 #[.val (.ref a1), .val (.int p2), .val (.long q3), .second] [(.int p2), (.ref a1)])) t
    refine XS.lloadN X0.here hx rfl (hb hby d1_2) rfl ?_
    show Steps p.tables e below (s₁.setTop (mkF m 3 #[.val (.ref a1), .val (.int p2), .val (.long q3), .second] [(.long q3), (.int p2), (.ref a1)])) t
    refine XS.bipush X0.here hx rfl (hb hby d1_3) ?_
    show Steps p.tables e below (s₁.setTop (mkF m 5 #[.val (.ref a1), .val (.int p2), .val (.long q3), .second] [(.int (56 : Int32)), (.long q3), (.int p2), (.ref a1)])) t
    refine XS.lushr X0.here hx rfl (hb hby d1_5) rfl ?_
    show Steps p.tables e below (s₁.setTop (mkF m 6 #[.val (.ref a1), .val (.int p2), .val (.long q3), .second] [(.long ((q3.toUInt64 >>> ((56 : Int32) &&& 0x3f).toInt64.toUInt64).toInt64)), (.int p2), (.ref a1)])) t
    refine XS.l2i X0.here hx rfl (hb hby d1_6) rfl ?_
    show Steps p.tables e below (s₁.setTop (mkF m 7 #[.val (.ref a1), .val (.int p2), .val (.long q3), .second] [(.int (((q3.toUInt64 >>> ((56 : Int32) &&& 0x3f).toInt64.toUInt64).toInt64).toInt32)), (.int p2), (.ref a1)])) t
    refine XS.i2b X0.here hx rfl (hb hby d1_7) rfl ?_
    exact kt
  have vq_1 := V0
  obtain ⟨c_1, a_1, q_1, s_1, m_1, H_1, G_1⟩ := vq_1
  have hin_1 : ¬ (p2 < 0 ∨ c_1.slots.size ≤ (p2).toNatClampNeg) := own_inb s_1 hz (own_i0 p2 k hp) (by omega)
  obtain ⟨T_1, h_1, X_1, e_1, W_1, st_1⟩ := stB X0 hx hZ e0 a_1 (j := p2) hin_1 (g := (mkF m 8 #[.val (.ref a1), .val (.int p2), .val (.long q3), .second] [(.int ((((q3.toUInt64 >>> ((56 : Int32) &&& 0x3f).toInt64.toUInt64).toInt64).toInt32).toInt8.toInt32)), (.int p2), (.ref a1)])) rfl rfl (hb hby d1_8)
  have V_1 : Arv Z h_1 a1 kA .byte z (vs.set k (.int (nar .byte ((((q3.toUInt64 >>> ((56 : Int32) &&& 0x3f).toInt64.toUInt64).toInt64).toInt32).toInt8.toInt32)))) (.int (0 : Int32)) := Arv.set a_1 q_1 s_1 m_1 H_1 G_1 (fits_nar_byte _) W_1 k (own_i0 p2 k hp).1 (by first | omega | (simp only [List.length_set]; omega))
  have Z_1 : n0 ≤ h_1.size := Nat.le_trans Z0 (Keep.of_wr W_1).1
  have kk_1 : Keep h0 h_1 [a1] := (Keep.refl h0 [a1]).wr W_1 (Or.inl (List.mem_of_getElem? (i := 0) rfl))
  have N_1 := Fr.snoc X_1 N0 g_a1
  refine own_go (g' := (mkF m 9 #[.val (.ref a1), .val (.int p2), .val (.long q3), .second] [])) st_1 ?_
  refine own_go (T' := T_1) (g' := (mkF m 19 #[.val (.ref a1), .val (.int p2), .val (.long q3), .second] [(.int ((((q3.toUInt64 >>> ((48 : Int32) &&& 0x3f).toInt64.toUInt64).toInt64).toInt32).toInt8.toInt32)), (.int (p2 + (1 : Int32))), (.ref a1)])) (fun t kt => ?_) ?_
  · show Steps p.tables e below (T_1.setTop (mkF m 9 #[.val (.ref a1), .val (.int p2), .val (.long q3), .second] [])) t
    refine XS.aloadN X_1.here hx rfl (hb hby d1_9) rfl rfl ?_
    show Steps p.tables e below (T_1.setTop (mkF m 10 #[.val (.ref a1), .val (.int p2), .val (.long q3), .second] [(.ref a1)])) t
    refine XS.iloadN X_1.here hx rfl (hb hby d1_10) rfl ?_
    show Steps p.tables e below (T_1.setTop (mkF m 11 #[.val (.ref a1), .val (.int p2), .val (.long q3), .second] [(.int p2), (.ref a1)])) t
    refine XS.iconst X_1.here hx rfl (hb hby d1_11) ?_
    show Steps p.tables e below (T_1.setTop (mkF m 12 #[.val (.ref a1), .val (.int p2), .val (.long q3), .second] [(.int (1 : Int32)), (.int p2), (.ref a1)])) t
    refine XS.iadd X_1.here hx rfl (hb hby d1_12) rfl ?_
    show Steps p.tables e below (T_1.setTop (mkF m 13 #[.val (.ref a1), .val (.int p2), .val (.long q3), .second] [(.int (p2 + (1 : Int32))), (.ref a1)])) t
    refine XS.lloadN X_1.here hx rfl (hb hby d1_13) rfl ?_
    show Steps p.tables e below (T_1.setTop (mkF m 14 #[.val (.ref a1), .val (.int p2), .val (.long q3), .second] [(.long q3), (.int (p2 + (1 : Int32))), (.ref a1)])) t
    refine XS.bipush X_1.here hx rfl (hb hby d1_14) ?_
    show Steps p.tables e below (T_1.setTop (mkF m 16 #[.val (.ref a1), .val (.int p2), .val (.long q3), .second] [(.int (48 : Int32)), (.long q3), (.int (p2 + (1 : Int32))), (.ref a1)])) t
    refine XS.lushr X_1.here hx rfl (hb hby d1_16) rfl ?_
    show Steps p.tables e below (T_1.setTop (mkF m 17 #[.val (.ref a1), .val (.int p2), .val (.long q3), .second] [(.long ((q3.toUInt64 >>> ((48 : Int32) &&& 0x3f).toInt64.toUInt64).toInt64)), (.int (p2 + (1 : Int32))), (.ref a1)])) t
    refine XS.l2i X_1.here hx rfl (hb hby d1_17) rfl ?_
    show Steps p.tables e below (T_1.setTop (mkF m 18 #[.val (.ref a1), .val (.int p2), .val (.long q3), .second] [(.int (((q3.toUInt64 >>> ((48 : Int32) &&& 0x3f).toInt64.toUInt64).toInt64).toInt32)), (.int (p2 + (1 : Int32))), (.ref a1)])) t
    refine XS.i2b X_1.here hx rfl (hb hby d1_18) rfl ?_
    exact kt
  have vq_2 := V_1
  obtain ⟨c_2, a_2, q_2, s_2, m_2, H_2, G_2⟩ := vq_2
  have hin_2 : ¬ ((p2 + (1 : Int32)) < 0 ∨ c_2.slots.size ≤ ((p2 + (1 : Int32))).toNatClampNeg) := own_inb s_2 hz (own_ix p2 (1 : Int32) k 1 hp rfl (by omega)) (by omega)
  obtain ⟨T_2, h_2, X_2, e_2, W_2, st_2⟩ := stB X_1 hx hZ e_1 a_2 (j := (p2 + (1 : Int32))) hin_2 (g := (mkF m 19 #[.val (.ref a1), .val (.int p2), .val (.long q3), .second] [(.int ((((q3.toUInt64 >>> ((48 : Int32) &&& 0x3f).toInt64.toUInt64).toInt64).toInt32).toInt8.toInt32)), (.int (p2 + (1 : Int32))), (.ref a1)])) rfl rfl (hb hby d1_19)
  have V_2 : Arv Z h_2 a1 kA .byte z ((vs.set k (.int (nar .byte ((((q3.toUInt64 >>> ((56 : Int32) &&& 0x3f).toInt64.toUInt64).toInt64).toInt32).toInt8.toInt32)))).set (k + 1) (.int (nar .byte ((((q3.toUInt64 >>> ((48 : Int32) &&& 0x3f).toInt64.toUInt64).toInt64).toInt32).toInt8.toInt32)))) (.int (0 : Int32)) := Arv.set a_2 q_2 s_2 m_2 H_2 G_2 (fits_nar_byte _) W_2 (k + 1) (own_ix p2 (1 : Int32) k 1 hp rfl (by omega)).1 (by first | omega | (simp only [List.length_set]; omega))
  have Z_2 : n0 ≤ h_2.size := Nat.le_trans Z_1 (Keep.of_wr W_2).1
  have kk_2 : Keep h0 h_2 [a1] := kk_1.wr W_2 (Or.inl (List.mem_of_getElem? (i := 0) rfl))
  have N_2 := Fr.snoc X_2 N_1 g_a1
  refine own_go (g' := (mkF m 20 #[.val (.ref a1), .val (.int p2), .val (.long q3), .second] [])) st_2 ?_
  refine own_go (T' := T_2) (g' := (mkF m 30 #[.val (.ref a1), .val (.int p2), .val (.long q3), .second] [(.int ((((q3.toUInt64 >>> ((40 : Int32) &&& 0x3f).toInt64.toUInt64).toInt64).toInt32).toInt8.toInt32)), (.int (p2 + (2 : Int32))), (.ref a1)])) (fun t kt => ?_) ?_
  · show Steps p.tables e below (T_2.setTop (mkF m 20 #[.val (.ref a1), .val (.int p2), .val (.long q3), .second] [])) t
    refine XS.aloadN X_2.here hx rfl (hb hby d1_20) rfl rfl ?_
    show Steps p.tables e below (T_2.setTop (mkF m 21 #[.val (.ref a1), .val (.int p2), .val (.long q3), .second] [(.ref a1)])) t
    refine XS.iloadN X_2.here hx rfl (hb hby d1_21) rfl ?_
    show Steps p.tables e below (T_2.setTop (mkF m 22 #[.val (.ref a1), .val (.int p2), .val (.long q3), .second] [(.int p2), (.ref a1)])) t
    refine XS.iconst X_2.here hx rfl (hb hby d1_22) ?_
    show Steps p.tables e below (T_2.setTop (mkF m 23 #[.val (.ref a1), .val (.int p2), .val (.long q3), .second] [(.int (2 : Int32)), (.int p2), (.ref a1)])) t
    refine XS.iadd X_2.here hx rfl (hb hby d1_23) rfl ?_
    show Steps p.tables e below (T_2.setTop (mkF m 24 #[.val (.ref a1), .val (.int p2), .val (.long q3), .second] [(.int (p2 + (2 : Int32))), (.ref a1)])) t
    refine XS.lloadN X_2.here hx rfl (hb hby d1_24) rfl ?_
    show Steps p.tables e below (T_2.setTop (mkF m 25 #[.val (.ref a1), .val (.int p2), .val (.long q3), .second] [(.long q3), (.int (p2 + (2 : Int32))), (.ref a1)])) t
    refine XS.bipush X_2.here hx rfl (hb hby d1_25) ?_
    show Steps p.tables e below (T_2.setTop (mkF m 27 #[.val (.ref a1), .val (.int p2), .val (.long q3), .second] [(.int (40 : Int32)), (.long q3), (.int (p2 + (2 : Int32))), (.ref a1)])) t
    refine XS.lushr X_2.here hx rfl (hb hby d1_27) rfl ?_
    show Steps p.tables e below (T_2.setTop (mkF m 28 #[.val (.ref a1), .val (.int p2), .val (.long q3), .second] [(.long ((q3.toUInt64 >>> ((40 : Int32) &&& 0x3f).toInt64.toUInt64).toInt64)), (.int (p2 + (2 : Int32))), (.ref a1)])) t
    refine XS.l2i X_2.here hx rfl (hb hby d1_28) rfl ?_
    show Steps p.tables e below (T_2.setTop (mkF m 29 #[.val (.ref a1), .val (.int p2), .val (.long q3), .second] [(.int (((q3.toUInt64 >>> ((40 : Int32) &&& 0x3f).toInt64.toUInt64).toInt64).toInt32)), (.int (p2 + (2 : Int32))), (.ref a1)])) t
    refine XS.i2b X_2.here hx rfl (hb hby d1_29) rfl ?_
    exact kt
  have vq_3 := V_2
  obtain ⟨c_3, a_3, q_3, s_3, m_3, H_3, G_3⟩ := vq_3
  have hin_3 : ¬ ((p2 + (2 : Int32)) < 0 ∨ c_3.slots.size ≤ ((p2 + (2 : Int32))).toNatClampNeg) := own_inb s_3 hz (own_ix p2 (2 : Int32) k 2 hp rfl (by omega)) (by omega)
  obtain ⟨T_3, h_3, X_3, e_3, W_3, st_3⟩ := stB X_2 hx hZ e_2 a_3 (j := (p2 + (2 : Int32))) hin_3 (g := (mkF m 30 #[.val (.ref a1), .val (.int p2), .val (.long q3), .second] [(.int ((((q3.toUInt64 >>> ((40 : Int32) &&& 0x3f).toInt64.toUInt64).toInt64).toInt32).toInt8.toInt32)), (.int (p2 + (2 : Int32))), (.ref a1)])) rfl rfl (hb hby d1_30)
  have V_3 : Arv Z h_3 a1 kA .byte z (((vs.set k (.int (nar .byte ((((q3.toUInt64 >>> ((56 : Int32) &&& 0x3f).toInt64.toUInt64).toInt64).toInt32).toInt8.toInt32)))).set (k + 1) (.int (nar .byte ((((q3.toUInt64 >>> ((48 : Int32) &&& 0x3f).toInt64.toUInt64).toInt64).toInt32).toInt8.toInt32)))).set (k + 2) (.int (nar .byte ((((q3.toUInt64 >>> ((40 : Int32) &&& 0x3f).toInt64.toUInt64).toInt64).toInt32).toInt8.toInt32)))) (.int (0 : Int32)) := Arv.set a_3 q_3 s_3 m_3 H_3 G_3 (fits_nar_byte _) W_3 (k + 2) (own_ix p2 (2 : Int32) k 2 hp rfl (by omega)).1 (by first | omega | (simp only [List.length_set]; omega))
  have Z_3 : n0 ≤ h_3.size := Nat.le_trans Z_2 (Keep.of_wr W_3).1
  have kk_3 : Keep h0 h_3 [a1] := kk_2.wr W_3 (Or.inl (List.mem_of_getElem? (i := 0) rfl))
  have N_3 := Fr.snoc X_3 N_2 g_a1
  refine own_go (g' := (mkF m 31 #[.val (.ref a1), .val (.int p2), .val (.long q3), .second] [])) st_3 ?_
  refine own_go (T' := T_3) (g' := (mkF m 41 #[.val (.ref a1), .val (.int p2), .val (.long q3), .second] [(.int ((((q3.toUInt64 >>> ((32 : Int32) &&& 0x3f).toInt64.toUInt64).toInt64).toInt32).toInt8.toInt32)), (.int (p2 + (3 : Int32))), (.ref a1)])) (fun t kt => ?_) ?_
  · show Steps p.tables e below (T_3.setTop (mkF m 31 #[.val (.ref a1), .val (.int p2), .val (.long q3), .second] [])) t
    refine XS.aloadN X_3.here hx rfl (hb hby d1_31) rfl rfl ?_
    show Steps p.tables e below (T_3.setTop (mkF m 32 #[.val (.ref a1), .val (.int p2), .val (.long q3), .second] [(.ref a1)])) t
    refine XS.iloadN X_3.here hx rfl (hb hby d1_32) rfl ?_
    show Steps p.tables e below (T_3.setTop (mkF m 33 #[.val (.ref a1), .val (.int p2), .val (.long q3), .second] [(.int p2), (.ref a1)])) t
    refine XS.iconst X_3.here hx rfl (hb hby d1_33) ?_
    show Steps p.tables e below (T_3.setTop (mkF m 34 #[.val (.ref a1), .val (.int p2), .val (.long q3), .second] [(.int (3 : Int32)), (.int p2), (.ref a1)])) t
    refine XS.iadd X_3.here hx rfl (hb hby d1_34) rfl ?_
    show Steps p.tables e below (T_3.setTop (mkF m 35 #[.val (.ref a1), .val (.int p2), .val (.long q3), .second] [(.int (p2 + (3 : Int32))), (.ref a1)])) t
    refine XS.lloadN X_3.here hx rfl (hb hby d1_35) rfl ?_
    show Steps p.tables e below (T_3.setTop (mkF m 36 #[.val (.ref a1), .val (.int p2), .val (.long q3), .second] [(.long q3), (.int (p2 + (3 : Int32))), (.ref a1)])) t
    refine XS.bipush X_3.here hx rfl (hb hby d1_36) ?_
    show Steps p.tables e below (T_3.setTop (mkF m 38 #[.val (.ref a1), .val (.int p2), .val (.long q3), .second] [(.int (32 : Int32)), (.long q3), (.int (p2 + (3 : Int32))), (.ref a1)])) t
    refine XS.lushr X_3.here hx rfl (hb hby d1_38) rfl ?_
    show Steps p.tables e below (T_3.setTop (mkF m 39 #[.val (.ref a1), .val (.int p2), .val (.long q3), .second] [(.long ((q3.toUInt64 >>> ((32 : Int32) &&& 0x3f).toInt64.toUInt64).toInt64)), (.int (p2 + (3 : Int32))), (.ref a1)])) t
    refine XS.l2i X_3.here hx rfl (hb hby d1_39) rfl ?_
    show Steps p.tables e below (T_3.setTop (mkF m 40 #[.val (.ref a1), .val (.int p2), .val (.long q3), .second] [(.int (((q3.toUInt64 >>> ((32 : Int32) &&& 0x3f).toInt64.toUInt64).toInt64).toInt32)), (.int (p2 + (3 : Int32))), (.ref a1)])) t
    refine XS.i2b X_3.here hx rfl (hb hby d1_40) rfl ?_
    exact kt
  have vq_4 := V_3
  obtain ⟨c_4, a_4, q_4, s_4, m_4, H_4, G_4⟩ := vq_4
  have hin_4 : ¬ ((p2 + (3 : Int32)) < 0 ∨ c_4.slots.size ≤ ((p2 + (3 : Int32))).toNatClampNeg) := own_inb s_4 hz (own_ix p2 (3 : Int32) k 3 hp rfl (by omega)) (by omega)
  obtain ⟨T_4, h_4, X_4, e_4, W_4, st_4⟩ := stB X_3 hx hZ e_3 a_4 (j := (p2 + (3 : Int32))) hin_4 (g := (mkF m 41 #[.val (.ref a1), .val (.int p2), .val (.long q3), .second] [(.int ((((q3.toUInt64 >>> ((32 : Int32) &&& 0x3f).toInt64.toUInt64).toInt64).toInt32).toInt8.toInt32)), (.int (p2 + (3 : Int32))), (.ref a1)])) rfl rfl (hb hby d1_41)
  have V_4 : Arv Z h_4 a1 kA .byte z ((((vs.set k (.int (nar .byte ((((q3.toUInt64 >>> ((56 : Int32) &&& 0x3f).toInt64.toUInt64).toInt64).toInt32).toInt8.toInt32)))).set (k + 1) (.int (nar .byte ((((q3.toUInt64 >>> ((48 : Int32) &&& 0x3f).toInt64.toUInt64).toInt64).toInt32).toInt8.toInt32)))).set (k + 2) (.int (nar .byte ((((q3.toUInt64 >>> ((40 : Int32) &&& 0x3f).toInt64.toUInt64).toInt64).toInt32).toInt8.toInt32)))).set (k + 3) (.int (nar .byte ((((q3.toUInt64 >>> ((32 : Int32) &&& 0x3f).toInt64.toUInt64).toInt64).toInt32).toInt8.toInt32)))) (.int (0 : Int32)) := Arv.set a_4 q_4 s_4 m_4 H_4 G_4 (fits_nar_byte _) W_4 (k + 3) (own_ix p2 (3 : Int32) k 3 hp rfl (by omega)).1 (by first | omega | (simp only [List.length_set]; omega))
  have Z_4 : n0 ≤ h_4.size := Nat.le_trans Z_3 (Keep.of_wr W_4).1
  have kk_4 : Keep h0 h_4 [a1] := kk_3.wr W_4 (Or.inl (List.mem_of_getElem? (i := 0) rfl))
  have N_4 := Fr.snoc X_4 N_3 g_a1
  refine own_go (g' := (mkF m 42 #[.val (.ref a1), .val (.int p2), .val (.long q3), .second] [])) st_4 ?_
  refine own_go (T' := T_4) (g' := (mkF m 52 #[.val (.ref a1), .val (.int p2), .val (.long q3), .second] [(.int ((((q3.toUInt64 >>> ((24 : Int32) &&& 0x3f).toInt64.toUInt64).toInt64).toInt32).toInt8.toInt32)), (.int (p2 + (4 : Int32))), (.ref a1)])) (fun t kt => ?_) ?_
  · show Steps p.tables e below (T_4.setTop (mkF m 42 #[.val (.ref a1), .val (.int p2), .val (.long q3), .second] [])) t
    refine XS.aloadN X_4.here hx rfl (hb hby d1_42) rfl rfl ?_
    show Steps p.tables e below (T_4.setTop (mkF m 43 #[.val (.ref a1), .val (.int p2), .val (.long q3), .second] [(.ref a1)])) t
    refine XS.iloadN X_4.here hx rfl (hb hby d1_43) rfl ?_
    show Steps p.tables e below (T_4.setTop (mkF m 44 #[.val (.ref a1), .val (.int p2), .val (.long q3), .second] [(.int p2), (.ref a1)])) t
    refine XS.iconst X_4.here hx rfl (hb hby d1_44) ?_
    show Steps p.tables e below (T_4.setTop (mkF m 45 #[.val (.ref a1), .val (.int p2), .val (.long q3), .second] [(.int (4 : Int32)), (.int p2), (.ref a1)])) t
    refine XS.iadd X_4.here hx rfl (hb hby d1_45) rfl ?_
    show Steps p.tables e below (T_4.setTop (mkF m 46 #[.val (.ref a1), .val (.int p2), .val (.long q3), .second] [(.int (p2 + (4 : Int32))), (.ref a1)])) t
    refine XS.lloadN X_4.here hx rfl (hb hby d1_46) rfl ?_
    show Steps p.tables e below (T_4.setTop (mkF m 47 #[.val (.ref a1), .val (.int p2), .val (.long q3), .second] [(.long q3), (.int (p2 + (4 : Int32))), (.ref a1)])) t
    refine XS.bipush X_4.here hx rfl (hb hby d1_47) ?_
    show Steps p.tables e below (T_4.setTop (mkF m 49 #[.val (.ref a1), .val (.int p2), .val (.long q3), .second] [(.int (24 : Int32)), (.long q3), (.int (p2 + (4 : Int32))), (.ref a1)])) t
    refine XS.lushr X_4.here hx rfl (hb hby d1_49) rfl ?_
    show Steps p.tables e below (T_4.setTop (mkF m 50 #[.val (.ref a1), .val (.int p2), .val (.long q3), .second] [(.long ((q3.toUInt64 >>> ((24 : Int32) &&& 0x3f).toInt64.toUInt64).toInt64)), (.int (p2 + (4 : Int32))), (.ref a1)])) t
    refine XS.l2i X_4.here hx rfl (hb hby d1_50) rfl ?_
    show Steps p.tables e below (T_4.setTop (mkF m 51 #[.val (.ref a1), .val (.int p2), .val (.long q3), .second] [(.int (((q3.toUInt64 >>> ((24 : Int32) &&& 0x3f).toInt64.toUInt64).toInt64).toInt32)), (.int (p2 + (4 : Int32))), (.ref a1)])) t
    refine XS.i2b X_4.here hx rfl (hb hby d1_51) rfl ?_
    exact kt
  have vq_5 := V_4
  obtain ⟨c_5, a_5, q_5, s_5, m_5, H_5, G_5⟩ := vq_5
  have hin_5 : ¬ ((p2 + (4 : Int32)) < 0 ∨ c_5.slots.size ≤ ((p2 + (4 : Int32))).toNatClampNeg) := own_inb s_5 hz (own_ix p2 (4 : Int32) k 4 hp rfl (by omega)) (by omega)
  obtain ⟨T_5, h_5, X_5, e_5, W_5, st_5⟩ := stB X_4 hx hZ e_4 a_5 (j := (p2 + (4 : Int32))) hin_5 (g := (mkF m 52 #[.val (.ref a1), .val (.int p2), .val (.long q3), .second] [(.int ((((q3.toUInt64 >>> ((24 : Int32) &&& 0x3f).toInt64.toUInt64).toInt64).toInt32).toInt8.toInt32)), (.int (p2 + (4 : Int32))), (.ref a1)])) rfl rfl (hb hby d1_52)
  have V_5 : Arv Z h_5 a1 kA .byte z (((((vs.set k (.int (nar .byte ((((q3.toUInt64 >>> ((56 : Int32) &&& 0x3f).toInt64.toUInt64).toInt64).toInt32).toInt8.toInt32)))).set (k + 1) (.int (nar .byte ((((q3.toUInt64 >>> ((48 : Int32) &&& 0x3f).toInt64.toUInt64).toInt64).toInt32).toInt8.toInt32)))).set (k + 2) (.int (nar .byte ((((q3.toUInt64 >>> ((40 : Int32) &&& 0x3f).toInt64.toUInt64).toInt64).toInt32).toInt8.toInt32)))).set (k + 3) (.int (nar .byte ((((q3.toUInt64 >>> ((32 : Int32) &&& 0x3f).toInt64.toUInt64).toInt64).toInt32).toInt8.toInt32)))).set (k + 4) (.int (nar .byte ((((q3.toUInt64 >>> ((24 : Int32) &&& 0x3f).toInt64.toUInt64).toInt64).toInt32).toInt8.toInt32)))) (.int (0 : Int32)) := Arv.set a_5 q_5 s_5 m_5 H_5 G_5 (fits_nar_byte _) W_5 (k + 4) (own_ix p2 (4 : Int32) k 4 hp rfl (by omega)).1 (by first | omega | (simp only [List.length_set]; omega))
  have Z_5 : n0 ≤ h_5.size := Nat.le_trans Z_4 (Keep.of_wr W_5).1
  have kk_5 : Keep h0 h_5 [a1] := kk_4.wr W_5 (Or.inl (List.mem_of_getElem? (i := 0) rfl))
  have N_5 := Fr.snoc X_5 N_4 g_a1
  refine own_go (g' := (mkF m 53 #[.val (.ref a1), .val (.int p2), .val (.long q3), .second] [])) st_5 ?_
  refine own_go (T' := T_5) (g' := (mkF m 63 #[.val (.ref a1), .val (.int p2), .val (.long q3), .second] [(.int ((((q3.toUInt64 >>> ((16 : Int32) &&& 0x3f).toInt64.toUInt64).toInt64).toInt32).toInt8.toInt32)), (.int (p2 + (5 : Int32))), (.ref a1)])) (fun t kt => ?_) ?_
  · show Steps p.tables e below (T_5.setTop (mkF m 53 #[.val (.ref a1), .val (.int p2), .val (.long q3), .second] [])) t
    refine XS.aloadN X_5.here hx rfl (hb hby d1_53) rfl rfl ?_
    show Steps p.tables e below (T_5.setTop (mkF m 54 #[.val (.ref a1), .val (.int p2), .val (.long q3), .second] [(.ref a1)])) t
    refine XS.iloadN X_5.here hx rfl (hb hby d1_54) rfl ?_
    show Steps p.tables e below (T_5.setTop (mkF m 55 #[.val (.ref a1), .val (.int p2), .val (.long q3), .second] [(.int p2), (.ref a1)])) t
    refine XS.iconst X_5.here hx rfl (hb hby d1_55) ?_
    show Steps p.tables e below (T_5.setTop (mkF m 56 #[.val (.ref a1), .val (.int p2), .val (.long q3), .second] [(.int (5 : Int32)), (.int p2), (.ref a1)])) t
    refine XS.iadd X_5.here hx rfl (hb hby d1_56) rfl ?_
    show Steps p.tables e below (T_5.setTop (mkF m 57 #[.val (.ref a1), .val (.int p2), .val (.long q3), .second] [(.int (p2 + (5 : Int32))), (.ref a1)])) t
    refine XS.lloadN X_5.here hx rfl (hb hby d1_57) rfl ?_
    show Steps p.tables e below (T_5.setTop (mkF m 58 #[.val (.ref a1), .val (.int p2), .val (.long q3), .second] [(.long q3), (.int (p2 + (5 : Int32))), (.ref a1)])) t
    refine XS.bipush X_5.here hx rfl (hb hby d1_58) ?_
    show Steps p.tables e below (T_5.setTop (mkF m 60 #[.val (.ref a1), .val (.int p2), .val (.long q3), .second] [(.int (16 : Int32)), (.long q3), (.int (p2 + (5 : Int32))), (.ref a1)])) t
    refine XS.lushr X_5.here hx rfl (hb hby d1_60) rfl ?_
    show Steps p.tables e below (T_5.setTop (mkF m 61 #[.val (.ref a1), .val (.int p2), .val (.long q3), .second] [(.long ((q3.toUInt64 >>> ((16 : Int32) &&& 0x3f).toInt64.toUInt64).toInt64)), (.int (p2 + (5 : Int32))), (.ref a1)])) t
    refine XS.l2i X_5.here hx rfl (hb hby d1_61) rfl ?_
    show Steps p.tables e below (T_5.setTop (mkF m 62 #[.val (.ref a1), .val (.int p2), .val (.long q3), .second] [(.int (((q3.toUInt64 >>> ((16 : Int32) &&& 0x3f).toInt64.toUInt64).toInt64).toInt32)), (.int (p2 + (5 : Int32))), (.ref a1)])) t
    refine XS.i2b X_5.here hx rfl (hb hby d1_62) rfl ?_
    exact kt
  have vq_6 := V_5
  obtain ⟨c_6, a_6, q_6, s_6, m_6, H_6, G_6⟩ := vq_6
  have hin_6 : ¬ ((p2 + (5 : Int32)) < 0 ∨ c_6.slots.size ≤ ((p2 + (5 : Int32))).toNatClampNeg) := own_inb s_6 hz (own_ix p2 (5 : Int32) k 5 hp rfl (by omega)) (by omega)
  obtain ⟨T_6, h_6, X_6, e_6, W_6, st_6⟩ := stB X_5 hx hZ e_5 a_6 (j := (p2 + (5 : Int32))) hin_6 (g := (mkF m 63 #[.val (.ref a1), .val (.int p2), .val (.long q3), .second] [(.int ((((q3.toUInt64 >>> ((16 : Int32) &&& 0x3f).toInt64.toUInt64).toInt64).toInt32).toInt8.toInt32)), (.int (p2 + (5 : Int32))), (.ref a1)])) rfl rfl (hb hby d1_63)
  have V_6 : Arv Z h_6 a1 kA .byte z ((((((vs.set k (.int (nar .byte ((((q3.toUInt64 >>> ((56 : Int32) &&& 0x3f).toInt64.toUInt64).toInt64).toInt32).toInt8.toInt32)))).set (k + 1) (.int (nar .byte ((((q3.toUInt64 >>> ((48 : Int32) &&& 0x3f).toInt64.toUInt64).toInt64).toInt32).toInt8.toInt32)))).set (k + 2) (.int (nar .byte ((((q3.toUInt64 >>> ((40 : Int32) &&& 0x3f).toInt64.toUInt64).toInt64).toInt32).toInt8.toInt32)))).set (k + 3) (.int (nar .byte ((((q3.toUInt64 >>> ((32 : Int32) &&& 0x3f).toInt64.toUInt64).toInt64).toInt32).toInt8.toInt32)))).set (k + 4) (.int (nar .byte ((((q3.toUInt64 >>> ((24 : Int32) &&& 0x3f).toInt64.toUInt64).toInt64).toInt32).toInt8.toInt32)))).set (k + 5) (.int (nar .byte ((((q3.toUInt64 >>> ((16 : Int32) &&& 0x3f).toInt64.toUInt64).toInt64).toInt32).toInt8.toInt32)))) (.int (0 : Int32)) := Arv.set a_6 q_6 s_6 m_6 H_6 G_6 (fits_nar_byte _) W_6 (k + 5) (own_ix p2 (5 : Int32) k 5 hp rfl (by omega)).1 (by first | omega | (simp only [List.length_set]; omega))
  have Z_6 : n0 ≤ h_6.size := Nat.le_trans Z_5 (Keep.of_wr W_6).1
  have kk_6 : Keep h0 h_6 [a1] := kk_5.wr W_6 (Or.inl (List.mem_of_getElem? (i := 0) rfl))
  have N_6 := Fr.snoc X_6 N_5 g_a1
  refine own_go (g' := (mkF m 64 #[.val (.ref a1), .val (.int p2), .val (.long q3), .second] [])) st_6 ?_
  refine own_go (T' := T_6) (g' := (mkF m 75 #[.val (.ref a1), .val (.int p2), .val (.long q3), .second] [(.int ((((q3.toUInt64 >>> ((8 : Int32) &&& 0x3f).toInt64.toUInt64).toInt64).toInt32).toInt8.toInt32)), (.int (p2 + (6 : Int32))), (.ref a1)])) (fun t kt => ?_) ?_
  · show Steps p.tables e below (T_6.setTop (mkF m 64 #[.val (.ref a1), .val (.int p2), .val (.long q3), .second] [])) t
    refine XS.aloadN X_6.here hx rfl (hb hby d1_64) rfl rfl ?_
    show Steps p.tables e below (T_6.setTop (mkF m 65 #[.val (.ref a1), .val (.int p2), .val (.long q3), .second] [(.ref a1)])) t
    refine XS.iloadN X_6.here hx rfl (hb hby d1_65) rfl ?_
    show Steps p.tables e below (T_6.setTop (mkF m 66 #[.val (.ref a1), .val (.int p2), .val (.long q3), .second] [(.int p2), (.ref a1)])) t
    refine XS.bipush X_6.here hx rfl (hb hby d1_66) ?_
    show Steps p.tables e below (T_6.setTop (mkF m 68 #[.val (.ref a1), .val (.int p2), .val (.long q3), .second] [(.int (6 : Int32)), (.int p2), (.ref a1)])) t
    refine XS.iadd X_6.here hx rfl (hb hby d1_68) rfl ?_
    show Steps p.tables e below (T_6.setTop (mkF m 69 #[.val (.ref a1), .val (.int p2), .val (.long q3), .second] [(.int (p2 + (6 : Int32))), (.ref a1)])) t
    refine XS.lloadN X_6.here hx rfl (hb hby d1_69) rfl ?_
    show Steps p.tables e below (T_6.setTop (mkF m 70 #[.val (.ref a1), .val (.int p2), .val (.long q3), .second] [(.long q3), (.int (p2 + (6 : Int32))), (.ref a1)])) t
    refine XS.bipush X_6.here hx rfl (hb hby d1_70) ?_
    show Steps p.tables e below (T_6.setTop (mkF m 72 #[.val (.ref a1), .val (.int p2), .val (.long q3), .second] [(.int (8 : Int32)), (.long q3), (.int (p2 + (6 : Int32))), (.ref a1)])) t
    refine XS.lushr X_6.here hx rfl (hb hby d1_72) rfl ?_
    show Steps p.tables e below (T_6.setTop (mkF m 73 #[.val (.ref a1), .val (.int p2), .val (.long q3), .second] [(.long ((q3.toUInt64 >>> ((8 : Int32) &&& 0x3f).toInt64.toUInt64).toInt64)), (.int (p2 + (6 : Int32))), (.ref a1)])) t
    refine XS.l2i X_6.here hx rfl (hb hby d1_73) rfl ?_
    show Steps p.tables e below (T_6.setTop (mkF m 74 #[.val (.ref a1), .val (.int p2), .val (.long q3), .second] [(.int (((q3.toUInt64 >>> ((8 : Int32) &&& 0x3f).toInt64.toUInt64).toInt64).toInt32)), (.int (p2 + (6 : Int32))), (.ref a1)])) t
    refine XS.i2b X_6.here hx rfl (hb hby d1_74) rfl ?_
    exact kt
  have vq_7 := V_6
  obtain ⟨c_7, a_7, q_7, s_7, m_7, H_7, G_7⟩ := vq_7
  have hin_7 : ¬ ((p2 + (6 : Int32)) < 0 ∨ c_7.slots.size ≤ ((p2 + (6 : Int32))).toNatClampNeg) := own_inb s_7 hz (own_ix p2 (6 : Int32) k 6 hp rfl (by omega)) (by omega)
  obtain ⟨T_7, h_7, X_7, e_7, W_7, st_7⟩ := stB X_6 hx hZ e_6 a_7 (j := (p2 + (6 : Int32))) hin_7 (g := (mkF m 75 #[.val (.ref a1), .val (.int p2), .val (.long q3), .second] [(.int ((((q3.toUInt64 >>> ((8 : Int32) &&& 0x3f).toInt64.toUInt64).toInt64).toInt32).toInt8.toInt32)), (.int (p2 + (6 : Int32))), (.ref a1)])) rfl rfl (hb hby d1_75)
  have V_7 : Arv Z h_7 a1 kA .byte z (((((((vs.set k (.int (nar .byte ((((q3.toUInt64 >>> ((56 : Int32) &&& 0x3f).toInt64.toUInt64).toInt64).toInt32).toInt8.toInt32)))).set (k + 1) (.int (nar .byte ((((q3.toUInt64 >>> ((48 : Int32) &&& 0x3f).toInt64.toUInt64).toInt64).toInt32).toInt8.toInt32)))).set (k + 2) (.int (nar .byte ((((q3.toUInt64 >>> ((40 : Int32) &&& 0x3f).toInt64.toUInt64).toInt64).toInt32).toInt8.toInt32)))).set (k + 3) (.int (nar .byte ((((q3.toUInt64 >>> ((32 : Int32) &&& 0x3f).toInt64.toUInt64).toInt64).toInt32).toInt8.toInt32)))).set (k + 4) (.int (nar .byte ((((q3.toUInt64 >>> ((24 : Int32) &&& 0x3f).toInt64.toUInt64).toInt64).toInt32).toInt8.toInt32)))).set (k + 5) (.int (nar .byte ((((q3.toUInt64 >>> ((16 : Int32) &&& 0x3f).toInt64.toUInt64).toInt64).toInt32).toInt8.toInt32)))).set (k + 6) (.int (nar .byte ((((q3.toUInt64 >>> ((8 : Int32) &&& 0x3f).toInt64.toUInt64).toInt64).toInt32).toInt8.toInt32)))) (.int (0 : Int32)) := Arv.set a_7 q_7 s_7 m_7 H_7 G_7 (fits_nar_byte _) W_7 (k + 6) (own_ix p2 (6 : Int32) k 6 hp rfl (by omega)).1 (by first | omega | (simp only [List.length_set]; omega))
  have Z_7 : n0 ≤ h_7.size := Nat.le_trans Z_6 (Keep.of_wr W_7).1
  have kk_7 : Keep h0 h_7 [a1] := kk_6.wr W_7 (Or.inl (List.mem_of_getElem? (i := 0) rfl))
  have N_7 := Fr.snoc X_7 N_6 g_a1
  refine own_go (g' := (mkF m 76 #[.val (.ref a1), .val (.int p2), .val (.long q3), .second] [])) st_7 ?_
  refine own_go (T' := T_7) (g' := (mkF m 84 #[.val (.ref a1), .val (.int p2), .val (.long q3), .second] [(.int ((q3.toInt32).toInt8.toInt32)), (.int (p2 + (7 : Int32))), (.ref a1)])) (fun t kt => ?_) ?_
  · show Steps p.tables e below (T_7.setTop (mkF m 76 #[.val (.ref a1), .val (.int p2), .val (.long q3), .second] [])) t
    refine XS.aloadN X_7.here hx rfl (hb hby d1_76) rfl rfl ?_
    show Steps p.tables e below (T_7.setTop (mkF m 77 #[.val (.ref a1), .val (.int p2), .val (.long q3), .second] [(.ref a1)])) t
    refine XS.iloadN X_7.here hx rfl (hb hby d1_77) rfl ?_
    show Steps p.tables e below (T_7.setTop (mkF m 78 #[.val (.ref a1), .val (.int p2), .val (.long q3), .second] [(.int p2), (.ref a1)])) t
    refine XS.bipush X_7.here hx rfl (hb hby d1_78) ?_
    show Steps p.tables e below (T_7.setTop (mkF m 80 #[.val (.ref a1), .val (.int p2), .val (.long q3), .second] [(.int (7 : Int32)), (.int p2), (.ref a1)])) t
    refine XS.iadd X_7.here hx rfl (hb hby d1_80) rfl ?_
    show Steps p.tables e below (T_7.setTop (mkF m 81 #[.val (.ref a1), .val (.int p2), .val (.long q3), .second] [(.int (p2 + (7 : Int32))), (.ref a1)])) t
    refine XS.lloadN X_7.here hx rfl (hb hby d1_81) rfl ?_
    show Steps p.tables e below (T_7.setTop (mkF m 82 #[.val (.ref a1), .val (.int p2), .val (.long q3), .second] [(.long q3), (.int (p2 + (7 : Int32))), (.ref a1)])) t
    refine XS.l2i X_7.here hx rfl (hb hby d1_82) rfl ?_
    show Steps p.tables e below (T_7.setTop (mkF m 83 #[.val (.ref a1), .val (.int p2), .val (.long q3), .second] [(.int (q3.toInt32)), (.int (p2 + (7 : Int32))), (.ref a1)])) t
    refine XS.i2b X_7.here hx rfl (hb hby d1_83) rfl ?_
    exact kt
  have vq_8 := V_7
  obtain ⟨c_8, a_8, q_8, s_8, m_8, H_8, G_8⟩ := vq_8
  have hin_8 : ¬ ((p2 + (7 : Int32)) < 0 ∨ c_8.slots.size ≤ ((p2 + (7 : Int32))).toNatClampNeg) := own_inb s_8 hz (own_ix p2 (7 : Int32) k 7 hp rfl (by omega)) (by omega)
  obtain ⟨T_8, h_8, X_8, e_8, W_8, st_8⟩ := stB X_7 hx hZ e_7 a_8 (j := (p2 + (7 : Int32))) hin_8 (g := (mkF m 84 #[.val (.ref a1), .val (.int p2), .val (.long q3), .second] [(.int ((q3.toInt32).toInt8.toInt32)), (.int (p2 + (7 : Int32))), (.ref a1)])) rfl rfl (hb hby d1_84)
  have V_8 : Arv Z h_8 a1 kA .byte z ((((((((vs.set k (.int (nar .byte ((((q3.toUInt64 >>> ((56 : Int32) &&& 0x3f).toInt64.toUInt64).toInt64).toInt32).toInt8.toInt32)))).set (k + 1) (.int (nar .byte ((((q3.toUInt64 >>> ((48 : Int32) &&& 0x3f).toInt64.toUInt64).toInt64).toInt32).toInt8.toInt32)))).set (k + 2) (.int (nar .byte ((((q3.toUInt64 >>> ((40 : Int32) &&& 0x3f).toInt64.toUInt64).toInt64).toInt32).toInt8.toInt32)))).set (k + 3) (.int (nar .byte ((((q3.toUInt64 >>> ((32 : Int32) &&& 0x3f).toInt64.toUInt64).toInt64).toInt32).toInt8.toInt32)))).set (k + 4) (.int (nar .byte ((((q3.toUInt64 >>> ((24 : Int32) &&& 0x3f).toInt64.toUInt64).toInt64).toInt32).toInt8.toInt32)))).set (k + 5) (.int (nar .byte ((((q3.toUInt64 >>> ((16 : Int32) &&& 0x3f).toInt64.toUInt64).toInt64).toInt32).toInt8.toInt32)))).set (k + 6) (.int (nar .byte ((((q3.toUInt64 >>> ((8 : Int32) &&& 0x3f).toInt64.toUInt64).toInt64).toInt32).toInt8.toInt32)))).set (k + 7) (.int (nar .byte ((q3.toInt32).toInt8.toInt32)))) (.int (0 : Int32)) := Arv.set a_8 q_8 s_8 m_8 H_8 G_8 (fits_nar_byte _) W_8 (k + 7) (own_ix p2 (7 : Int32) k 7 hp rfl (by omega)).1 (by first | omega | (simp only [List.length_set]; omega))
  have Z_8 : n0 ≤ h_8.size := Nat.le_trans Z_7 (Keep.of_wr W_8).1
  have kk_8 : Keep h0 h_8 [a1] := kk_7.wr W_8 (Or.inl (List.mem_of_getElem? (i := 0) rfl))
  have N_8 := Fr.snoc X_8 N_7 g_a1
  refine own_go (g' := (mkF m 85 #[.val (.ref a1), .val (.int p2), .val (.long q3), .second] [])) st_8 ?_
  obtain ⟨fs, hr, hrun, hended, hW, hsame⟩ := X_8.leave (v := none) (fun _ => rfl)
  refine ⟨_, _, ?_, hrun, hended, _, _, rfl, ?_, ⟨_, rfl⟩, hW, hsame.mono (by decide) (by decide)⟩
  · exact X_8.returnOut hx Bd.returns (hb hby d1_85) hr
  · show Q_rput Z _ _ _ _ _ _ _ h0 n0 _ T_8.heap _
    rw [e_8]
    exact ⟨rfl, N_8, kk_8, V_8⟩
theorem pn_2 : plainName "com/example/thin_table/thintable/model/KeyOrder" = true := by first | (simp [plainName, overriddenIn]; done) | decide +kernel
theorem ef_2 (m : MethodId) (x0 : Addr) (x1 : Addr) : entryFrame m #[(.ref x0), (.ref x1)] 3 = mkF m 0 #[.val (.ref x0), .val (.ref x1), .unset] [] := by first | (simp [entryFrame, mkF, argsToLocals, Value.category]; done) | rfl
def Q_rnew8_0 (Z : State) (a1 : Addr) (a2 : Addr) (kK : ClassId) (kV : ClassId) (vk : List Value) (vv : List Value) (h0 : Heap) (n0 : Nat) (v : Option Value) (h : Heap) (L : List Loc) : Prop := ∃ b kB, v = some (.ref b) ∧ Fr n0 L ∧ Keep h0 h [] ∧ h0.size ≤ b ∧ Arv Z h b kB .byte (8 : Int32) [(vk.getD 0 (.int (0 : Int32))), (vk.getD 1 (.int (0 : Int32))), (vk.getD 2 (.int (0 : Int32))), (vk.getD 3 (.int (0 : Int32))), (vk.getD 4 (.int (0 : Int32))), (vk.getD 5 (.int (0 : Int32))), (vk.getD 6 (.int (0 : Int32))), (vk.getD 7 (.int (0 : Int32)))] (.int (0 : Int32))
theorem d2_0 : decode prog_12_method_16_code 0 = .ok (.bipush 8, 2) := by decide +kernel
theorem d2_2 : decode prog_12_method_16_code 2 = .ok (.aload_n 1, 1) := by decide +kernel
theorem d2_3 : decode prog_12_method_16_code 3 = .ok (.arraylength, 1) := by decide +kernel
theorem d2_4 : decode prog_12_method_16_code 4 = .ok (.iadd, 1) := by decide +kernel
theorem d2_5 : decode prog_12_method_16_code 5 = .ok (.newarray .byte, 2) := by decide +kernel
theorem d2_7 : decode prog_12_method_16_code 7 = .ok (.astore_n 2, 1) := by decide +kernel
theorem d2_8 : decode prog_12_method_16_code 8 = .ok (.aload_n 0, 1) := by decide +kernel
theorem d2_9 : decode prog_12_method_16_code 9 = .ok (.aload_n 0, 1) := by decide +kernel
theorem d2_10 : decode prog_12_method_16_code 10 = .ok (.arraylength, 1) := by decide +kernel
theorem d2_11 : decode prog_12_method_16_code 11 = .ok (.bipush 8, 2) := by decide +kernel
theorem d2_13 : decode prog_12_method_16_code 13 = .ok (.isub, 1) := by decide +kernel
theorem d2_14 : decode prog_12_method_16_code 14 = .ok (.aload_n 2, 1) := by decide +kernel
theorem d2_15 : decode prog_12_method_16_code 15 = .ok (.iconst 0, 1) := by decide +kernel
theorem d2_16 : decode prog_12_method_16_code 16 = .ok (.bipush 8, 2) := by decide +kernel
theorem d2_18 : decode prog_12_method_16_code 18 = .ok (.invokestatic 60, 3) := by decide +kernel
theorem d2_21 : decode prog_12_method_16_code 21 = .ok (.aload_n 1, 1) := by decide +kernel
theorem d2_22 : decode prog_12_method_16_code 22 = .ok (.iconst 0, 1) := by decide +kernel
theorem d2_23 : decode prog_12_method_16_code 23 = .ok (.aload_n 2, 1) := by decide +kernel
theorem d2_24 : decode prog_12_method_16_code 24 = .ok (.bipush 8, 2) := by decide +kernel
theorem d2_26 : decode prog_12_method_16_code 26 = .ok (.aload_n 1, 1) := by decide +kernel
theorem d2_27 : decode prog_12_method_16_code 27 = .ok (.arraylength, 1) := by decide +kernel
theorem d2_28 : decode prog_12_method_16_code 28 = .ok (.invokestatic 60, 3) := by decide +kernel
theorem d2_31 : decode prog_12_method_16_code 31 = .ok (.aload_n 2, 1) := by decide +kernel
theorem d2_32 : decode prog_12_method_16_code 32 = .ok (.areturn, 1) := by decide +kernel
set_option maxRecDepth 65536 in
set_option maxHeartbeats 40000000 in
theorem rnew8_0 (l : Launch) (Z : State) (a0 : Array Value) (hw : ∀ d ∈ tables_1, d.before a0 Z = true) (ws : List Jvm.Cond) (a1 : Addr) (a2 : Addr) (kK : ClassId) (kV : ClassId) (vk : List Value) (vv : List Value) (h0 : Heap) (n0 : Nat) (Z0 : n0 ≤ h0.size) (V1 : Arv Z h0 a1 kK .byte (8 : Int32) vk (.int (0 : Int32))) (V2 : Arv Z h0 a2 kV .byte (0 : Int32) vv (.int (0 : Int32))) :
    MetFree l (⟨"com/example/thin_table/thintable/model/KeyOrder", "newestValue", "([B[B)[B"⟩ : MethodName) (head1 (Jvm.Cond.code (⟨"com/example/thin_table/thintable/model/KeyOrder", "newestValue", "([B[B)[B"⟩ : MethodName) prog_12_method_16_code 3 (some (.array .byte)) :: ws) ({ frames := 1, cells := 1, slots := 8, locals := 24 } : Room)) (fun a U => a = #[(.ref a1), (.ref a2)] ∧ Z.Warmed39 U.vm ∧ U.heap = h0) (fun _ _ _ _ _ => True) (fun _ U o U' => ∃ v L, o = .returned v ∧ Q_rnew8_0 Z a1 a2 kK kV vk vv h0 n0 v U'.heap L ∧ FrameEnd U o U' L ({ frames := 1, cells := 1, slots := 8, locals := 24 } : Room).cells ({ frames := 1, cells := 1, slots := 8, locals := 24 } : Room).slots) := by
  refine MetFree.of_bodySF (plainFor_of_name pn_2) hisR ?_
  intro p e s m args below meth c s₁ Bd hml0 hP hK
  obtain ⟨rfl, hZ, hh⟩ := hP
  have hx := Bd.exec
  have hby := Bd.bytes
  have hml : c.maxLocals = 3 := hml0
  have hown : s.vm.findClass "com/example/thin_table/thintable/model/KeyOrder" = some m.cls := findClass_of_methodNamed Bd.named
  have hnm := (name_of_methodNamed Bd.named Bd.method).1
  have X0 : Stand p l e ({ frames := 1, cells := 1, slots := 8, locals := 24 } : Room) s m #[(.ref a1), (.ref a2)] below meth c s₁ [] 0 0 := Stand.of_body Bd
  have e0 : s₁.heap = h0 := by rw [← hh, Bd.state]; rfl
  have N0 := Fr.nil n0
  refine own_go (g' := (mkF m 0 #[.val (.ref a1), .val (.ref a2), .unset] [])) (fun t k => castTop (ef_2 m (a1) (a2)) k) ?_
  refine own_go (T' := s₁) (g' := (mkF m 3 #[.val (.ref a1), .val (.ref a2), .unset] [(.ref a2), (.int (8 : Int32))])) (fun t kt => ?_) ?_
  · show Steps p.tables e below (s₁.setTop (mkF m 0 #[.val (.ref a1), .val (.ref a2), .unset] [])) t
    refine XS.bipush X0.here hx rfl (hb hby d2_0) ?_
    show Steps p.tables e below (s₁.setTop (mkF m 2 #[.val (.ref a1), .val (.ref a2), .unset] [(.int (8 : Int32))])) t
    refine XS.aloadN X0.here hx rfl (hb hby d2_2) rfl rfl ?_
    exact kt
  have vq_1 := V2
  obtain ⟨c_1, a_1, -, s_1, m_1, -, -⟩ := vq_1
  refine own_go (T' := s₁) (g' := (mkF m 4 #[.val (.ref a1), .val (.ref a2), .unset] [(.int (0 : Int32)), (.int (8 : Int32))])) (fun t kt => ?_) ?_
  · refine X0.arraylength hx (by rw [e0]; exact a_1.1) (State.isArrayOf_alike hZ.alike a_1.2.1) (g := (mkF m 3 #[.val (.ref a1), .val (.ref a2), .unset] [(.ref a2), (.int (8 : Int32))])) rfl rfl (hb hby d2_3) _ ?_
    rw [len_of s_1 m_1]
    exact kt
  refine own_go (T' := s₁) (g' := (mkF m 5 #[.val (.ref a1), .val (.ref a2), .unset] [(.int (8 : Int32))])) (fun t kt => ?_) ?_
  · show Steps p.tables e below (s₁.setTop (mkF m 4 #[.val (.ref a1), .val (.ref a2), .unset] [(.int (0 : Int32)), (.int (8 : Int32))])) t
    refine XS.iadd X0.here hx rfl (hb hby d2_4) rfl ?_
    exact kt
  obtain ⟨T_2, h_2, k_2, X_2, e_2, E_2, A_2, B_2, st_2⟩ := newPE X0 hx hZ (hw _ (List.mem_of_getElem? (i := 0) rfl)) e0 (g := (mkF m 5 #[.val (.ref a1), .val (.ref a2), .unset] [(.int (8 : Int32))])) rfl (hb hby d2_5) rfl (by decide) (cap := 8) (by decide) (by decide) (by decide) (by decide) (ad := "[B") (by decide)
  obtain ⟨b_2, g_2⟩ : ∃ z, z = h0.size := ⟨_, rfl⟩
  rw [← g_2] at A_2 B_2 st_2
  have ne_a1_b_2 : a1 ≠ b_2 := Nat.ne_of_lt (Nat.lt_of_lt_of_le V1.lt (Nat.le_of_eq g_2.symm))
  have ne_a2_b_2 : a2 ≠ b_2 := Nat.ne_of_lt (Nat.lt_of_lt_of_le V2.lt (Nat.le_of_eq g_2.symm))
  have g_b_2 : n0 ≤ b_2 := Nat.le_trans Z0 (Nat.le_of_eq g_2.symm)
  have sz_b_2 : h0.size ≤ b_2 := Nat.le_trans (Keep.refl h0 []).1 (Nat.le_of_eq g_2.symm)
  have Z_2 : n0 ≤ h_2.size := Nat.le_trans Z0 E_2.1
  have kk_2 : Keep h0 h_2 [] := (Keep.refl h0 []).ext E_2
  have V_2 : Arv Z h_2 b_2 k_2 .byte (8 : Int32) [(.int (0 : Int32)), (.int (0 : Int32)), (.int (0 : Int32)), (.int (0 : Int32)), (.int (0 : Int32)), (.int (0 : Int32)), (.int (0 : Int32)), (.int (0 : Int32))] (.int (0 : Int32)) := (Arv.new A_2 (by decide)).pad (pad_rep [] (.int (0 : Int32)) 8)
  refine own_go (g' := (mkF m 7 #[.val (.ref a1), .val (.ref a2), .unset] [(.ref b_2)])) st_2 ?_
  refine own_go (T' := T_2) (g' := (mkF m 10 #[.val (.ref a1), .val (.ref a2), .val (.ref b_2)] [(.ref a1), (.ref a1)])) (fun t kt => ?_) ?_
  · show Steps p.tables e below (T_2.setTop (mkF m 7 #[.val (.ref a1), .val (.ref a2), .unset] [(.ref b_2)])) t
    refine XS.astoreN X_2.here hx rfl (hb hby d2_7) rfl rfl (l' := #[.val (.ref a1), .val (.ref a2), .val (.ref b_2)]) rfl ?_
    show Steps p.tables e below (T_2.setTop (mkF m 8 #[.val (.ref a1), .val (.ref a2), .val (.ref b_2)] [])) t
    refine XS.aloadN X_2.here hx rfl (hb hby d2_8) rfl rfl ?_
    show Steps p.tables e below (T_2.setTop (mkF m 9 #[.val (.ref a1), .val (.ref a2), .val (.ref b_2)] [(.ref a1)])) t
    refine XS.aloadN X_2.here hx rfl (hb hby d2_9) rfl rfl ?_
    exact kt
  have f_3 := (V1.ext E_2)
  have vq_4 := f_3
  obtain ⟨c_4, a_4, -, s_4, m_4, -, -⟩ := vq_4
  refine own_go (T' := T_2) (g' := (mkF m 11 #[.val (.ref a1), .val (.ref a2), .val (.ref b_2)] [(.int (8 : Int32)), (.ref a1)])) (fun t kt => ?_) ?_
  · refine X_2.arraylength hx (by rw [e_2]; exact a_4.1) (State.isArrayOf_alike hZ.alike a_4.2.1) (g := (mkF m 10 #[.val (.ref a1), .val (.ref a2), .val (.ref b_2)] [(.ref a1), (.ref a1)])) rfl rfl (hb hby d2_10) _ ?_
    rw [len_of s_4 m_4]
    exact kt
  refine own_go (T' := T_2) (g' := (mkF m 18 #[.val (.ref a1), .val (.ref a2), .val (.ref b_2)] [(.int (8 : Int32)), (.int (0 : Int32)), (.ref b_2), (.int (0 : Int32)), (.ref a1)])) (fun t kt => ?_) ?_
  · show Steps p.tables e below (T_2.setTop (mkF m 11 #[.val (.ref a1), .val (.ref a2), .val (.ref b_2)] [(.int (8 : Int32)), (.ref a1)])) t
    refine XS.bipush X_2.here hx rfl (hb hby d2_11) ?_
    show Steps p.tables e below (T_2.setTop (mkF m 13 #[.val (.ref a1), .val (.ref a2), .val (.ref b_2)] [(.int (8 : Int32)), (.int (8 : Int32)), (.ref a1)])) t
    refine XS.isub X_2.here hx rfl (hb hby d2_13) rfl ?_
    show Steps p.tables e below (T_2.setTop (mkF m 14 #[.val (.ref a1), .val (.ref a2), .val (.ref b_2)] [(.int (0 : Int32)), (.ref a1)])) t
    refine XS.aloadN X_2.here hx rfl (hb hby d2_14) rfl rfl ?_
    show Steps p.tables e below (T_2.setTop (mkF m 15 #[.val (.ref a1), .val (.ref a2), .val (.ref b_2)] [(.ref b_2), (.int (0 : Int32)), (.ref a1)])) t
    refine XS.iconst X_2.here hx rfl (hb hby d2_15) ?_
    show Steps p.tables e below (T_2.setTop (mkF m 16 #[.val (.ref a1), .val (.ref a2), .val (.ref b_2)] [(.int (0 : Int32)), (.ref b_2), (.int (0 : Int32)), (.ref a1)])) t
    refine XS.bipush X_2.here hx rfl (hb hby d2_16) ?_
    exact kt
  obtain ⟨T_5, h_5, L_5, X_5, e_5, N_5, K_5, V_5, st_5⟩ := cpA X_2 hx hZ hown (hw _ (List.mem_of_getElem? (i := 9) rfl)) (hw _ (List.mem_of_getElem? (i := 12) rfl)) (hw _ (List.mem_of_getElem? (i := 10) rfl)) (hw _ (List.mem_of_getElem? (i := 11) rfl)) e_2 (us := [(vk.getD 0 (.int (0 : Int32))), (vk.getD 1 (.int (0 : Int32))), (vk.getD 2 (.int (0 : Int32))), (vk.getD 3 (.int (0 : Int32))), (vk.getD 4 (.int (0 : Int32))), (vk.getD 5 (.int (0 : Int32))), (vk.getD 6 (.int (0 : Int32))), (vk.getD 7 (.int (0 : Int32)))]) f_3 V_2 (Or.inl ⟨rfl, rfl⟩) (sp := (0 : Int32)) (dp := (0 : Int32)) (nn := (8 : Int32)) (by decide) (by decide) (by decide) (Nat.le_of_ble_eq_true rfl) (Nat.le_of_ble_eq_true rfl) rfl (Nat.le_of_ble_eq_true rfl) N0 g_b_2 (g := (mkF m 18 #[.val (.ref a1), .val (.ref a2), .val (.ref b_2)] [(.int (8 : Int32)), (.int (0 : Int32)), (.ref b_2), (.int (0 : Int32)), (.ref a1)])) rfl (by rw [hml]; rfl) rfl (hb hby d2_18) (by decide) (W := 0) (by show 2 * 0 + _ ≤ _; exact Nat.le_of_eq rfl) (by decide)
  replace V_5 : Arv Z h_5 b_2 k_2 .byte (8 : Int32) [(vk.getD 0 (.int (0 : Int32))), (vk.getD 1 (.int (0 : Int32))), (vk.getD 2 (.int (0 : Int32))), (vk.getD 3 (.int (0 : Int32))), (vk.getD 4 (.int (0 : Int32))), (vk.getD 5 (.int (0 : Int32))), (vk.getD 6 (.int (0 : Int32))), (vk.getD 7 (.int (0 : Int32)))] (.int (0 : Int32)) := V_5
  have Z_5 : n0 ≤ h_5.size := Nat.le_trans Z_2 K_5.1
  have kk_5 : Keep h0 h_5 [] := kk_2.trans K_5 (allS (Or.inr sz_b_2) all0)
  refine own_go (g' := (mkF m 21 #[.val (.ref a1), .val (.ref a2), .val (.ref b_2)] [])) st_5 ?_
  refine own_go (T' := T_5) (g' := (mkF m 27 #[.val (.ref a1), .val (.ref a2), .val (.ref b_2)] [(.ref a2), (.int (8 : Int32)), (.ref b_2), (.int (0 : Int32)), (.ref a2)])) (fun t kt => ?_) ?_
  · show Steps p.tables e below (T_5.setTop (mkF m 21 #[.val (.ref a1), .val (.ref a2), .val (.ref b_2)] [])) t
    refine XS.aloadN X_5.here hx rfl (hb hby d2_21) rfl rfl ?_
    show Steps p.tables e below (T_5.setTop (mkF m 22 #[.val (.ref a1), .val (.ref a2), .val (.ref b_2)] [(.ref a2)])) t
    refine XS.iconst X_5.here hx rfl (hb hby d2_22) ?_
    show Steps p.tables e below (T_5.setTop (mkF m 23 #[.val (.ref a1), .val (.ref a2), .val (.ref b_2)] [(.int (0 : Int32)), (.ref a2)])) t
    refine XS.aloadN X_5.here hx rfl (hb hby d2_23) rfl rfl ?_
    show Steps p.tables e below (T_5.setTop (mkF m 24 #[.val (.ref a1), .val (.ref a2), .val (.ref b_2)] [(.ref b_2), (.int (0 : Int32)), (.ref a2)])) t
    refine XS.bipush X_5.here hx rfl (hb hby d2_24) ?_
    show Steps p.tables e below (T_5.setTop (mkF m 26 #[.val (.ref a1), .val (.ref a2), .val (.ref b_2)] [(.int (8 : Int32)), (.ref b_2), (.int (0 : Int32)), (.ref a2)])) t
    refine XS.aloadN X_5.here hx rfl (hb hby d2_26) rfl rfl ?_
    exact kt
  have f_6 := ((V2.ext E_2).keep K_5 (ninS ne_a2_b_2 nin0))
  have vq_7 := f_6
  obtain ⟨c_7, a_7, -, s_7, m_7, -, -⟩ := vq_7
  refine own_go (T' := T_5) (g' := (mkF m 28 #[.val (.ref a1), .val (.ref a2), .val (.ref b_2)] [(.int (0 : Int32)), (.int (8 : Int32)), (.ref b_2), (.int (0 : Int32)), (.ref a2)])) (fun t kt => ?_) ?_
  · refine X_5.arraylength hx (by rw [e_5]; exact a_7.1) (State.isArrayOf_alike hZ.alike a_7.2.1) (g := (mkF m 27 #[.val (.ref a1), .val (.ref a2), .val (.ref b_2)] [(.ref a2), (.int (8 : Int32)), (.ref b_2), (.int (0 : Int32)), (.ref a2)])) rfl rfl (hb hby d2_27) _ ?_
    rw [len_of s_7 m_7]
    exact kt
  obtain ⟨T_8, h_8, L_8, X_8, e_8, N_8, K_8, V_8, st_8⟩ := cpA X_5 hx hZ hown (hw _ (List.mem_of_getElem? (i := 9) rfl)) (hw _ (List.mem_of_getElem? (i := 12) rfl)) (hw _ (List.mem_of_getElem? (i := 10) rfl)) (hw _ (List.mem_of_getElem? (i := 11) rfl)) e_5 (us := []) f_6 V_5 (Or.inl ⟨rfl, rfl⟩) (sp := (0 : Int32)) (dp := (8 : Int32)) (nn := (0 : Int32)) (by decide) (by decide) (by decide) (Nat.le_of_ble_eq_true rfl) (Nat.le_of_ble_eq_true rfl) rfl (Nat.le_of_ble_eq_true rfl) N_5 g_b_2 (g := (mkF m 28 #[.val (.ref a1), .val (.ref a2), .val (.ref b_2)] [(.int (0 : Int32)), (.int (8 : Int32)), (.ref b_2), (.int (0 : Int32)), (.ref a2)])) rfl (by rw [hml]; rfl) rfl (hb hby d2_28) (by decide) (W := 0) (by show 2 * 0 + _ ≤ _; exact Nat.le_of_eq rfl) (by decide)
  replace V_8 : Arv Z h_8 b_2 k_2 .byte (8 : Int32) [(vk.getD 0 (.int (0 : Int32))), (vk.getD 1 (.int (0 : Int32))), (vk.getD 2 (.int (0 : Int32))), (vk.getD 3 (.int (0 : Int32))), (vk.getD 4 (.int (0 : Int32))), (vk.getD 5 (.int (0 : Int32))), (vk.getD 6 (.int (0 : Int32))), (vk.getD 7 (.int (0 : Int32)))] (.int (0 : Int32)) := V_8
  have Z_8 : n0 ≤ h_8.size := Nat.le_trans Z_5 K_8.1
  have kk_8 : Keep h0 h_8 [] := kk_5.trans K_8 (allS (Or.inr sz_b_2) all0)
  refine own_go (g' := (mkF m 31 #[.val (.ref a1), .val (.ref a2), .val (.ref b_2)] [])) st_8 ?_
  refine own_go (T' := T_8) (g' := (mkF m 32 #[.val (.ref a1), .val (.ref a2), .val (.ref b_2)] [(.ref b_2)])) (fun t kt => ?_) ?_
  · show Steps p.tables e below (T_8.setTop (mkF m 31 #[.val (.ref a1), .val (.ref a2), .val (.ref b_2)] [])) t
    refine XS.aloadN X_8.here hx rfl (hb hby d2_31) rfl rfl ?_
    exact kt
  obtain ⟨fs, hr, hrun, hended, hW, hsame⟩ := X_8.leave (v := some (.ref b_2)) (fun h => by rw [Bd.returns] at h; cases h)
  refine ⟨_, _, ?_, hrun, hended, _, _, rfl, ?_, ⟨_, rfl⟩, hW, hsame.mono (by decide) (by decide)⟩
  · show Steps p.tables e below (T_8.setTop (mkF m 32 #[.val (.ref a1), .val (.ref a2), .val (.ref b_2)] [(.ref b_2)])) _
    jvm_step X_8.here [X_8.here.top, hx, (hb hby d2_32), X_8.method', Bd.returns, Value.isRef, FieldType.isReference]
    first | (intro acts; rw [hr _ acts rfl rfl rfl]) | rw [hr _ _ rfl rfl rfl]
    exact Steps.refl _
  · show Q_rnew8_0 Z _ _ _ _ _ _ h0 n0 _ T_8.heap _
    rw [e_8]
    exact ⟨_, _, rfl, N_8, kk_8, sz_b_2, V_8⟩
def Q_rnew8_1 (Z : State) (a1 : Addr) (a2 : Addr) (kK : ClassId) (kV : ClassId) (vk : List Value) (vv : List Value) (h0 : Heap) (n0 : Nat) (v : Option Value) (h : Heap) (L : List Loc) : Prop := ∃ b kB, v = some (.ref b) ∧ Fr n0 L ∧ Keep h0 h [] ∧ h0.size ≤ b ∧ Arv Z h b kB .byte (9 : Int32) [(vk.getD 0 (.int (0 : Int32))), (vk.getD 1 (.int (0 : Int32))), (vk.getD 2 (.int (0 : Int32))), (vk.getD 3 (.int (0 : Int32))), (vk.getD 4 (.int (0 : Int32))), (vk.getD 5 (.int (0 : Int32))), (vk.getD 6 (.int (0 : Int32))), (vk.getD 7 (.int (0 : Int32))), (vv.getD 0 (.int (0 : Int32)))] (.int (0 : Int32))
set_option maxRecDepth 65536 in
set_option maxHeartbeats 40000000 in
theorem rnew8_1 (l : Launch) (Z : State) (a0 : Array Value) (hw : ∀ d ∈ tables_1, d.before a0 Z = true) (ws : List Jvm.Cond) (a1 : Addr) (a2 : Addr) (kK : ClassId) (kV : ClassId) (vk : List Value) (vv : List Value) (h0 : Heap) (n0 : Nat) (Z0 : n0 ≤ h0.size) (V1 : Arv Z h0 a1 kK .byte (8 : Int32) vk (.int (0 : Int32))) (V2 : Arv Z h0 a2 kV .byte (1 : Int32) vv (.int (0 : Int32))) :
    MetFree l (⟨"com/example/thin_table/thintable/model/KeyOrder", "newestValue", "([B[B)[B"⟩ : MethodName) (head1 (Jvm.Cond.code (⟨"com/example/thin_table/thintable/model/KeyOrder", "newestValue", "([B[B)[B"⟩ : MethodName) prog_12_method_16_code 3 (some (.array .byte)) :: ws) ({ frames := 1, cells := 1, slots := 9, locals := 24 } : Room)) (fun a U => a = #[(.ref a1), (.ref a2)] ∧ Z.Warmed39 U.vm ∧ U.heap = h0) (fun _ _ _ _ _ => True) (fun _ U o U' => ∃ v L, o = .returned v ∧ Q_rnew8_1 Z a1 a2 kK kV vk vv h0 n0 v U'.heap L ∧ FrameEnd U o U' L ({ frames := 1, cells := 1, slots := 9, locals := 24 } : Room).cells ({ frames := 1, cells := 1, slots := 9, locals := 24 } : Room).slots) := by
  refine MetFree.of_bodySF (plainFor_of_name pn_2) hisR ?_
  intro p e s m args below meth c s₁ Bd hml0 hP hK
  obtain ⟨rfl, hZ, hh⟩ := hP
  have hx := Bd.exec
  have hby := Bd.bytes
  have hml : c.maxLocals = 3 := hml0
  have hown : s.vm.findClass "com/example/thin_table/thintable/model/KeyOrder" = some m.cls := findClass_of_methodNamed Bd.named
  have hnm := (name_of_methodNamed Bd.named Bd.method).1
  have X0 : Stand p l e ({ frames := 1, cells := 1, slots := 9, locals := 24 } : Room) s m #[(.ref a1), (.ref a2)] below meth c s₁ [] 0 0 := Stand.of_body Bd
  have e0 : s₁.heap = h0 := by rw [← hh, Bd.state]; rfl
  have N0 := Fr.nil n0
  refine own_go (g' := (mkF m 0 #[.val (.ref a1), .val (.ref a2), .unset] [])) (fun t k => castTop (ef_2 m (a1) (a2)) k) ?_
  refine own_go (T' := s₁) (g' := (mkF m 3 #[.val (.ref a1), .val (.ref a2), .unset] [(.ref a2), (.int (8 : Int32))])) (fun t kt => ?_) ?_
  · show Steps p.tables e below (s₁.setTop (mkF m 0 #[.val (.ref a1), .val (.ref a2), .unset] [])) t
    refine XS.bipush X0.here hx rfl (hb hby d2_0) ?_
    show Steps p.tables e below (s₁.setTop (mkF m 2 #[.val (.ref a1), .val (.ref a2), .unset] [(.int (8 : Int32))])) t
    refine XS.aloadN X0.here hx rfl (hb hby d2_2) rfl rfl ?_
    exact kt
  have vq_1 := V2
  obtain ⟨c_1, a_1, -, s_1, m_1, -, -⟩ := vq_1
  refine own_go (T' := s₁) (g' := (mkF m 4 #[.val (.ref a1), .val (.ref a2), .unset] [(.int (1 : Int32)), (.int (8 : Int32))])) (fun t kt => ?_) ?_
  · refine X0.arraylength hx (by rw [e0]; exact a_1.1) (State.isArrayOf_alike hZ.alike a_1.2.1) (g := (mkF m 3 #[.val (.ref a1), .val (.ref a2), .unset] [(.ref a2), (.int (8 : Int32))])) rfl rfl (hb hby d2_3) _ ?_
    rw [len_of s_1 m_1]
    exact kt
  refine own_go (T' := s₁) (g' := (mkF m 5 #[.val (.ref a1), .val (.ref a2), .unset] [(.int (9 : Int32))])) (fun t kt => ?_) ?_
  · show Steps p.tables e below (s₁.setTop (mkF m 4 #[.val (.ref a1), .val (.ref a2), .unset] [(.int (1 : Int32)), (.int (8 : Int32))])) t
    refine XS.iadd X0.here hx rfl (hb hby d2_4) rfl ?_
    exact kt
  obtain ⟨T_2, h_2, k_2, X_2, e_2, E_2, A_2, B_2, st_2⟩ := newPE X0 hx hZ (hw _ (List.mem_of_getElem? (i := 0) rfl)) e0 (g := (mkF m 5 #[.val (.ref a1), .val (.ref a2), .unset] [(.int (9 : Int32))])) rfl (hb hby d2_5) rfl (by decide) (cap := 9) (by decide) (by decide) (by decide) (by decide) (ad := "[B") (by decide)
  obtain ⟨b_2, g_2⟩ : ∃ z, z = h0.size := ⟨_, rfl⟩
  rw [← g_2] at A_2 B_2 st_2
  have ne_a1_b_2 : a1 ≠ b_2 := Nat.ne_of_lt (Nat.lt_of_lt_of_le V1.lt (Nat.le_of_eq g_2.symm))
  have ne_a2_b_2 : a2 ≠ b_2 := Nat.ne_of_lt (Nat.lt_of_lt_of_le V2.lt (Nat.le_of_eq g_2.symm))
  have g_b_2 : n0 ≤ b_2 := Nat.le_trans Z0 (Nat.le_of_eq g_2.symm)
  have sz_b_2 : h0.size ≤ b_2 := Nat.le_trans (Keep.refl h0 []).1 (Nat.le_of_eq g_2.symm)
  have Z_2 : n0 ≤ h_2.size := Nat.le_trans Z0 E_2.1
  have kk_2 : Keep h0 h_2 [] := (Keep.refl h0 []).ext E_2
  have V_2 : Arv Z h_2 b_2 k_2 .byte (9 : Int32) [(.int (0 : Int32)), (.int (0 : Int32)), (.int (0 : Int32)), (.int (0 : Int32)), (.int (0 : Int32)), (.int (0 : Int32)), (.int (0 : Int32)), (.int (0 : Int32)), (.int (0 : Int32))] (.int (0 : Int32)) := (Arv.new A_2 (by decide)).pad (pad_rep [] (.int (0 : Int32)) 9)
  refine own_go (g' := (mkF m 7 #[.val (.ref a1), .val (.ref a2), .unset] [(.ref b_2)])) st_2 ?_
  refine own_go (T' := T_2) (g' := (mkF m 10 #[.val (.ref a1), .val (.ref a2), .val (.ref b_2)] [(.ref a1), (.ref a1)])) (fun t kt => ?_) ?_
  · show Steps p.tables e below (T_2.setTop (mkF m 7 #[.val (.ref a1), .val (.ref a2), .unset] [(.ref b_2)])) t
    refine XS.astoreN X_2.here hx rfl (hb hby d2_7) rfl rfl (l' := #[.val (.ref a1), .val (.ref a2), .val (.ref b_2)]) rfl ?_
    show Steps p.tables e below (T_2.setTop (mkF m 8 #[.val (.ref a1), .val (.ref a2), .val (.ref b_2)] [])) t
    refine XS.aloadN X_2.here hx rfl (hb hby d2_8) rfl rfl ?_
    show Steps p.tables e below (T_2.setTop (mkF m 9 #[.val (.ref a1), .val (.ref a2), .val (.ref b_2)] [(.ref a1)])) t
    refine XS.aloadN X_2.here hx rfl (hb hby d2_9) rfl rfl ?_
    exact kt
  have f_3 := (V1.ext E_2)
  have vq_4 := f_3
  obtain ⟨c_4, a_4, -, s_4, m_4, -, -⟩ := vq_4
  refine own_go (T' := T_2) (g' := (mkF m 11 #[.val (.ref a1), .val (.ref a2), .val (.ref b_2)] [(.int (8 : Int32)), (.ref a1)])) (fun t kt => ?_) ?_
  · refine X_2.arraylength hx (by rw [e_2]; exact a_4.1) (State.isArrayOf_alike hZ.alike a_4.2.1) (g := (mkF m 10 #[.val (.ref a1), .val (.ref a2), .val (.ref b_2)] [(.ref a1), (.ref a1)])) rfl rfl (hb hby d2_10) _ ?_
    rw [len_of s_4 m_4]
    exact kt
  refine own_go (T' := T_2) (g' := (mkF m 18 #[.val (.ref a1), .val (.ref a2), .val (.ref b_2)] [(.int (8 : Int32)), (.int (0 : Int32)), (.ref b_2), (.int (0 : Int32)), (.ref a1)])) (fun t kt => ?_) ?_
  · show Steps p.tables e below (T_2.setTop (mkF m 11 #[.val (.ref a1), .val (.ref a2), .val (.ref b_2)] [(.int (8 : Int32)), (.ref a1)])) t
    refine XS.bipush X_2.here hx rfl (hb hby d2_11) ?_
    show Steps p.tables e below (T_2.setTop (mkF m 13 #[.val (.ref a1), .val (.ref a2), .val (.ref b_2)] [(.int (8 : Int32)), (.int (8 : Int32)), (.ref a1)])) t
    refine XS.isub X_2.here hx rfl (hb hby d2_13) rfl ?_
    show Steps p.tables e below (T_2.setTop (mkF m 14 #[.val (.ref a1), .val (.ref a2), .val (.ref b_2)] [(.int (0 : Int32)), (.ref a1)])) t
    refine XS.aloadN X_2.here hx rfl (hb hby d2_14) rfl rfl ?_
    show Steps p.tables e below (T_2.setTop (mkF m 15 #[.val (.ref a1), .val (.ref a2), .val (.ref b_2)] [(.ref b_2), (.int (0 : Int32)), (.ref a1)])) t
    refine XS.iconst X_2.here hx rfl (hb hby d2_15) ?_
    show Steps p.tables e below (T_2.setTop (mkF m 16 #[.val (.ref a1), .val (.ref a2), .val (.ref b_2)] [(.int (0 : Int32)), (.ref b_2), (.int (0 : Int32)), (.ref a1)])) t
    refine XS.bipush X_2.here hx rfl (hb hby d2_16) ?_
    exact kt
  obtain ⟨T_5, h_5, L_5, X_5, e_5, N_5, K_5, V_5, st_5⟩ := cpA X_2 hx hZ hown (hw _ (List.mem_of_getElem? (i := 9) rfl)) (hw _ (List.mem_of_getElem? (i := 12) rfl)) (hw _ (List.mem_of_getElem? (i := 10) rfl)) (hw _ (List.mem_of_getElem? (i := 11) rfl)) e_2 (us := [(vk.getD 0 (.int (0 : Int32))), (vk.getD 1 (.int (0 : Int32))), (vk.getD 2 (.int (0 : Int32))), (vk.getD 3 (.int (0 : Int32))), (vk.getD 4 (.int (0 : Int32))), (vk.getD 5 (.int (0 : Int32))), (vk.getD 6 (.int (0 : Int32))), (vk.getD 7 (.int (0 : Int32)))]) f_3 V_2 (Or.inl ⟨rfl, rfl⟩) (sp := (0 : Int32)) (dp := (0 : Int32)) (nn := (8 : Int32)) (by decide) (by decide) (by decide) (Nat.le_of_ble_eq_true rfl) (Nat.le_of_ble_eq_true rfl) rfl (Nat.le_of_ble_eq_true rfl) N0 g_b_2 (g := (mkF m 18 #[.val (.ref a1), .val (.ref a2), .val (.ref b_2)] [(.int (8 : Int32)), (.int (0 : Int32)), (.ref b_2), (.int (0 : Int32)), (.ref a1)])) rfl (by rw [hml]; rfl) rfl (hb hby d2_18) (by decide) (W := 0) (by show 2 * 0 + _ ≤ _; exact Nat.le_of_eq rfl) (by decide)
  replace V_5 : Arv Z h_5 b_2 k_2 .byte (9 : Int32) [(vk.getD 0 (.int (0 : Int32))), (vk.getD 1 (.int (0 : Int32))), (vk.getD 2 (.int (0 : Int32))), (vk.getD 3 (.int (0 : Int32))), (vk.getD 4 (.int (0 : Int32))), (vk.getD 5 (.int (0 : Int32))), (vk.getD 6 (.int (0 : Int32))), (vk.getD 7 (.int (0 : Int32))), (.int (0 : Int32))] (.int (0 : Int32)) := V_5
  have Z_5 : n0 ≤ h_5.size := Nat.le_trans Z_2 K_5.1
  have kk_5 : Keep h0 h_5 [] := kk_2.trans K_5 (allS (Or.inr sz_b_2) all0)
  refine own_go (g' := (mkF m 21 #[.val (.ref a1), .val (.ref a2), .val (.ref b_2)] [])) st_5 ?_
  refine own_go (T' := T_5) (g' := (mkF m 27 #[.val (.ref a1), .val (.ref a2), .val (.ref b_2)] [(.ref a2), (.int (8 : Int32)), (.ref b_2), (.int (0 : Int32)), (.ref a2)])) (fun t kt => ?_) ?_
  · show Steps p.tables e below (T_5.setTop (mkF m 21 #[.val (.ref a1), .val (.ref a2), .val (.ref b_2)] [])) t
    refine XS.aloadN X_5.here hx rfl (hb hby d2_21) rfl rfl ?_
    show Steps p.tables e below (T_5.setTop (mkF m 22 #[.val (.ref a1), .val (.ref a2), .val (.ref b_2)] [(.ref a2)])) t
    refine XS.iconst X_5.here hx rfl (hb hby d2_22) ?_
    show Steps p.tables e below (T_5.setTop (mkF m 23 #[.val (.ref a1), .val (.ref a2), .val (.ref b_2)] [(.int (0 : Int32)), (.ref a2)])) t
    refine XS.aloadN X_5.here hx rfl (hb hby d2_23) rfl rfl ?_
    show Steps p.tables e below (T_5.setTop (mkF m 24 #[.val (.ref a1), .val (.ref a2), .val (.ref b_2)] [(.ref b_2), (.int (0 : Int32)), (.ref a2)])) t
    refine XS.bipush X_5.here hx rfl (hb hby d2_24) ?_
    show Steps p.tables e below (T_5.setTop (mkF m 26 #[.val (.ref a1), .val (.ref a2), .val (.ref b_2)] [(.int (8 : Int32)), (.ref b_2), (.int (0 : Int32)), (.ref a2)])) t
    refine XS.aloadN X_5.here hx rfl (hb hby d2_26) rfl rfl ?_
    exact kt
  have f_6 := ((V2.ext E_2).keep K_5 (ninS ne_a2_b_2 nin0))
  have vq_7 := f_6
  obtain ⟨c_7, a_7, -, s_7, m_7, -, -⟩ := vq_7
  refine own_go (T' := T_5) (g' := (mkF m 28 #[.val (.ref a1), .val (.ref a2), .val (.ref b_2)] [(.int (1 : Int32)), (.int (8 : Int32)), (.ref b_2), (.int (0 : Int32)), (.ref a2)])) (fun t kt => ?_) ?_
  · refine X_5.arraylength hx (by rw [e_5]; exact a_7.1) (State.isArrayOf_alike hZ.alike a_7.2.1) (g := (mkF m 27 #[.val (.ref a1), .val (.ref a2), .val (.ref b_2)] [(.ref a2), (.int (8 : Int32)), (.ref b_2), (.int (0 : Int32)), (.ref a2)])) rfl rfl (hb hby d2_27) _ ?_
    rw [len_of s_7 m_7]
    exact kt
  obtain ⟨T_8, h_8, L_8, X_8, e_8, N_8, K_8, V_8, st_8⟩ := cpA X_5 hx hZ hown (hw _ (List.mem_of_getElem? (i := 9) rfl)) (hw _ (List.mem_of_getElem? (i := 12) rfl)) (hw _ (List.mem_of_getElem? (i := 10) rfl)) (hw _ (List.mem_of_getElem? (i := 11) rfl)) e_5 (us := [(vv.getD 0 (.int (0 : Int32)))]) f_6 V_5 (Or.inl ⟨rfl, rfl⟩) (sp := (0 : Int32)) (dp := (8 : Int32)) (nn := (1 : Int32)) (by decide) (by decide) (by decide) (Nat.le_of_ble_eq_true rfl) (Nat.le_of_ble_eq_true rfl) rfl (Nat.le_of_ble_eq_true rfl) N_5 g_b_2 (g := (mkF m 28 #[.val (.ref a1), .val (.ref a2), .val (.ref b_2)] [(.int (1 : Int32)), (.int (8 : Int32)), (.ref b_2), (.int (0 : Int32)), (.ref a2)])) rfl (by rw [hml]; rfl) rfl (hb hby d2_28) (by decide) (W := 0) (by show 2 * 0 + _ ≤ _; exact Nat.le_of_eq rfl) (by decide)
  replace V_8 : Arv Z h_8 b_2 k_2 .byte (9 : Int32) [(vk.getD 0 (.int (0 : Int32))), (vk.getD 1 (.int (0 : Int32))), (vk.getD 2 (.int (0 : Int32))), (vk.getD 3 (.int (0 : Int32))), (vk.getD 4 (.int (0 : Int32))), (vk.getD 5 (.int (0 : Int32))), (vk.getD 6 (.int (0 : Int32))), (vk.getD 7 (.int (0 : Int32))), (vv.getD 0 (.int (0 : Int32)))] (.int (0 : Int32)) := V_8
  have Z_8 : n0 ≤ h_8.size := Nat.le_trans Z_5 K_8.1
  have kk_8 : Keep h0 h_8 [] := kk_5.trans K_8 (allS (Or.inr sz_b_2) all0)
  refine own_go (g' := (mkF m 31 #[.val (.ref a1), .val (.ref a2), .val (.ref b_2)] [])) st_8 ?_
  refine own_go (T' := T_8) (g' := (mkF m 32 #[.val (.ref a1), .val (.ref a2), .val (.ref b_2)] [(.ref b_2)])) (fun t kt => ?_) ?_
  · show Steps p.tables e below (T_8.setTop (mkF m 31 #[.val (.ref a1), .val (.ref a2), .val (.ref b_2)] [])) t
    refine XS.aloadN X_8.here hx rfl (hb hby d2_31) rfl rfl ?_
    exact kt
  obtain ⟨fs, hr, hrun, hended, hW, hsame⟩ := X_8.leave (v := some (.ref b_2)) (fun h => by rw [Bd.returns] at h; cases h)
  refine ⟨_, _, ?_, hrun, hended, _, _, rfl, ?_, ⟨_, rfl⟩, hW, hsame.mono (by decide) (by decide)⟩
  · show Steps p.tables e below (T_8.setTop (mkF m 32 #[.val (.ref a1), .val (.ref a2), .val (.ref b_2)] [(.ref b_2)])) _
    jvm_step X_8.here [X_8.here.top, hx, (hb hby d2_32), X_8.method', Bd.returns, Value.isRef, FieldType.isReference]
    first | (intro acts; rw [hr _ acts rfl rfl rfl]) | rw [hr _ _ rfl rfl rfl]
    exact Steps.refl _
  · show Q_rnew8_1 Z _ _ _ _ _ _ h0 n0 _ T_8.heap _
    rw [e_8]
    exact ⟨_, _, rfl, N_8, kk_8, sz_b_2, V_8⟩
def Q_rnew8_2 (Z : State) (a1 : Addr) (a2 : Addr) (kK : ClassId) (kV : ClassId) (vk : List Value) (vv : List Value) (h0 : Heap) (n0 : Nat) (v : Option Value) (h : Heap) (L : List Loc) : Prop := ∃ b kB, v = some (.ref b) ∧ Fr n0 L ∧ Keep h0 h [] ∧ h0.size ≤ b ∧ Arv Z h b kB .byte (10 : Int32) [(vk.getD 0 (.int (0 : Int32))), (vk.getD 1 (.int (0 : Int32))), (vk.getD 2 (.int (0 : Int32))), (vk.getD 3 (.int (0 : Int32))), (vk.getD 4 (.int (0 : Int32))), (vk.getD 5 (.int (0 : Int32))), (vk.getD 6 (.int (0 : Int32))), (vk.getD 7 (.int (0 : Int32))), (vv.getD 0 (.int (0 : Int32))), (vv.getD 1 (.int (0 : Int32)))] (.int (0 : Int32))
set_option maxRecDepth 65536 in
set_option maxHeartbeats 40000000 in
theorem rnew8_2 (l : Launch) (Z : State) (a0 : Array Value) (hw : ∀ d ∈ tables_1, d.before a0 Z = true) (ws : List Jvm.Cond) (a1 : Addr) (a2 : Addr) (kK : ClassId) (kV : ClassId) (vk : List Value) (vv : List Value) (h0 : Heap) (n0 : Nat) (Z0 : n0 ≤ h0.size) (V1 : Arv Z h0 a1 kK .byte (8 : Int32) vk (.int (0 : Int32))) (V2 : Arv Z h0 a2 kV .byte (2 : Int32) vv (.int (0 : Int32))) :
    MetFree l (⟨"com/example/thin_table/thintable/model/KeyOrder", "newestValue", "([B[B)[B"⟩ : MethodName) (head1 (Jvm.Cond.code (⟨"com/example/thin_table/thintable/model/KeyOrder", "newestValue", "([B[B)[B"⟩ : MethodName) prog_12_method_16_code 3 (some (.array .byte)) :: ws) ({ frames := 1, cells := 1, slots := 10, locals := 24 } : Room)) (fun a U => a = #[(.ref a1), (.ref a2)] ∧ Z.Warmed39 U.vm ∧ U.heap = h0) (fun _ _ _ _ _ => True) (fun _ U o U' => ∃ v L, o = .returned v ∧ Q_rnew8_2 Z a1 a2 kK kV vk vv h0 n0 v U'.heap L ∧ FrameEnd U o U' L ({ frames := 1, cells := 1, slots := 10, locals := 24 } : Room).cells ({ frames := 1, cells := 1, slots := 10, locals := 24 } : Room).slots) := by
  refine MetFree.of_bodySF (plainFor_of_name pn_2) hisR ?_
  intro p e s m args below meth c s₁ Bd hml0 hP hK
  obtain ⟨rfl, hZ, hh⟩ := hP
  have hx := Bd.exec
  have hby := Bd.bytes
  have hml : c.maxLocals = 3 := hml0
  have hown : s.vm.findClass "com/example/thin_table/thintable/model/KeyOrder" = some m.cls := findClass_of_methodNamed Bd.named
  have hnm := (name_of_methodNamed Bd.named Bd.method).1
  have X0 : Stand p l e ({ frames := 1, cells := 1, slots := 10, locals := 24 } : Room) s m #[(.ref a1), (.ref a2)] below meth c s₁ [] 0 0 := Stand.of_body Bd
  have e0 : s₁.heap = h0 := by rw [← hh, Bd.state]; rfl
  have N0 := Fr.nil n0
  refine own_go (g' := (mkF m 0 #[.val (.ref a1), .val (.ref a2), .unset] [])) (fun t k => castTop (ef_2 m (a1) (a2)) k) ?_
  refine own_go (T' := s₁) (g' := (mkF m 3 #[.val (.ref a1), .val (.ref a2), .unset] [(.ref a2), (.int (8 : Int32))])) (fun t kt => ?_) ?_
  · show Steps p.tables e below (s₁.setTop (mkF m 0 #[.val (.ref a1), .val (.ref a2), .unset] [])) t
    refine XS.bipush X0.here hx rfl (hb hby d2_0) ?_
    show Steps p.tables e below (s₁.setTop (mkF m 2 #[.val (.ref a1), .val (.ref a2), .unset] [(.int (8 : Int32))])) t
    refine XS.aloadN X0.here hx rfl (hb hby d2_2) rfl rfl ?_
    exact kt
  have vq_1 := V2
  obtain ⟨c_1, a_1, -, s_1, m_1, -, -⟩ := vq_1
  refine own_go (T' := s₁) (g' := (mkF m 4 #[.val (.ref a1), .val (.ref a2), .unset] [(.int (2 : Int32)), (.int (8 : Int32))])) (fun t kt => ?_) ?_
  · refine X0.arraylength hx (by rw [e0]; exact a_1.1) (State.isArrayOf_alike hZ.alike a_1.2.1) (g := (mkF m 3 #[.val (.ref a1), .val (.ref a2), .unset] [(.ref a2), (.int (8 : Int32))])) rfl rfl (hb hby d2_3) _ ?_
    rw [len_of s_1 m_1]
    exact kt
  refine own_go (T' := s₁) (g' := (mkF m 5 #[.val (.ref a1), .val (.ref a2), .unset] [(.int (10 : Int32))])) (fun t kt => ?_) ?_
  · show Steps p.tables e below (s₁.setTop (mkF m 4 #[.val (.ref a1), .val (.ref a2), .unset] [(.int (2 : Int32)), (.int (8 : Int32))])) t
    refine XS.iadd X0.here hx rfl (hb hby d2_4) rfl ?_
    exact kt
  obtain ⟨T_2, h_2, k_2, X_2, e_2, E_2, A_2, B_2, st_2⟩ := newPE X0 hx hZ (hw _ (List.mem_of_getElem? (i := 0) rfl)) e0 (g := (mkF m 5 #[.val (.ref a1), .val (.ref a2), .unset] [(.int (10 : Int32))])) rfl (hb hby d2_5) rfl (by decide) (cap := 10) (by decide) (by decide) (by decide) (by decide) (ad := "[B") (by decide)
  obtain ⟨b_2, g_2⟩ : ∃ z, z = h0.size := ⟨_, rfl⟩
  rw [← g_2] at A_2 B_2 st_2
  have ne_a1_b_2 : a1 ≠ b_2 := Nat.ne_of_lt (Nat.lt_of_lt_of_le V1.lt (Nat.le_of_eq g_2.symm))
  have ne_a2_b_2 : a2 ≠ b_2 := Nat.ne_of_lt (Nat.lt_of_lt_of_le V2.lt (Nat.le_of_eq g_2.symm))
  have g_b_2 : n0 ≤ b_2 := Nat.le_trans Z0 (Nat.le_of_eq g_2.symm)
  have sz_b_2 : h0.size ≤ b_2 := Nat.le_trans (Keep.refl h0 []).1 (Nat.le_of_eq g_2.symm)
  have Z_2 : n0 ≤ h_2.size := Nat.le_trans Z0 E_2.1
  have kk_2 : Keep h0 h_2 [] := (Keep.refl h0 []).ext E_2
  have V_2 : Arv Z h_2 b_2 k_2 .byte (10 : Int32) [(.int (0 : Int32)), (.int (0 : Int32)), (.int (0 : Int32)), (.int (0 : Int32)), (.int (0 : Int32)), (.int (0 : Int32)), (.int (0 : Int32)), (.int (0 : Int32)), (.int (0 : Int32)), (.int (0 : Int32))] (.int (0 : Int32)) := (Arv.new A_2 (by decide)).pad (pad_rep [] (.int (0 : Int32)) 10)
  refine own_go (g' := (mkF m 7 #[.val (.ref a1), .val (.ref a2), .unset] [(.ref b_2)])) st_2 ?_
  refine own_go (T' := T_2) (g' := (mkF m 10 #[.val (.ref a1), .val (.ref a2), .val (.ref b_2)] [(.ref a1), (.ref a1)])) (fun t kt => ?_) ?_
  · show Steps p.tables e below (T_2.setTop (mkF m 7 #[.val (.ref a1), .val (.ref a2), .unset] [(.ref b_2)])) t
    refine XS.astoreN X_2.here hx rfl (hb hby d2_7) rfl rfl (l' := #[.val (.ref a1), .val (.ref a2), .val (.ref b_2)]) rfl ?_
    show Steps p.tables e below (T_2.setTop (mkF m 8 #[.val (.ref a1), .val (.ref a2), .val (.ref b_2)] [])) t
    refine XS.aloadN X_2.here hx rfl (hb hby d2_8) rfl rfl ?_
    show Steps p.tables e below (T_2.setTop (mkF m 9 #[.val (.ref a1), .val (.ref a2), .val (.ref b_2)] [(.ref a1)])) t
    refine XS.aloadN X_2.here hx rfl (hb hby d2_9) rfl rfl ?_
    exact kt
  have f_3 := (V1.ext E_2)
  have vq_4 := f_3
  obtain ⟨c_4, a_4, -, s_4, m_4, -, -⟩ := vq_4
  refine own_go (T' := T_2) (g' := (mkF m 11 #[.val (.ref a1), .val (.ref a2), .val (.ref b_2)] [(.int (8 : Int32)), (.ref a1)])) (fun t kt => ?_) ?_
  · refine X_2.arraylength hx (by rw [e_2]; exact a_4.1) (State.isArrayOf_alike hZ.alike a_4.2.1) (g := (mkF m 10 #[.val (.ref a1), .val (.ref a2), .val (.ref b_2)] [(.ref a1), (.ref a1)])) rfl rfl (hb hby d2_10) _ ?_
    rw [len_of s_4 m_4]
    exact kt
  refine own_go (T' := T_2) (g' := (mkF m 18 #[.val (.ref a1), .val (.ref a2), .val (.ref b_2)] [(.int (8 : Int32)), (.int (0 : Int32)), (.ref b_2), (.int (0 : Int32)), (.ref a1)])) (fun t kt => ?_) ?_
  · show Steps p.tables e below (T_2.setTop (mkF m 11 #[.val (.ref a1), .val (.ref a2), .val (.ref b_2)] [(.int (8 : Int32)), (.ref a1)])) t
    refine XS.bipush X_2.here hx rfl (hb hby d2_11) ?_
    show Steps p.tables e below (T_2.setTop (mkF m 13 #[.val (.ref a1), .val (.ref a2), .val (.ref b_2)] [(.int (8 : Int32)), (.int (8 : Int32)), (.ref a1)])) t
    refine XS.isub X_2.here hx rfl (hb hby d2_13) rfl ?_
    show Steps p.tables e below (T_2.setTop (mkF m 14 #[.val (.ref a1), .val (.ref a2), .val (.ref b_2)] [(.int (0 : Int32)), (.ref a1)])) t
    refine XS.aloadN X_2.here hx rfl (hb hby d2_14) rfl rfl ?_
    show Steps p.tables e below (T_2.setTop (mkF m 15 #[.val (.ref a1), .val (.ref a2), .val (.ref b_2)] [(.ref b_2), (.int (0 : Int32)), (.ref a1)])) t
    refine XS.iconst X_2.here hx rfl (hb hby d2_15) ?_
    show Steps p.tables e below (T_2.setTop (mkF m 16 #[.val (.ref a1), .val (.ref a2), .val (.ref b_2)] [(.int (0 : Int32)), (.ref b_2), (.int (0 : Int32)), (.ref a1)])) t
    refine XS.bipush X_2.here hx rfl (hb hby d2_16) ?_
    exact kt
  obtain ⟨T_5, h_5, L_5, X_5, e_5, N_5, K_5, V_5, st_5⟩ := cpA X_2 hx hZ hown (hw _ (List.mem_of_getElem? (i := 9) rfl)) (hw _ (List.mem_of_getElem? (i := 12) rfl)) (hw _ (List.mem_of_getElem? (i := 10) rfl)) (hw _ (List.mem_of_getElem? (i := 11) rfl)) e_2 (us := [(vk.getD 0 (.int (0 : Int32))), (vk.getD 1 (.int (0 : Int32))), (vk.getD 2 (.int (0 : Int32))), (vk.getD 3 (.int (0 : Int32))), (vk.getD 4 (.int (0 : Int32))), (vk.getD 5 (.int (0 : Int32))), (vk.getD 6 (.int (0 : Int32))), (vk.getD 7 (.int (0 : Int32)))]) f_3 V_2 (Or.inl ⟨rfl, rfl⟩) (sp := (0 : Int32)) (dp := (0 : Int32)) (nn := (8 : Int32)) (by decide) (by decide) (by decide) (Nat.le_of_ble_eq_true rfl) (Nat.le_of_ble_eq_true rfl) rfl (Nat.le_of_ble_eq_true rfl) N0 g_b_2 (g := (mkF m 18 #[.val (.ref a1), .val (.ref a2), .val (.ref b_2)] [(.int (8 : Int32)), (.int (0 : Int32)), (.ref b_2), (.int (0 : Int32)), (.ref a1)])) rfl (by rw [hml]; rfl) rfl (hb hby d2_18) (by decide) (W := 0) (by show 2 * 0 + _ ≤ _; exact Nat.le_of_eq rfl) (by decide)
  replace V_5 : Arv Z h_5 b_2 k_2 .byte (10 : Int32) [(vk.getD 0 (.int (0 : Int32))), (vk.getD 1 (.int (0 : Int32))), (vk.getD 2 (.int (0 : Int32))), (vk.getD 3 (.int (0 : Int32))), (vk.getD 4 (.int (0 : Int32))), (vk.getD 5 (.int (0 : Int32))), (vk.getD 6 (.int (0 : Int32))), (vk.getD 7 (.int (0 : Int32))), (.int (0 : Int32)), (.int (0 : Int32))] (.int (0 : Int32)) := V_5
  have Z_5 : n0 ≤ h_5.size := Nat.le_trans Z_2 K_5.1
  have kk_5 : Keep h0 h_5 [] := kk_2.trans K_5 (allS (Or.inr sz_b_2) all0)
  refine own_go (g' := (mkF m 21 #[.val (.ref a1), .val (.ref a2), .val (.ref b_2)] [])) st_5 ?_
  refine own_go (T' := T_5) (g' := (mkF m 27 #[.val (.ref a1), .val (.ref a2), .val (.ref b_2)] [(.ref a2), (.int (8 : Int32)), (.ref b_2), (.int (0 : Int32)), (.ref a2)])) (fun t kt => ?_) ?_
  · show Steps p.tables e below (T_5.setTop (mkF m 21 #[.val (.ref a1), .val (.ref a2), .val (.ref b_2)] [])) t
    refine XS.aloadN X_5.here hx rfl (hb hby d2_21) rfl rfl ?_
    show Steps p.tables e below (T_5.setTop (mkF m 22 #[.val (.ref a1), .val (.ref a2), .val (.ref b_2)] [(.ref a2)])) t
    refine XS.iconst X_5.here hx rfl (hb hby d2_22) ?_
    show Steps p.tables e below (T_5.setTop (mkF m 23 #[.val (.ref a1), .val (.ref a2), .val (.ref b_2)] [(.int (0 : Int32)), (.ref a2)])) t
    refine XS.aloadN X_5.here hx rfl (hb hby d2_23) rfl rfl ?_
    show Steps p.tables e below (T_5.setTop (mkF m 24 #[.val (.ref a1), .val (.ref a2), .val (.ref b_2)] [(.ref b_2), (.int (0 : Int32)), (.ref a2)])) t
    refine XS.bipush X_5.here hx rfl (hb hby d2_24) ?_
    show Steps p.tables e below (T_5.setTop (mkF m 26 #[.val (.ref a1), .val (.ref a2), .val (.ref b_2)] [(.int (8 : Int32)), (.ref b_2), (.int (0 : Int32)), (.ref a2)])) t
    refine XS.aloadN X_5.here hx rfl (hb hby d2_26) rfl rfl ?_
    exact kt
  have f_6 := ((V2.ext E_2).keep K_5 (ninS ne_a2_b_2 nin0))
  have vq_7 := f_6
  obtain ⟨c_7, a_7, -, s_7, m_7, -, -⟩ := vq_7
  refine own_go (T' := T_5) (g' := (mkF m 28 #[.val (.ref a1), .val (.ref a2), .val (.ref b_2)] [(.int (2 : Int32)), (.int (8 : Int32)), (.ref b_2), (.int (0 : Int32)), (.ref a2)])) (fun t kt => ?_) ?_
  · refine X_5.arraylength hx (by rw [e_5]; exact a_7.1) (State.isArrayOf_alike hZ.alike a_7.2.1) (g := (mkF m 27 #[.val (.ref a1), .val (.ref a2), .val (.ref b_2)] [(.ref a2), (.int (8 : Int32)), (.ref b_2), (.int (0 : Int32)), (.ref a2)])) rfl rfl (hb hby d2_27) _ ?_
    rw [len_of s_7 m_7]
    exact kt
  obtain ⟨T_8, h_8, L_8, X_8, e_8, N_8, K_8, V_8, st_8⟩ := cpA X_5 hx hZ hown (hw _ (List.mem_of_getElem? (i := 9) rfl)) (hw _ (List.mem_of_getElem? (i := 12) rfl)) (hw _ (List.mem_of_getElem? (i := 10) rfl)) (hw _ (List.mem_of_getElem? (i := 11) rfl)) e_5 (us := [(vv.getD 0 (.int (0 : Int32))), (vv.getD 1 (.int (0 : Int32)))]) f_6 V_5 (Or.inl ⟨rfl, rfl⟩) (sp := (0 : Int32)) (dp := (8 : Int32)) (nn := (2 : Int32)) (by decide) (by decide) (by decide) (Nat.le_of_ble_eq_true rfl) (Nat.le_of_ble_eq_true rfl) rfl (Nat.le_of_ble_eq_true rfl) N_5 g_b_2 (g := (mkF m 28 #[.val (.ref a1), .val (.ref a2), .val (.ref b_2)] [(.int (2 : Int32)), (.int (8 : Int32)), (.ref b_2), (.int (0 : Int32)), (.ref a2)])) rfl (by rw [hml]; rfl) rfl (hb hby d2_28) (by decide) (W := 0) (by show 2 * 0 + _ ≤ _; exact Nat.le_of_eq rfl) (by decide)
  replace V_8 : Arv Z h_8 b_2 k_2 .byte (10 : Int32) [(vk.getD 0 (.int (0 : Int32))), (vk.getD 1 (.int (0 : Int32))), (vk.getD 2 (.int (0 : Int32))), (vk.getD 3 (.int (0 : Int32))), (vk.getD 4 (.int (0 : Int32))), (vk.getD 5 (.int (0 : Int32))), (vk.getD 6 (.int (0 : Int32))), (vk.getD 7 (.int (0 : Int32))), (vv.getD 0 (.int (0 : Int32))), (vv.getD 1 (.int (0 : Int32)))] (.int (0 : Int32)) := V_8
  have Z_8 : n0 ≤ h_8.size := Nat.le_trans Z_5 K_8.1
  have kk_8 : Keep h0 h_8 [] := kk_5.trans K_8 (allS (Or.inr sz_b_2) all0)
  refine own_go (g' := (mkF m 31 #[.val (.ref a1), .val (.ref a2), .val (.ref b_2)] [])) st_8 ?_
  refine own_go (T' := T_8) (g' := (mkF m 32 #[.val (.ref a1), .val (.ref a2), .val (.ref b_2)] [(.ref b_2)])) (fun t kt => ?_) ?_
  · show Steps p.tables e below (T_8.setTop (mkF m 31 #[.val (.ref a1), .val (.ref a2), .val (.ref b_2)] [])) t
    refine XS.aloadN X_8.here hx rfl (hb hby d2_31) rfl rfl ?_
    exact kt
  obtain ⟨fs, hr, hrun, hended, hW, hsame⟩ := X_8.leave (v := some (.ref b_2)) (fun h => by rw [Bd.returns] at h; cases h)
  refine ⟨_, _, ?_, hrun, hended, _, _, rfl, ?_, ⟨_, rfl⟩, hW, hsame.mono (by decide) (by decide)⟩
  · show Steps p.tables e below (T_8.setTop (mkF m 32 #[.val (.ref a1), .val (.ref a2), .val (.ref b_2)] [(.ref b_2)])) _
    jvm_step X_8.here [X_8.here.top, hx, (hb hby d2_32), X_8.method', Bd.returns, Value.isRef, FieldType.isReference]
    first | (intro acts; rw [hr _ acts rfl rfl rfl]) | rw [hr _ _ rfl rfl rfl]
    exact Steps.refl _
  · show Q_rnew8_2 Z _ _ _ _ _ _ h0 n0 _ T_8.heap _
    rw [e_8]
    exact ⟨_, _, rfl, N_8, kk_8, sz_b_2, V_8⟩
def Q_rnew8_3 (Z : State) (a1 : Addr) (a2 : Addr) (kK : ClassId) (kV : ClassId) (vk : List Value) (vv : List Value) (h0 : Heap) (n0 : Nat) (v : Option Value) (h : Heap) (L : List Loc) : Prop := ∃ b kB, v = some (.ref b) ∧ Fr n0 L ∧ Keep h0 h [] ∧ h0.size ≤ b ∧ Arv Z h b kB .byte (11 : Int32) [(vk.getD 0 (.int (0 : Int32))), (vk.getD 1 (.int (0 : Int32))), (vk.getD 2 (.int (0 : Int32))), (vk.getD 3 (.int (0 : Int32))), (vk.getD 4 (.int (0 : Int32))), (vk.getD 5 (.int (0 : Int32))), (vk.getD 6 (.int (0 : Int32))), (vk.getD 7 (.int (0 : Int32))), (vv.getD 0 (.int (0 : Int32))), (vv.getD 1 (.int (0 : Int32))), (vv.getD 2 (.int (0 : Int32)))] (.int (0 : Int32))
set_option maxRecDepth 65536 in
set_option maxHeartbeats 40000000 in
theorem rnew8_3 (l : Launch) (Z : State) (a0 : Array Value) (hw : ∀ d ∈ tables_1, d.before a0 Z = true) (ws : List Jvm.Cond) (a1 : Addr) (a2 : Addr) (kK : ClassId) (kV : ClassId) (vk : List Value) (vv : List Value) (h0 : Heap) (n0 : Nat) (Z0 : n0 ≤ h0.size) (V1 : Arv Z h0 a1 kK .byte (8 : Int32) vk (.int (0 : Int32))) (V2 : Arv Z h0 a2 kV .byte (3 : Int32) vv (.int (0 : Int32))) :
    MetFree l (⟨"com/example/thin_table/thintable/model/KeyOrder", "newestValue", "([B[B)[B"⟩ : MethodName) (head1 (Jvm.Cond.code (⟨"com/example/thin_table/thintable/model/KeyOrder", "newestValue", "([B[B)[B"⟩ : MethodName) prog_12_method_16_code 3 (some (.array .byte)) :: ws) ({ frames := 1, cells := 1, slots := 11, locals := 24 } : Room)) (fun a U => a = #[(.ref a1), (.ref a2)] ∧ Z.Warmed39 U.vm ∧ U.heap = h0) (fun _ _ _ _ _ => True) (fun _ U o U' => ∃ v L, o = .returned v ∧ Q_rnew8_3 Z a1 a2 kK kV vk vv h0 n0 v U'.heap L ∧ FrameEnd U o U' L ({ frames := 1, cells := 1, slots := 11, locals := 24 } : Room).cells ({ frames := 1, cells := 1, slots := 11, locals := 24 } : Room).slots) := by
  refine MetFree.of_bodySF (plainFor_of_name pn_2) hisR ?_
  intro p e s m args below meth c s₁ Bd hml0 hP hK
  obtain ⟨rfl, hZ, hh⟩ := hP
  have hx := Bd.exec
  have hby := Bd.bytes
  have hml : c.maxLocals = 3 := hml0
  have hown : s.vm.findClass "com/example/thin_table/thintable/model/KeyOrder" = some m.cls := findClass_of_methodNamed Bd.named
  have hnm := (name_of_methodNamed Bd.named Bd.method).1
  have X0 : Stand p l e ({ frames := 1, cells := 1, slots := 11, locals := 24 } : Room) s m #[(.ref a1), (.ref a2)] below meth c s₁ [] 0 0 := Stand.of_body Bd
  have e0 : s₁.heap = h0 := by rw [← hh, Bd.state]; rfl
  have N0 := Fr.nil n0
  refine own_go (g' := (mkF m 0 #[.val (.ref a1), .val (.ref a2), .unset] [])) (fun t k => castTop (ef_2 m (a1) (a2)) k) ?_
  refine own_go (T' := s₁) (g' := (mkF m 3 #[.val (.ref a1), .val (.ref a2), .unset] [(.ref a2), (.int (8 : Int32))])) (fun t kt => ?_) ?_
  · show Steps p.tables e below (s₁.setTop (mkF m 0 #[.val (.ref a1), .val (.ref a2), .unset] [])) t
    refine XS.bipush X0.here hx rfl (hb hby d2_0) ?_
    show Steps p.tables e below (s₁.setTop (mkF m 2 #[.val (.ref a1), .val (.ref a2), .unset] [(.int (8 : Int32))])) t
    refine XS.aloadN X0.here hx rfl (hb hby d2_2) rfl rfl ?_
    exact kt
  have vq_1 := V2
  obtain ⟨c_1, a_1, -, s_1, m_1, -, -⟩ := vq_1
  refine own_go (T' := s₁) (g' := (mkF m 4 #[.val (.ref a1), .val (.ref a2), .unset] [(.int (3 : Int32)), (.int (8 : Int32))])) (fun t kt => ?_) ?_
  · refine X0.arraylength hx (by rw [e0]; exact a_1.1) (State.isArrayOf_alike hZ.alike a_1.2.1) (g := (mkF m 3 #[.val (.ref a1), .val (.ref a2), .unset] [(.ref a2), (.int (8 : Int32))])) rfl rfl (hb hby d2_3) _ ?_
    rw [len_of s_1 m_1]
    exact kt
  refine own_go (T' := s₁) (g' := (mkF m 5 #[.val (.ref a1), .val (.ref a2), .unset] [(.int (11 : Int32))])) (fun t kt => ?_) ?_
  · show Steps p.tables e below (s₁.setTop (mkF m 4 #[.val (.ref a1), .val (.ref a2), .unset] [(.int (3 : Int32)), (.int (8 : Int32))])) t
    refine XS.iadd X0.here hx rfl (hb hby d2_4) rfl ?_
    exact kt
  obtain ⟨T_2, h_2, k_2, X_2, e_2, E_2, A_2, B_2, st_2⟩ := newPE X0 hx hZ (hw _ (List.mem_of_getElem? (i := 0) rfl)) e0 (g := (mkF m 5 #[.val (.ref a1), .val (.ref a2), .unset] [(.int (11 : Int32))])) rfl (hb hby d2_5) rfl (by decide) (cap := 11) (by decide) (by decide) (by decide) (by decide) (ad := "[B") (by decide)
  obtain ⟨b_2, g_2⟩ : ∃ z, z = h0.size := ⟨_, rfl⟩
  rw [← g_2] at A_2 B_2 st_2
  have ne_a1_b_2 : a1 ≠ b_2 := Nat.ne_of_lt (Nat.lt_of_lt_of_le V1.lt (Nat.le_of_eq g_2.symm))
  have ne_a2_b_2 : a2 ≠ b_2 := Nat.ne_of_lt (Nat.lt_of_lt_of_le V2.lt (Nat.le_of_eq g_2.symm))
  have g_b_2 : n0 ≤ b_2 := Nat.le_trans Z0 (Nat.le_of_eq g_2.symm)
  have sz_b_2 : h0.size ≤ b_2 := Nat.le_trans (Keep.refl h0 []).1 (Nat.le_of_eq g_2.symm)
  have Z_2 : n0 ≤ h_2.size := Nat.le_trans Z0 E_2.1
  have kk_2 : Keep h0 h_2 [] := (Keep.refl h0 []).ext E_2
  have V_2 : Arv Z h_2 b_2 k_2 .byte (11 : Int32) [(.int (0 : Int32)), (.int (0 : Int32)), (.int (0 : Int32)), (.int (0 : Int32)), (.int (0 : Int32)), (.int (0 : Int32)), (.int (0 : Int32)), (.int (0 : Int32)), (.int (0 : Int32)), (.int (0 : Int32)), (.int (0 : Int32))] (.int (0 : Int32)) := (Arv.new A_2 (by decide)).pad (pad_rep [] (.int (0 : Int32)) 11)
  refine own_go (g' := (mkF m 7 #[.val (.ref a1), .val (.ref a2), .unset] [(.ref b_2)])) st_2 ?_
  refine own_go (T' := T_2) (g' := (mkF m 10 #[.val (.ref a1), .val (.ref a2), .val (.ref b_2)] [(.ref a1), (.ref a1)])) (fun t kt => ?_) ?_
  · show Steps p.tables e below (T_2.setTop (mkF m 7 #[.val (.ref a1), .val (.ref a2), .unset] [(.ref b_2)])) t
    refine XS.astoreN X_2.here hx rfl (hb hby d2_7) rfl rfl (l' := #[.val (.ref a1), .val (.ref a2), .val (.ref b_2)]) rfl ?_
    show Steps p.tables e below (T_2.setTop (mkF m 8 #[.val (.ref a1), .val (.ref a2), .val (.ref b_2)] [])) t
    refine XS.aloadN X_2.here hx rfl (hb hby d2_8) rfl rfl ?_
    show Steps p.tables e below (T_2.setTop (mkF m 9 #[.val (.ref a1), .val (.ref a2), .val (.ref b_2)] [(.ref a1)])) t
    refine XS.aloadN X_2.here hx rfl (hb hby d2_9) rfl rfl ?_
    exact kt
  have f_3 := (V1.ext E_2)
  have vq_4 := f_3
  obtain ⟨c_4, a_4, -, s_4, m_4, -, -⟩ := vq_4
  refine own_go (T' := T_2) (g' := (mkF m 11 #[.val (.ref a1), .val (.ref a2), .val (.ref b_2)] [(.int (8 : Int32)), (.ref a1)])) (fun t kt => ?_) ?_
  · refine X_2.arraylength hx (by rw [e_2]; exact a_4.1) (State.isArrayOf_alike hZ.alike a_4.2.1) (g := (mkF m 10 #[.val (.ref a1), .val (.ref a2), .val (.ref b_2)] [(.ref a1), (.ref a1)])) rfl rfl (hb hby d2_10) _ ?_
    rw [len_of s_4 m_4]
    exact kt
  refine own_go (T' := T_2) (g' := (mkF m 18 #[.val (.ref a1), .val (.ref a2), .val (.ref b_2)] [(.int (8 : Int32)), (.int (0 : Int32)), (.ref b_2), (.int (0 : Int32)), (.ref a1)])) (fun t kt => ?_) ?_
  · show Steps p.tables e below (T_2.setTop (mkF m 11 #[.val (.ref a1), .val (.ref a2), .val (.ref b_2)] [(.int (8 : Int32)), (.ref a1)])) t
    refine XS.bipush X_2.here hx rfl (hb hby d2_11) ?_
    show Steps p.tables e below (T_2.setTop (mkF m 13 #[.val (.ref a1), .val (.ref a2), .val (.ref b_2)] [(.int (8 : Int32)), (.int (8 : Int32)), (.ref a1)])) t
    refine XS.isub X_2.here hx rfl (hb hby d2_13) rfl ?_
    show Steps p.tables e below (T_2.setTop (mkF m 14 #[.val (.ref a1), .val (.ref a2), .val (.ref b_2)] [(.int (0 : Int32)), (.ref a1)])) t
    refine XS.aloadN X_2.here hx rfl (hb hby d2_14) rfl rfl ?_
    show Steps p.tables e below (T_2.setTop (mkF m 15 #[.val (.ref a1), .val (.ref a2), .val (.ref b_2)] [(.ref b_2), (.int (0 : Int32)), (.ref a1)])) t
    refine XS.iconst X_2.here hx rfl (hb hby d2_15) ?_
    show Steps p.tables e below (T_2.setTop (mkF m 16 #[.val (.ref a1), .val (.ref a2), .val (.ref b_2)] [(.int (0 : Int32)), (.ref b_2), (.int (0 : Int32)), (.ref a1)])) t
    refine XS.bipush X_2.here hx rfl (hb hby d2_16) ?_
    exact kt
  obtain ⟨T_5, h_5, L_5, X_5, e_5, N_5, K_5, V_5, st_5⟩ := cpA X_2 hx hZ hown (hw _ (List.mem_of_getElem? (i := 9) rfl)) (hw _ (List.mem_of_getElem? (i := 12) rfl)) (hw _ (List.mem_of_getElem? (i := 10) rfl)) (hw _ (List.mem_of_getElem? (i := 11) rfl)) e_2 (us := [(vk.getD 0 (.int (0 : Int32))), (vk.getD 1 (.int (0 : Int32))), (vk.getD 2 (.int (0 : Int32))), (vk.getD 3 (.int (0 : Int32))), (vk.getD 4 (.int (0 : Int32))), (vk.getD 5 (.int (0 : Int32))), (vk.getD 6 (.int (0 : Int32))), (vk.getD 7 (.int (0 : Int32)))]) f_3 V_2 (Or.inl ⟨rfl, rfl⟩) (sp := (0 : Int32)) (dp := (0 : Int32)) (nn := (8 : Int32)) (by decide) (by decide) (by decide) (Nat.le_of_ble_eq_true rfl) (Nat.le_of_ble_eq_true rfl) rfl (Nat.le_of_ble_eq_true rfl) N0 g_b_2 (g := (mkF m 18 #[.val (.ref a1), .val (.ref a2), .val (.ref b_2)] [(.int (8 : Int32)), (.int (0 : Int32)), (.ref b_2), (.int (0 : Int32)), (.ref a1)])) rfl (by rw [hml]; rfl) rfl (hb hby d2_18) (by decide) (W := 0) (by show 2 * 0 + _ ≤ _; exact Nat.le_of_eq rfl) (by decide)
  replace V_5 : Arv Z h_5 b_2 k_2 .byte (11 : Int32) [(vk.getD 0 (.int (0 : Int32))), (vk.getD 1 (.int (0 : Int32))), (vk.getD 2 (.int (0 : Int32))), (vk.getD 3 (.int (0 : Int32))), (vk.getD 4 (.int (0 : Int32))), (vk.getD 5 (.int (0 : Int32))), (vk.getD 6 (.int (0 : Int32))), (vk.getD 7 (.int (0 : Int32))), (.int (0 : Int32)), (.int (0 : Int32)), (.int (0 : Int32))] (.int (0 : Int32)) := V_5
  have Z_5 : n0 ≤ h_5.size := Nat.le_trans Z_2 K_5.1
  have kk_5 : Keep h0 h_5 [] := kk_2.trans K_5 (allS (Or.inr sz_b_2) all0)
  refine own_go (g' := (mkF m 21 #[.val (.ref a1), .val (.ref a2), .val (.ref b_2)] [])) st_5 ?_
  refine own_go (T' := T_5) (g' := (mkF m 27 #[.val (.ref a1), .val (.ref a2), .val (.ref b_2)] [(.ref a2), (.int (8 : Int32)), (.ref b_2), (.int (0 : Int32)), (.ref a2)])) (fun t kt => ?_) ?_
  · show Steps p.tables e below (T_5.setTop (mkF m 21 #[.val (.ref a1), .val (.ref a2), .val (.ref b_2)] [])) t
    refine XS.aloadN X_5.here hx rfl (hb hby d2_21) rfl rfl ?_
    show Steps p.tables e below (T_5.setTop (mkF m 22 #[.val (.ref a1), .val (.ref a2), .val (.ref b_2)] [(.ref a2)])) t
    refine XS.iconst X_5.here hx rfl (hb hby d2_22) ?_
    show Steps p.tables e below (T_5.setTop (mkF m 23 #[.val (.ref a1), .val (.ref a2), .val (.ref b_2)] [(.int (0 : Int32)), (.ref a2)])) t
    refine XS.aloadN X_5.here hx rfl (hb hby d2_23) rfl rfl ?_
    show Steps p.tables e below (T_5.setTop (mkF m 24 #[.val (.ref a1), .val (.ref a2), .val (.ref b_2)] [(.ref b_2), (.int (0 : Int32)), (.ref a2)])) t
    refine XS.bipush X_5.here hx rfl (hb hby d2_24) ?_
    show Steps p.tables e below (T_5.setTop (mkF m 26 #[.val (.ref a1), .val (.ref a2), .val (.ref b_2)] [(.int (8 : Int32)), (.ref b_2), (.int (0 : Int32)), (.ref a2)])) t
    refine XS.aloadN X_5.here hx rfl (hb hby d2_26) rfl rfl ?_
    exact kt
  have f_6 := ((V2.ext E_2).keep K_5 (ninS ne_a2_b_2 nin0))
  have vq_7 := f_6
  obtain ⟨c_7, a_7, -, s_7, m_7, -, -⟩ := vq_7
  refine own_go (T' := T_5) (g' := (mkF m 28 #[.val (.ref a1), .val (.ref a2), .val (.ref b_2)] [(.int (3 : Int32)), (.int (8 : Int32)), (.ref b_2), (.int (0 : Int32)), (.ref a2)])) (fun t kt => ?_) ?_
  · refine X_5.arraylength hx (by rw [e_5]; exact a_7.1) (State.isArrayOf_alike hZ.alike a_7.2.1) (g := (mkF m 27 #[.val (.ref a1), .val (.ref a2), .val (.ref b_2)] [(.ref a2), (.int (8 : Int32)), (.ref b_2), (.int (0 : Int32)), (.ref a2)])) rfl rfl (hb hby d2_27) _ ?_
    rw [len_of s_7 m_7]
    exact kt
  obtain ⟨T_8, h_8, L_8, X_8, e_8, N_8, K_8, V_8, st_8⟩ := cpA X_5 hx hZ hown (hw _ (List.mem_of_getElem? (i := 9) rfl)) (hw _ (List.mem_of_getElem? (i := 12) rfl)) (hw _ (List.mem_of_getElem? (i := 10) rfl)) (hw _ (List.mem_of_getElem? (i := 11) rfl)) e_5 (us := [(vv.getD 0 (.int (0 : Int32))), (vv.getD 1 (.int (0 : Int32))), (vv.getD 2 (.int (0 : Int32)))]) f_6 V_5 (Or.inl ⟨rfl, rfl⟩) (sp := (0 : Int32)) (dp := (8 : Int32)) (nn := (3 : Int32)) (by decide) (by decide) (by decide) (Nat.le_of_ble_eq_true rfl) (Nat.le_of_ble_eq_true rfl) rfl (Nat.le_of_ble_eq_true rfl) N_5 g_b_2 (g := (mkF m 28 #[.val (.ref a1), .val (.ref a2), .val (.ref b_2)] [(.int (3 : Int32)), (.int (8 : Int32)), (.ref b_2), (.int (0 : Int32)), (.ref a2)])) rfl (by rw [hml]; rfl) rfl (hb hby d2_28) (by decide) (W := 0) (by show 2 * 0 + _ ≤ _; exact Nat.le_of_eq rfl) (by decide)
  replace V_8 : Arv Z h_8 b_2 k_2 .byte (11 : Int32) [(vk.getD 0 (.int (0 : Int32))), (vk.getD 1 (.int (0 : Int32))), (vk.getD 2 (.int (0 : Int32))), (vk.getD 3 (.int (0 : Int32))), (vk.getD 4 (.int (0 : Int32))), (vk.getD 5 (.int (0 : Int32))), (vk.getD 6 (.int (0 : Int32))), (vk.getD 7 (.int (0 : Int32))), (vv.getD 0 (.int (0 : Int32))), (vv.getD 1 (.int (0 : Int32))), (vv.getD 2 (.int (0 : Int32)))] (.int (0 : Int32)) := V_8
  have Z_8 : n0 ≤ h_8.size := Nat.le_trans Z_5 K_8.1
  have kk_8 : Keep h0 h_8 [] := kk_5.trans K_8 (allS (Or.inr sz_b_2) all0)
  refine own_go (g' := (mkF m 31 #[.val (.ref a1), .val (.ref a2), .val (.ref b_2)] [])) st_8 ?_
  refine own_go (T' := T_8) (g' := (mkF m 32 #[.val (.ref a1), .val (.ref a2), .val (.ref b_2)] [(.ref b_2)])) (fun t kt => ?_) ?_
  · show Steps p.tables e below (T_8.setTop (mkF m 31 #[.val (.ref a1), .val (.ref a2), .val (.ref b_2)] [])) t
    refine XS.aloadN X_8.here hx rfl (hb hby d2_31) rfl rfl ?_
    exact kt
  obtain ⟨fs, hr, hrun, hended, hW, hsame⟩ := X_8.leave (v := some (.ref b_2)) (fun h => by rw [Bd.returns] at h; cases h)
  refine ⟨_, _, ?_, hrun, hended, _, _, rfl, ?_, ⟨_, rfl⟩, hW, hsame.mono (by decide) (by decide)⟩
  · show Steps p.tables e below (T_8.setTop (mkF m 32 #[.val (.ref a1), .val (.ref a2), .val (.ref b_2)] [(.ref b_2)])) _
    jvm_step X_8.here [X_8.here.top, hx, (hb hby d2_32), X_8.method', Bd.returns, Value.isRef, FieldType.isReference]
    first | (intro acts; rw [hr _ acts rfl rfl rfl]) | rw [hr _ _ rfl rfl rfl]
    exact Steps.refl _
  · show Q_rnew8_3 Z _ _ _ _ _ _ h0 n0 _ T_8.heap _
    rw [e_8]
    exact ⟨_, _, rfl, N_8, kk_8, sz_b_2, V_8⟩
def Q_rnew11_0 (Z : State) (a1 : Addr) (a2 : Addr) (kK : ClassId) (kV : ClassId) (vk : List Value) (vv : List Value) (h0 : Heap) (n0 : Nat) (v : Option Value) (h : Heap) (L : List Loc) : Prop := ∃ b kB, v = some (.ref b) ∧ Fr n0 L ∧ Keep h0 h [] ∧ h0.size ≤ b ∧ Arv Z h b kB .byte (8 : Int32) [(vk.getD 3 (.int (0 : Int32))), (vk.getD 4 (.int (0 : Int32))), (vk.getD 5 (.int (0 : Int32))), (vk.getD 6 (.int (0 : Int32))), (vk.getD 7 (.int (0 : Int32))), (vk.getD 8 (.int (0 : Int32))), (vk.getD 9 (.int (0 : Int32))), (vk.getD 10 (.int (0 : Int32)))] (.int (0 : Int32))
set_option maxRecDepth 65536 in
set_option maxHeartbeats 40000000 in
theorem rnew11_0 (l : Launch) (Z : State) (a0 : Array Value) (hw : ∀ d ∈ tables_1, d.before a0 Z = true) (ws : List Jvm.Cond) (a1 : Addr) (a2 : Addr) (kK : ClassId) (kV : ClassId) (vk : List Value) (vv : List Value) (h0 : Heap) (n0 : Nat) (Z0 : n0 ≤ h0.size) (V1 : Arv Z h0 a1 kK .byte (11 : Int32) vk (.int (0 : Int32))) (V2 : Arv Z h0 a2 kV .byte (0 : Int32) vv (.int (0 : Int32))) :
    MetFree l (⟨"com/example/thin_table/thintable/model/KeyOrder", "newestValue", "([B[B)[B"⟩ : MethodName) (head1 (Jvm.Cond.code (⟨"com/example/thin_table/thintable/model/KeyOrder", "newestValue", "([B[B)[B"⟩ : MethodName) prog_12_method_16_code 3 (some (.array .byte)) :: ws) ({ frames := 1, cells := 1, slots := 8, locals := 24 } : Room)) (fun a U => a = #[(.ref a1), (.ref a2)] ∧ Z.Warmed39 U.vm ∧ U.heap = h0) (fun _ _ _ _ _ => True) (fun _ U o U' => ∃ v L, o = .returned v ∧ Q_rnew11_0 Z a1 a2 kK kV vk vv h0 n0 v U'.heap L ∧ FrameEnd U o U' L ({ frames := 1, cells := 1, slots := 8, locals := 24 } : Room).cells ({ frames := 1, cells := 1, slots := 8, locals := 24 } : Room).slots) := by
  refine MetFree.of_bodySF (plainFor_of_name pn_2) hisR ?_
  intro p e s m args below meth c s₁ Bd hml0 hP hK
  obtain ⟨rfl, hZ, hh⟩ := hP
  have hx := Bd.exec
  have hby := Bd.bytes
  have hml : c.maxLocals = 3 := hml0
  have hown : s.vm.findClass "com/example/thin_table/thintable/model/KeyOrder" = some m.cls := findClass_of_methodNamed Bd.named
  have hnm := (name_of_methodNamed Bd.named Bd.method).1
  have X0 : Stand p l e ({ frames := 1, cells := 1, slots := 8, locals := 24 } : Room) s m #[(.ref a1), (.ref a2)] below meth c s₁ [] 0 0 := Stand.of_body Bd
  have e0 : s₁.heap = h0 := by rw [← hh, Bd.state]; rfl
  have N0 := Fr.nil n0
  refine own_go (g' := (mkF m 0 #[.val (.ref a1), .val (.ref a2), .unset] [])) (fun t k => castTop (ef_2 m (a1) (a2)) k) ?_
  refine own_go (T' := s₁) (g' := (mkF m 3 #[.val (.ref a1), .val (.ref a2), .unset] [(.ref a2), (.int (8 : Int32))])) (fun t kt => ?_) ?_
  · show Steps p.tables e below (s₁.setTop (mkF m 0 #[.val (.ref a1), .val (.ref a2), .unset] [])) t
    refine XS.bipush X0.here hx rfl (hb hby d2_0) ?_
    show Steps p.tables e below (s₁.setTop (mkF m 2 #[.val (.ref a1), .val (.ref a2), .unset] [(.int (8 : Int32))])) t
    refine XS.aloadN X0.here hx rfl (hb hby d2_2) rfl rfl ?_
    exact kt
  have vq_1 := V2
  obtain ⟨c_1, a_1, -, s_1, m_1, -, -⟩ := vq_1
  refine own_go (T' := s₁) (g' := (mkF m 4 #[.val (.ref a1), .val (.ref a2), .unset] [(.int (0 : Int32)), (.int (8 : Int32))])) (fun t kt => ?_) ?_
  · refine X0.arraylength hx (by rw [e0]; exact a_1.1) (State.isArrayOf_alike hZ.alike a_1.2.1) (g := (mkF m 3 #[.val (.ref a1), .val (.ref a2), .unset] [(.ref a2), (.int (8 : Int32))])) rfl rfl (hb hby d2_3) _ ?_
    rw [len_of s_1 m_1]
    exact kt
  refine own_go (T' := s₁) (g' := (mkF m 5 #[.val (.ref a1), .val (.ref a2), .unset] [(.int (8 : Int32))])) (fun t kt => ?_) ?_
  · show Steps p.tables e below (s₁.setTop (mkF m 4 #[.val (.ref a1), .val (.ref a2), .unset] [(.int (0 : Int32)), (.int (8 : Int32))])) t
    refine XS.iadd X0.here hx rfl (hb hby d2_4) rfl ?_
    exact kt
  obtain ⟨T_2, h_2, k_2, X_2, e_2, E_2, A_2, B_2, st_2⟩ := newPE X0 hx hZ (hw _ (List.mem_of_getElem? (i := 0) rfl)) e0 (g := (mkF m 5 #[.val (.ref a1), .val (.ref a2), .unset] [(.int (8 : Int32))])) rfl (hb hby d2_5) rfl (by decide) (cap := 8) (by decide) (by decide) (by decide) (by decide) (ad := "[B") (by decide)
  obtain ⟨b_2, g_2⟩ : ∃ z, z = h0.size := ⟨_, rfl⟩
  rw [← g_2] at A_2 B_2 st_2
  have ne_a1_b_2 : a1 ≠ b_2 := Nat.ne_of_lt (Nat.lt_of_lt_of_le V1.lt (Nat.le_of_eq g_2.symm))
  have ne_a2_b_2 : a2 ≠ b_2 := Nat.ne_of_lt (Nat.lt_of_lt_of_le V2.lt (Nat.le_of_eq g_2.symm))
  have g_b_2 : n0 ≤ b_2 := Nat.le_trans Z0 (Nat.le_of_eq g_2.symm)
  have sz_b_2 : h0.size ≤ b_2 := Nat.le_trans (Keep.refl h0 []).1 (Nat.le_of_eq g_2.symm)
  have Z_2 : n0 ≤ h_2.size := Nat.le_trans Z0 E_2.1
  have kk_2 : Keep h0 h_2 [] := (Keep.refl h0 []).ext E_2
  have V_2 : Arv Z h_2 b_2 k_2 .byte (8 : Int32) [(.int (0 : Int32)), (.int (0 : Int32)), (.int (0 : Int32)), (.int (0 : Int32)), (.int (0 : Int32)), (.int (0 : Int32)), (.int (0 : Int32)), (.int (0 : Int32))] (.int (0 : Int32)) := (Arv.new A_2 (by decide)).pad (pad_rep [] (.int (0 : Int32)) 8)
  refine own_go (g' := (mkF m 7 #[.val (.ref a1), .val (.ref a2), .unset] [(.ref b_2)])) st_2 ?_
  refine own_go (T' := T_2) (g' := (mkF m 10 #[.val (.ref a1), .val (.ref a2), .val (.ref b_2)] [(.ref a1), (.ref a1)])) (fun t kt => ?_) ?_
  · show Steps p.tables e below (T_2.setTop (mkF m 7 #[.val (.ref a1), .val (.ref a2), .unset] [(.ref b_2)])) t
    refine XS.astoreN X_2.here hx rfl (hb hby d2_7) rfl rfl (l' := #[.val (.ref a1), .val (.ref a2), .val (.ref b_2)]) rfl ?_
    show Steps p.tables e below (T_2.setTop (mkF m 8 #[.val (.ref a1), .val (.ref a2), .val (.ref b_2)] [])) t
    refine XS.aloadN X_2.here hx rfl (hb hby d2_8) rfl rfl ?_
    show Steps p.tables e below (T_2.setTop (mkF m 9 #[.val (.ref a1), .val (.ref a2), .val (.ref b_2)] [(.ref a1)])) t
    refine XS.aloadN X_2.here hx rfl (hb hby d2_9) rfl rfl ?_
    exact kt
  have f_3 := (V1.ext E_2)
  have vq_4 := f_3
  obtain ⟨c_4, a_4, -, s_4, m_4, -, -⟩ := vq_4
  refine own_go (T' := T_2) (g' := (mkF m 11 #[.val (.ref a1), .val (.ref a2), .val (.ref b_2)] [(.int (11 : Int32)), (.ref a1)])) (fun t kt => ?_) ?_
  · refine X_2.arraylength hx (by rw [e_2]; exact a_4.1) (State.isArrayOf_alike hZ.alike a_4.2.1) (g := (mkF m 10 #[.val (.ref a1), .val (.ref a2), .val (.ref b_2)] [(.ref a1), (.ref a1)])) rfl rfl (hb hby d2_10) _ ?_
    rw [len_of s_4 m_4]
    exact kt
  refine own_go (T' := T_2) (g' := (mkF m 18 #[.val (.ref a1), .val (.ref a2), .val (.ref b_2)] [(.int (8 : Int32)), (.int (0 : Int32)), (.ref b_2), (.int (3 : Int32)), (.ref a1)])) (fun t kt => ?_) ?_
  · show Steps p.tables e below (T_2.setTop (mkF m 11 #[.val (.ref a1), .val (.ref a2), .val (.ref b_2)] [(.int (11 : Int32)), (.ref a1)])) t
    refine XS.bipush X_2.here hx rfl (hb hby d2_11) ?_
    show Steps p.tables e below (T_2.setTop (mkF m 13 #[.val (.ref a1), .val (.ref a2), .val (.ref b_2)] [(.int (8 : Int32)), (.int (11 : Int32)), (.ref a1)])) t
    refine XS.isub X_2.here hx rfl (hb hby d2_13) rfl ?_
    show Steps p.tables e below (T_2.setTop (mkF m 14 #[.val (.ref a1), .val (.ref a2), .val (.ref b_2)] [(.int (3 : Int32)), (.ref a1)])) t
    refine XS.aloadN X_2.here hx rfl (hb hby d2_14) rfl rfl ?_
    show Steps p.tables e below (T_2.setTop (mkF m 15 #[.val (.ref a1), .val (.ref a2), .val (.ref b_2)] [(.ref b_2), (.int (3 : Int32)), (.ref a1)])) t
    refine XS.iconst X_2.here hx rfl (hb hby d2_15) ?_
    show Steps p.tables e below (T_2.setTop (mkF m 16 #[.val (.ref a1), .val (.ref a2), .val (.ref b_2)] [(.int (0 : Int32)), (.ref b_2), (.int (3 : Int32)), (.ref a1)])) t
    refine XS.bipush X_2.here hx rfl (hb hby d2_16) ?_
    exact kt
  obtain ⟨T_5, h_5, L_5, X_5, e_5, N_5, K_5, V_5, st_5⟩ := cpA X_2 hx hZ hown (hw _ (List.mem_of_getElem? (i := 9) rfl)) (hw _ (List.mem_of_getElem? (i := 12) rfl)) (hw _ (List.mem_of_getElem? (i := 10) rfl)) (hw _ (List.mem_of_getElem? (i := 11) rfl)) e_2 (us := [(vk.getD 3 (.int (0 : Int32))), (vk.getD 4 (.int (0 : Int32))), (vk.getD 5 (.int (0 : Int32))), (vk.getD 6 (.int (0 : Int32))), (vk.getD 7 (.int (0 : Int32))), (vk.getD 8 (.int (0 : Int32))), (vk.getD 9 (.int (0 : Int32))), (vk.getD 10 (.int (0 : Int32)))]) f_3 V_2 (Or.inl ⟨rfl, rfl⟩) (sp := (3 : Int32)) (dp := (0 : Int32)) (nn := (8 : Int32)) (by decide) (by decide) (by decide) (Nat.le_of_ble_eq_true rfl) (Nat.le_of_ble_eq_true rfl) rfl (Nat.le_of_ble_eq_true rfl) N0 g_b_2 (g := (mkF m 18 #[.val (.ref a1), .val (.ref a2), .val (.ref b_2)] [(.int (8 : Int32)), (.int (0 : Int32)), (.ref b_2), (.int (3 : Int32)), (.ref a1)])) rfl (by rw [hml]; rfl) rfl (hb hby d2_18) (by decide) (W := 0) (by show 2 * 0 + _ ≤ _; exact Nat.le_of_eq rfl) (by decide)
  replace V_5 : Arv Z h_5 b_2 k_2 .byte (8 : Int32) [(vk.getD 3 (.int (0 : Int32))), (vk.getD 4 (.int (0 : Int32))), (vk.getD 5 (.int (0 : Int32))), (vk.getD 6 (.int (0 : Int32))), (vk.getD 7 (.int (0 : Int32))), (vk.getD 8 (.int (0 : Int32))), (vk.getD 9 (.int (0 : Int32))), (vk.getD 10 (.int (0 : Int32)))] (.int (0 : Int32)) := V_5
  have Z_5 : n0 ≤ h_5.size := Nat.le_trans Z_2 K_5.1
  have kk_5 : Keep h0 h_5 [] := kk_2.trans K_5 (allS (Or.inr sz_b_2) all0)
  refine own_go (g' := (mkF m 21 #[.val (.ref a1), .val (.ref a2), .val (.ref b_2)] [])) st_5 ?_
  refine own_go (T' := T_5) (g' := (mkF m 27 #[.val (.ref a1), .val (.ref a2), .val (.ref b_2)] [(.ref a2), (.int (8 : Int32)), (.ref b_2), (.int (0 : Int32)), (.ref a2)])) (fun t kt => ?_) ?_
  · show Steps p.tables e below (T_5.setTop (mkF m 21 #[.val (.ref a1), .val (.ref a2), .val (.ref b_2)] [])) t
    refine XS.aloadN X_5.here hx rfl (hb hby d2_21) rfl rfl ?_
    show Steps p.tables e below (T_5.setTop (mkF m 22 #[.val (.ref a1), .val (.ref a2), .val (.ref b_2)] [(.ref a2)])) t
    refine XS.iconst X_5.here hx rfl (hb hby d2_22) ?_
    show Steps p.tables e below (T_5.setTop (mkF m 23 #[.val (.ref a1), .val (.ref a2), .val (.ref b_2)] [(.int (0 : Int32)), (.ref a2)])) t
    refine XS.aloadN X_5.here hx rfl (hb hby d2_23) rfl rfl ?_
    show Steps p.tables e below (T_5.setTop (mkF m 24 #[.val (.ref a1), .val (.ref a2), .val (.ref b_2)] [(.ref b_2), (.int (0 : Int32)), (.ref a2)])) t
    refine XS.bipush X_5.here hx rfl (hb hby d2_24) ?_
    show Steps p.tables e below (T_5.setTop (mkF m 26 #[.val (.ref a1), .val (.ref a2), .val (.ref b_2)] [(.int (8 : Int32)), (.ref b_2), (.int (0 : Int32)), (.ref a2)])) t
    refine XS.aloadN X_5.here hx rfl (hb hby d2_26) rfl rfl ?_
    exact kt
  have f_6 := ((V2.ext E_2).keep K_5 (ninS ne_a2_b_2 nin0))
  have vq_7 := f_6
  obtain ⟨c_7, a_7, -, s_7, m_7, -, -⟩ := vq_7
  refine own_go (T' := T_5) (g' := (mkF m 28 #[.val (.ref a1), .val (.ref a2), .val (.ref b_2)] [(.int (0 : Int32)), (.int (8 : Int32)), (.ref b_2), (.int (0 : Int32)), (.ref a2)])) (fun t kt => ?_) ?_
  · refine X_5.arraylength hx (by rw [e_5]; exact a_7.1) (State.isArrayOf_alike hZ.alike a_7.2.1) (g := (mkF m 27 #[.val (.ref a1), .val (.ref a2), .val (.ref b_2)] [(.ref a2), (.int (8 : Int32)), (.ref b_2), (.int (0 : Int32)), (.ref a2)])) rfl rfl (hb hby d2_27) _ ?_
    rw [len_of s_7 m_7]
    exact kt
  obtain ⟨T_8, h_8, L_8, X_8, e_8, N_8, K_8, V_8, st_8⟩ := cpA X_5 hx hZ hown (hw _ (List.mem_of_getElem? (i := 9) rfl)) (hw _ (List.mem_of_getElem? (i := 12) rfl)) (hw _ (List.mem_of_getElem? (i := 10) rfl)) (hw _ (List.mem_of_getElem? (i := 11) rfl)) e_5 (us := []) f_6 V_5 (Or.inl ⟨rfl, rfl⟩) (sp := (0 : Int32)) (dp := (8 : Int32)) (nn := (0 : Int32)) (by decide) (by decide) (by decide) (Nat.le_of_ble_eq_true rfl) (Nat.le_of_ble_eq_true rfl) rfl (Nat.le_of_ble_eq_true rfl) N_5 g_b_2 (g := (mkF m 28 #[.val (.ref a1), .val (.ref a2), .val (.ref b_2)] [(.int (0 : Int32)), (.int (8 : Int32)), (.ref b_2), (.int (0 : Int32)), (.ref a2)])) rfl (by rw [hml]; rfl) rfl (hb hby d2_28) (by decide) (W := 0) (by show 2 * 0 + _ ≤ _; exact Nat.le_of_eq rfl) (by decide)
  replace V_8 : Arv Z h_8 b_2 k_2 .byte (8 : Int32) [(vk.getD 3 (.int (0 : Int32))), (vk.getD 4 (.int (0 : Int32))), (vk.getD 5 (.int (0 : Int32))), (vk.getD 6 (.int (0 : Int32))), (vk.getD 7 (.int (0 : Int32))), (vk.getD 8 (.int (0 : Int32))), (vk.getD 9 (.int (0 : Int32))), (vk.getD 10 (.int (0 : Int32)))] (.int (0 : Int32)) := V_8
  have Z_8 : n0 ≤ h_8.size := Nat.le_trans Z_5 K_8.1
  have kk_8 : Keep h0 h_8 [] := kk_5.trans K_8 (allS (Or.inr sz_b_2) all0)
  refine own_go (g' := (mkF m 31 #[.val (.ref a1), .val (.ref a2), .val (.ref b_2)] [])) st_8 ?_
  refine own_go (T' := T_8) (g' := (mkF m 32 #[.val (.ref a1), .val (.ref a2), .val (.ref b_2)] [(.ref b_2)])) (fun t kt => ?_) ?_
  · show Steps p.tables e below (T_8.setTop (mkF m 31 #[.val (.ref a1), .val (.ref a2), .val (.ref b_2)] [])) t
    refine XS.aloadN X_8.here hx rfl (hb hby d2_31) rfl rfl ?_
    exact kt
  obtain ⟨fs, hr, hrun, hended, hW, hsame⟩ := X_8.leave (v := some (.ref b_2)) (fun h => by rw [Bd.returns] at h; cases h)
  refine ⟨_, _, ?_, hrun, hended, _, _, rfl, ?_, ⟨_, rfl⟩, hW, hsame.mono (by decide) (by decide)⟩
  · show Steps p.tables e below (T_8.setTop (mkF m 32 #[.val (.ref a1), .val (.ref a2), .val (.ref b_2)] [(.ref b_2)])) _
    jvm_step X_8.here [X_8.here.top, hx, (hb hby d2_32), X_8.method', Bd.returns, Value.isRef, FieldType.isReference]
    first | (intro acts; rw [hr _ acts rfl rfl rfl]) | rw [hr _ _ rfl rfl rfl]
    exact Steps.refl _
  · show Q_rnew11_0 Z _ _ _ _ _ _ h0 n0 _ T_8.heap _
    rw [e_8]
    exact ⟨_, _, rfl, N_8, kk_8, sz_b_2, V_8⟩
def Q_rnew11_1 (Z : State) (a1 : Addr) (a2 : Addr) (kK : ClassId) (kV : ClassId) (vk : List Value) (vv : List Value) (h0 : Heap) (n0 : Nat) (v : Option Value) (h : Heap) (L : List Loc) : Prop := ∃ b kB, v = some (.ref b) ∧ Fr n0 L ∧ Keep h0 h [] ∧ h0.size ≤ b ∧ Arv Z h b kB .byte (9 : Int32) [(vk.getD 3 (.int (0 : Int32))), (vk.getD 4 (.int (0 : Int32))), (vk.getD 5 (.int (0 : Int32))), (vk.getD 6 (.int (0 : Int32))), (vk.getD 7 (.int (0 : Int32))), (vk.getD 8 (.int (0 : Int32))), (vk.getD 9 (.int (0 : Int32))), (vk.getD 10 (.int (0 : Int32))), (vv.getD 0 (.int (0 : Int32)))] (.int (0 : Int32))
set_option maxRecDepth 65536 in
set_option maxHeartbeats 40000000 in
theorem rnew11_1 (l : Launch) (Z : State) (a0 : Array Value) (hw : ∀ d ∈ tables_1, d.before a0 Z = true) (ws : List Jvm.Cond) (a1 : Addr) (a2 : Addr) (kK : ClassId) (kV : ClassId) (vk : List Value) (vv : List Value) (h0 : Heap) (n0 : Nat) (Z0 : n0 ≤ h0.size) (V1 : Arv Z h0 a1 kK .byte (11 : Int32) vk (.int (0 : Int32))) (V2 : Arv Z h0 a2 kV .byte (1 : Int32) vv (.int (0 : Int32))) :
    MetFree l (⟨"com/example/thin_table/thintable/model/KeyOrder", "newestValue", "([B[B)[B"⟩ : MethodName) (head1 (Jvm.Cond.code (⟨"com/example/thin_table/thintable/model/KeyOrder", "newestValue", "([B[B)[B"⟩ : MethodName) prog_12_method_16_code 3 (some (.array .byte)) :: ws) ({ frames := 1, cells := 1, slots := 9, locals := 24 } : Room)) (fun a U => a = #[(.ref a1), (.ref a2)] ∧ Z.Warmed39 U.vm ∧ U.heap = h0) (fun _ _ _ _ _ => True) (fun _ U o U' => ∃ v L, o = .returned v ∧ Q_rnew11_1 Z a1 a2 kK kV vk vv h0 n0 v U'.heap L ∧ FrameEnd U o U' L ({ frames := 1, cells := 1, slots := 9, locals := 24 } : Room).cells ({ frames := 1, cells := 1, slots := 9, locals := 24 } : Room).slots) := by
  refine MetFree.of_bodySF (plainFor_of_name pn_2) hisR ?_
  intro p e s m args below meth c s₁ Bd hml0 hP hK
  obtain ⟨rfl, hZ, hh⟩ := hP
  have hx := Bd.exec
  have hby := Bd.bytes
  have hml : c.maxLocals = 3 := hml0
  have hown : s.vm.findClass "com/example/thin_table/thintable/model/KeyOrder" = some m.cls := findClass_of_methodNamed Bd.named
  have hnm := (name_of_methodNamed Bd.named Bd.method).1
  have X0 : Stand p l e ({ frames := 1, cells := 1, slots := 9, locals := 24 } : Room) s m #[(.ref a1), (.ref a2)] below meth c s₁ [] 0 0 := Stand.of_body Bd
  have e0 : s₁.heap = h0 := by rw [← hh, Bd.state]; rfl
  have N0 := Fr.nil n0
  refine own_go (g' := (mkF m 0 #[.val (.ref a1), .val (.ref a2), .unset] [])) (fun t k => castTop (ef_2 m (a1) (a2)) k) ?_
  refine own_go (T' := s₁) (g' := (mkF m 3 #[.val (.ref a1), .val (.ref a2), .unset] [(.ref a2), (.int (8 : Int32))])) (fun t kt => ?_) ?_
  · show Steps p.tables e below (s₁.setTop (mkF m 0 #[.val (.ref a1), .val (.ref a2), .unset] [])) t
    refine XS.bipush X0.here hx rfl (hb hby d2_0) ?_
    show Steps p.tables e below (s₁.setTop (mkF m 2 #[.val (.ref a1), .val (.ref a2), .unset] [(.int (8 : Int32))])) t
    refine XS.aloadN X0.here hx rfl (hb hby d2_2) rfl rfl ?_
    exact kt
  have vq_1 := V2
  obtain ⟨c_1, a_1, -, s_1, m_1, -, -⟩ := vq_1
  refine own_go (T' := s₁) (g' := (mkF m 4 #[.val (.ref a1), .val (.ref a2), .unset] [(.int (1 : Int32)), (.int (8 : Int32))])) (fun t kt => ?_) ?_
  · refine X0.arraylength hx (by rw [e0]; exact a_1.1) (State.isArrayOf_alike hZ.alike a_1.2.1) (g := (mkF m 3 #[.val (.ref a1), .val (.ref a2), .unset] [(.ref a2), (.int (8 : Int32))])) rfl rfl (hb hby d2_3) _ ?_
    rw [len_of s_1 m_1]
    exact kt
  refine own_go (T' := s₁) (g' := (mkF m 5 #[.val (.ref a1), .val (.ref a2), .unset] [(.int (9 : Int32))])) (fun t kt => ?_) ?_
  · show Steps p.tables e below (s₁.setTop (mkF m 4 #[.val (.ref a1), .val (.ref a2), .unset] [(.int (1 : Int32)), (.int (8 : Int32))])) t
    refine XS.iadd X0.here hx rfl (hb hby d2_4) rfl ?_
    exact kt
  obtain ⟨T_2, h_2, k_2, X_2, e_2, E_2, A_2, B_2, st_2⟩ := newPE X0 hx hZ (hw _ (List.mem_of_getElem? (i := 0) rfl)) e0 (g := (mkF m 5 #[.val (.ref a1), .val (.ref a2), .unset] [(.int (9 : Int32))])) rfl (hb hby d2_5) rfl (by decide) (cap := 9) (by decide) (by decide) (by decide) (by decide) (ad := "[B") (by decide)
  obtain ⟨b_2, g_2⟩ : ∃ z, z = h0.size := ⟨_, rfl⟩
  rw [← g_2] at A_2 B_2 st_2
  have ne_a1_b_2 : a1 ≠ b_2 := Nat.ne_of_lt (Nat.lt_of_lt_of_le V1.lt (Nat.le_of_eq g_2.symm))
  have ne_a2_b_2 : a2 ≠ b_2 := Nat.ne_of_lt (Nat.lt_of_lt_of_le V2.lt (Nat.le_of_eq g_2.symm))
  have g_b_2 : n0 ≤ b_2 := Nat.le_trans Z0 (Nat.le_of_eq g_2.symm)
  have sz_b_2 : h0.size ≤ b_2 := Nat.le_trans (Keep.refl h0 []).1 (Nat.le_of_eq g_2.symm)
  have Z_2 : n0 ≤ h_2.size := Nat.le_trans Z0 E_2.1
  have kk_2 : Keep h0 h_2 [] := (Keep.refl h0 []).ext E_2
  have V_2 : Arv Z h_2 b_2 k_2 .byte (9 : Int32) [(.int (0 : Int32)), (.int (0 : Int32)), (.int (0 : Int32)), (.int (0 : Int32)), (.int (0 : Int32)), (.int (0 : Int32)), (.int (0 : Int32)), (.int (0 : Int32)), (.int (0 : Int32))] (.int (0 : Int32)) := (Arv.new A_2 (by decide)).pad (pad_rep [] (.int (0 : Int32)) 9)
  refine own_go (g' := (mkF m 7 #[.val (.ref a1), .val (.ref a2), .unset] [(.ref b_2)])) st_2 ?_
  refine own_go (T' := T_2) (g' := (mkF m 10 #[.val (.ref a1), .val (.ref a2), .val (.ref b_2)] [(.ref a1), (.ref a1)])) (fun t kt => ?_) ?_
  · show Steps p.tables e below (T_2.setTop (mkF m 7 #[.val (.ref a1), .val (.ref a2), .unset] [(.ref b_2)])) t
    refine XS.astoreN X_2.here hx rfl (hb hby d2_7) rfl rfl (l' := #[.val (.ref a1), .val (.ref a2), .val (.ref b_2)]) rfl ?_
    show Steps p.tables e below (T_2.setTop (mkF m 8 #[.val (.ref a1), .val (.ref a2), .val (.ref b_2)] [])) t
    refine XS.aloadN X_2.here hx rfl (hb hby d2_8) rfl rfl ?_
    show Steps p.tables e below (T_2.setTop (mkF m 9 #[.val (.ref a1), .val (.ref a2), .val (.ref b_2)] [(.ref a1)])) t
    refine XS.aloadN X_2.here hx rfl (hb hby d2_9) rfl rfl ?_
    exact kt
  have f_3 := (V1.ext E_2)
  have vq_4 := f_3
  obtain ⟨c_4, a_4, -, s_4, m_4, -, -⟩ := vq_4
  refine own_go (T' := T_2) (g' := (mkF m 11 #[.val (.ref a1), .val (.ref a2), .val (.ref b_2)] [(.int (11 : Int32)), (.ref a1)])) (fun t kt => ?_) ?_
  · refine X_2.arraylength hx (by rw [e_2]; exact a_4.1) (State.isArrayOf_alike hZ.alike a_4.2.1) (g := (mkF m 10 #[.val (.ref a1), .val (.ref a2), .val (.ref b_2)] [(.ref a1), (.ref a1)])) rfl rfl (hb hby d2_10) _ ?_
    rw [len_of s_4 m_4]
    exact kt
  refine own_go (T' := T_2) (g' := (mkF m 18 #[.val (.ref a1), .val (.ref a2), .val (.ref b_2)] [(.int (8 : Int32)), (.int (0 : Int32)), (.ref b_2), (.int (3 : Int32)), (.ref a1)])) (fun t kt => ?_) ?_
  · show Steps p.tables e below (T_2.setTop (mkF m 11 #[.val (.ref a1), .val (.ref a2), .val (.ref b_2)] [(.int (11 : Int32)), (.ref a1)])) t
    refine XS.bipush X_2.here hx rfl (hb hby d2_11) ?_
    show Steps p.tables e below (T_2.setTop (mkF m 13 #[.val (.ref a1), .val (.ref a2), .val (.ref b_2)] [(.int (8 : Int32)), (.int (11 : Int32)), (.ref a1)])) t
    refine XS.isub X_2.here hx rfl (hb hby d2_13) rfl ?_
    show Steps p.tables e below (T_2.setTop (mkF m 14 #[.val (.ref a1), .val (.ref a2), .val (.ref b_2)] [(.int (3 : Int32)), (.ref a1)])) t
    refine XS.aloadN X_2.here hx rfl (hb hby d2_14) rfl rfl ?_
    show Steps p.tables e below (T_2.setTop (mkF m 15 #[.val (.ref a1), .val (.ref a2), .val (.ref b_2)] [(.ref b_2), (.int (3 : Int32)), (.ref a1)])) t
    refine XS.iconst X_2.here hx rfl (hb hby d2_15) ?_
    show Steps p.tables e below (T_2.setTop (mkF m 16 #[.val (.ref a1), .val (.ref a2), .val (.ref b_2)] [(.int (0 : Int32)), (.ref b_2), (.int (3 : Int32)), (.ref a1)])) t
    refine XS.bipush X_2.here hx rfl (hb hby d2_16) ?_
    exact kt
  obtain ⟨T_5, h_5, L_5, X_5, e_5, N_5, K_5, V_5, st_5⟩ := cpA X_2 hx hZ hown (hw _ (List.mem_of_getElem? (i := 9) rfl)) (hw _ (List.mem_of_getElem? (i := 12) rfl)) (hw _ (List.mem_of_getElem? (i := 10) rfl)) (hw _ (List.mem_of_getElem? (i := 11) rfl)) e_2 (us := [(vk.getD 3 (.int (0 : Int32))), (vk.getD 4 (.int (0 : Int32))), (vk.getD 5 (.int (0 : Int32))), (vk.getD 6 (.int (0 : Int32))), (vk.getD 7 (.int (0 : Int32))), (vk.getD 8 (.int (0 : Int32))), (vk.getD 9 (.int (0 : Int32))), (vk.getD 10 (.int (0 : Int32)))]) f_3 V_2 (Or.inl ⟨rfl, rfl⟩) (sp := (3 : Int32)) (dp := (0 : Int32)) (nn := (8 : Int32)) (by decide) (by decide) (by decide) (Nat.le_of_ble_eq_true rfl) (Nat.le_of_ble_eq_true rfl) rfl (Nat.le_of_ble_eq_true rfl) N0 g_b_2 (g := (mkF m 18 #[.val (.ref a1), .val (.ref a2), .val (.ref b_2)] [(.int (8 : Int32)), (.int (0 : Int32)), (.ref b_2), (.int (3 : Int32)), (.ref a1)])) rfl (by rw [hml]; rfl) rfl (hb hby d2_18) (by decide) (W := 0) (by show 2 * 0 + _ ≤ _; exact Nat.le_of_eq rfl) (by decide)
  replace V_5 : Arv Z h_5 b_2 k_2 .byte (9 : Int32) [(vk.getD 3 (.int (0 : Int32))), (vk.getD 4 (.int (0 : Int32))), (vk.getD 5 (.int (0 : Int32))), (vk.getD 6 (.int (0 : Int32))), (vk.getD 7 (.int (0 : Int32))), (vk.getD 8 (.int (0 : Int32))), (vk.getD 9 (.int (0 : Int32))), (vk.getD 10 (.int (0 : Int32))), (.int (0 : Int32))] (.int (0 : Int32)) := V_5
  have Z_5 : n0 ≤ h_5.size := Nat.le_trans Z_2 K_5.1
  have kk_5 : Keep h0 h_5 [] := kk_2.trans K_5 (allS (Or.inr sz_b_2) all0)
  refine own_go (g' := (mkF m 21 #[.val (.ref a1), .val (.ref a2), .val (.ref b_2)] [])) st_5 ?_
  refine own_go (T' := T_5) (g' := (mkF m 27 #[.val (.ref a1), .val (.ref a2), .val (.ref b_2)] [(.ref a2), (.int (8 : Int32)), (.ref b_2), (.int (0 : Int32)), (.ref a2)])) (fun t kt => ?_) ?_
  · show Steps p.tables e below (T_5.setTop (mkF m 21 #[.val (.ref a1), .val (.ref a2), .val (.ref b_2)] [])) t
    refine XS.aloadN X_5.here hx rfl (hb hby d2_21) rfl rfl ?_
    show Steps p.tables e below (T_5.setTop (mkF m 22 #[.val (.ref a1), .val (.ref a2), .val (.ref b_2)] [(.ref a2)])) t
    refine XS.iconst X_5.here hx rfl (hb hby d2_22) ?_
    show Steps p.tables e below (T_5.setTop (mkF m 23 #[.val (.ref a1), .val (.ref a2), .val (.ref b_2)] [(.int (0 : Int32)), (.ref a2)])) t
    refine XS.aloadN X_5.here hx rfl (hb hby d2_23) rfl rfl ?_
    show Steps p.tables e below (T_5.setTop (mkF m 24 #[.val (.ref a1), .val (.ref a2), .val (.ref b_2)] [(.ref b_2), (.int (0 : Int32)), (.ref a2)])) t
    refine XS.bipush X_5.here hx rfl (hb hby d2_24) ?_
    show Steps p.tables e below (T_5.setTop (mkF m 26 #[.val (.ref a1), .val (.ref a2), .val (.ref b_2)] [(.int (8 : Int32)), (.ref b_2), (.int (0 : Int32)), (.ref a2)])) t
    refine XS.aloadN X_5.here hx rfl (hb hby d2_26) rfl rfl ?_
    exact kt
  have f_6 := ((V2.ext E_2).keep K_5 (ninS ne_a2_b_2 nin0))
  have vq_7 := f_6
  obtain ⟨c_7, a_7, -, s_7, m_7, -, -⟩ := vq_7
  refine own_go (T' := T_5) (g' := (mkF m 28 #[.val (.ref a1), .val (.ref a2), .val (.ref b_2)] [(.int (1 : Int32)), (.int (8 : Int32)), (.ref b_2), (.int (0 : Int32)), (.ref a2)])) (fun t kt => ?_) ?_
  · refine X_5.arraylength hx (by rw [e_5]; exact a_7.1) (State.isArrayOf_alike hZ.alike a_7.2.1) (g := (mkF m 27 #[.val (.ref a1), .val (.ref a2), .val (.ref b_2)] [(.ref a2), (.int (8 : Int32)), (.ref b_2), (.int (0 : Int32)), (.ref a2)])) rfl rfl (hb hby d2_27) _ ?_
    rw [len_of s_7 m_7]
    exact kt
  obtain ⟨T_8, h_8, L_8, X_8, e_8, N_8, K_8, V_8, st_8⟩ := cpA X_5 hx hZ hown (hw _ (List.mem_of_getElem? (i := 9) rfl)) (hw _ (List.mem_of_getElem? (i := 12) rfl)) (hw _ (List.mem_of_getElem? (i := 10) rfl)) (hw _ (List.mem_of_getElem? (i := 11) rfl)) e_5 (us := [(vv.getD 0 (.int (0 : Int32)))]) f_6 V_5 (Or.inl ⟨rfl, rfl⟩) (sp := (0 : Int32)) (dp := (8 : Int32)) (nn := (1 : Int32)) (by decide) (by decide) (by decide) (Nat.le_of_ble_eq_true rfl) (Nat.le_of_ble_eq_true rfl) rfl (Nat.le_of_ble_eq_true rfl) N_5 g_b_2 (g := (mkF m 28 #[.val (.ref a1), .val (.ref a2), .val (.ref b_2)] [(.int (1 : Int32)), (.int (8 : Int32)), (.ref b_2), (.int (0 : Int32)), (.ref a2)])) rfl (by rw [hml]; rfl) rfl (hb hby d2_28) (by decide) (W := 0) (by show 2 * 0 + _ ≤ _; exact Nat.le_of_eq rfl) (by decide)
  replace V_8 : Arv Z h_8 b_2 k_2 .byte (9 : Int32) [(vk.getD 3 (.int (0 : Int32))), (vk.getD 4 (.int (0 : Int32))), (vk.getD 5 (.int (0 : Int32))), (vk.getD 6 (.int (0 : Int32))), (vk.getD 7 (.int (0 : Int32))), (vk.getD 8 (.int (0 : Int32))), (vk.getD 9 (.int (0 : Int32))), (vk.getD 10 (.int (0 : Int32))), (vv.getD 0 (.int (0 : Int32)))] (.int (0 : Int32)) := V_8
  have Z_8 : n0 ≤ h_8.size := Nat.le_trans Z_5 K_8.1
  have kk_8 : Keep h0 h_8 [] := kk_5.trans K_8 (allS (Or.inr sz_b_2) all0)
  refine own_go (g' := (mkF m 31 #[.val (.ref a1), .val (.ref a2), .val (.ref b_2)] [])) st_8 ?_
  refine own_go (T' := T_8) (g' := (mkF m 32 #[.val (.ref a1), .val (.ref a2), .val (.ref b_2)] [(.ref b_2)])) (fun t kt => ?_) ?_
  · show Steps p.tables e below (T_8.setTop (mkF m 31 #[.val (.ref a1), .val (.ref a2), .val (.ref b_2)] [])) t
    refine XS.aloadN X_8.here hx rfl (hb hby d2_31) rfl rfl ?_
    exact kt
  obtain ⟨fs, hr, hrun, hended, hW, hsame⟩ := X_8.leave (v := some (.ref b_2)) (fun h => by rw [Bd.returns] at h; cases h)
  refine ⟨_, _, ?_, hrun, hended, _, _, rfl, ?_, ⟨_, rfl⟩, hW, hsame.mono (by decide) (by decide)⟩
  · show Steps p.tables e below (T_8.setTop (mkF m 32 #[.val (.ref a1), .val (.ref a2), .val (.ref b_2)] [(.ref b_2)])) _
    jvm_step X_8.here [X_8.here.top, hx, (hb hby d2_32), X_8.method', Bd.returns, Value.isRef, FieldType.isReference]
    first | (intro acts; rw [hr _ acts rfl rfl rfl]) | rw [hr _ _ rfl rfl rfl]
    exact Steps.refl _
  · show Q_rnew11_1 Z _ _ _ _ _ _ h0 n0 _ T_8.heap _
    rw [e_8]
    exact ⟨_, _, rfl, N_8, kk_8, sz_b_2, V_8⟩
def Q_rnew11_2 (Z : State) (a1 : Addr) (a2 : Addr) (kK : ClassId) (kV : ClassId) (vk : List Value) (vv : List Value) (h0 : Heap) (n0 : Nat) (v : Option Value) (h : Heap) (L : List Loc) : Prop := ∃ b kB, v = some (.ref b) ∧ Fr n0 L ∧ Keep h0 h [] ∧ h0.size ≤ b ∧ Arv Z h b kB .byte (10 : Int32) [(vk.getD 3 (.int (0 : Int32))), (vk.getD 4 (.int (0 : Int32))), (vk.getD 5 (.int (0 : Int32))), (vk.getD 6 (.int (0 : Int32))), (vk.getD 7 (.int (0 : Int32))), (vk.getD 8 (.int (0 : Int32))), (vk.getD 9 (.int (0 : Int32))), (vk.getD 10 (.int (0 : Int32))), (vv.getD 0 (.int (0 : Int32))), (vv.getD 1 (.int (0 : Int32)))] (.int (0 : Int32))
set_option maxRecDepth 65536 in
set_option maxHeartbeats 40000000 in
theorem rnew11_2 (l : Launch) (Z : State) (a0 : Array Value) (hw : ∀ d ∈ tables_1, d.before a0 Z = true) (ws : List Jvm.Cond) (a1 : Addr) (a2 : Addr) (kK : ClassId) (kV : ClassId) (vk : List Value) (vv : List Value) (h0 : Heap) (n0 : Nat) (Z0 : n0 ≤ h0.size) (V1 : Arv Z h0 a1 kK .byte (11 : Int32) vk (.int (0 : Int32))) (V2 : Arv Z h0 a2 kV .byte (2 : Int32) vv (.int (0 : Int32))) :
    MetFree l (⟨"com/example/thin_table/thintable/model/KeyOrder", "newestValue", "([B[B)[B"⟩ : MethodName) (head1 (Jvm.Cond.code (⟨"com/example/thin_table/thintable/model/KeyOrder", "newestValue", "([B[B)[B"⟩ : MethodName) prog_12_method_16_code 3 (some (.array .byte)) :: ws) ({ frames := 1, cells := 1, slots := 10, locals := 24 } : Room)) (fun a U => a = #[(.ref a1), (.ref a2)] ∧ Z.Warmed39 U.vm ∧ U.heap = h0) (fun _ _ _ _ _ => True) (fun _ U o U' => ∃ v L, o = .returned v ∧ Q_rnew11_2 Z a1 a2 kK kV vk vv h0 n0 v U'.heap L ∧ FrameEnd U o U' L ({ frames := 1, cells := 1, slots := 10, locals := 24 } : Room).cells ({ frames := 1, cells := 1, slots := 10, locals := 24 } : Room).slots) := by
  refine MetFree.of_bodySF (plainFor_of_name pn_2) hisR ?_
  intro p e s m args below meth c s₁ Bd hml0 hP hK
  obtain ⟨rfl, hZ, hh⟩ := hP
  have hx := Bd.exec
  have hby := Bd.bytes
  have hml : c.maxLocals = 3 := hml0
  have hown : s.vm.findClass "com/example/thin_table/thintable/model/KeyOrder" = some m.cls := findClass_of_methodNamed Bd.named
  have hnm := (name_of_methodNamed Bd.named Bd.method).1
  have X0 : Stand p l e ({ frames := 1, cells := 1, slots := 10, locals := 24 } : Room) s m #[(.ref a1), (.ref a2)] below meth c s₁ [] 0 0 := Stand.of_body Bd
  have e0 : s₁.heap = h0 := by rw [← hh, Bd.state]; rfl
  have N0 := Fr.nil n0
  refine own_go (g' := (mkF m 0 #[.val (.ref a1), .val (.ref a2), .unset] [])) (fun t k => castTop (ef_2 m (a1) (a2)) k) ?_
  refine own_go (T' := s₁) (g' := (mkF m 3 #[.val (.ref a1), .val (.ref a2), .unset] [(.ref a2), (.int (8 : Int32))])) (fun t kt => ?_) ?_
  · show Steps p.tables e below (s₁.setTop (mkF m 0 #[.val (.ref a1), .val (.ref a2), .unset] [])) t
    refine XS.bipush X0.here hx rfl (hb hby d2_0) ?_
    show Steps p.tables e below (s₁.setTop (mkF m 2 #[.val (.ref a1), .val (.ref a2), .unset] [(.int (8 : Int32))])) t
    refine XS.aloadN X0.here hx rfl (hb hby d2_2) rfl rfl ?_
    exact kt
  have vq_1 := V2
  obtain ⟨c_1, a_1, -, s_1, m_1, -, -⟩ := vq_1
  refine own_go (T' := s₁) (g' := (mkF m 4 #[.val (.ref a1), .val (.ref a2), .unset] [(.int (2 : Int32)), (.int (8 : Int32))])) (fun t kt => ?_) ?_
  · refine X0.arraylength hx (by rw [e0]; exact a_1.1) (State.isArrayOf_alike hZ.alike a_1.2.1) (g := (mkF m 3 #[.val (.ref a1), .val (.ref a2), .unset] [(.ref a2), (.int (8 : Int32))])) rfl rfl (hb hby d2_3) _ ?_
    rw [len_of s_1 m_1]
    exact kt
  refine own_go (T' := s₁) (g' := (mkF m 5 #[.val (.ref a1), .val (.ref a2), .unset] [(.int (10 : Int32))])) (fun t kt => ?_) ?_
  · show Steps p.tables e below (s₁.setTop (mkF m 4 #[.val (.ref a1), .val (.ref a2), .unset] [(.int (2 : Int32)), (.int (8 : Int32))])) t
    refine XS.iadd X0.here hx rfl (hb hby d2_4) rfl ?_
    exact kt
  obtain ⟨T_2, h_2, k_2, X_2, e_2, E_2, A_2, B_2, st_2⟩ := newPE X0 hx hZ (hw _ (List.mem_of_getElem? (i := 0) rfl)) e0 (g := (mkF m 5 #[.val (.ref a1), .val (.ref a2), .unset] [(.int (10 : Int32))])) rfl (hb hby d2_5) rfl (by decide) (cap := 10) (by decide) (by decide) (by decide) (by decide) (ad := "[B") (by decide)
  obtain ⟨b_2, g_2⟩ : ∃ z, z = h0.size := ⟨_, rfl⟩
  rw [← g_2] at A_2 B_2 st_2
  have ne_a1_b_2 : a1 ≠ b_2 := Nat.ne_of_lt (Nat.lt_of_lt_of_le V1.lt (Nat.le_of_eq g_2.symm))
  have ne_a2_b_2 : a2 ≠ b_2 := Nat.ne_of_lt (Nat.lt_of_lt_of_le V2.lt (Nat.le_of_eq g_2.symm))
  have g_b_2 : n0 ≤ b_2 := Nat.le_trans Z0 (Nat.le_of_eq g_2.symm)
  have sz_b_2 : h0.size ≤ b_2 := Nat.le_trans (Keep.refl h0 []).1 (Nat.le_of_eq g_2.symm)
  have Z_2 : n0 ≤ h_2.size := Nat.le_trans Z0 E_2.1
  have kk_2 : Keep h0 h_2 [] := (Keep.refl h0 []).ext E_2
  have V_2 : Arv Z h_2 b_2 k_2 .byte (10 : Int32) [(.int (0 : Int32)), (.int (0 : Int32)), (.int (0 : Int32)), (.int (0 : Int32)), (.int (0 : Int32)), (.int (0 : Int32)), (.int (0 : Int32)), (.int (0 : Int32)), (.int (0 : Int32)), (.int (0 : Int32))] (.int (0 : Int32)) := (Arv.new A_2 (by decide)).pad (pad_rep [] (.int (0 : Int32)) 10)
  refine own_go (g' := (mkF m 7 #[.val (.ref a1), .val (.ref a2), .unset] [(.ref b_2)])) st_2 ?_
  refine own_go (T' := T_2) (g' := (mkF m 10 #[.val (.ref a1), .val (.ref a2), .val (.ref b_2)] [(.ref a1), (.ref a1)])) (fun t kt => ?_) ?_
  · show Steps p.tables e below (T_2.setTop (mkF m 7 #[.val (.ref a1), .val (.ref a2), .unset] [(.ref b_2)])) t
    refine XS.astoreN X_2.here hx rfl (hb hby d2_7) rfl rfl (l' := #[.val (.ref a1), .val (.ref a2), .val (.ref b_2)]) rfl ?_
    show Steps p.tables e below (T_2.setTop (mkF m 8 #[.val (.ref a1), .val (.ref a2), .val (.ref b_2)] [])) t
    refine XS.aloadN X_2.here hx rfl (hb hby d2_8) rfl rfl ?_
    show Steps p.tables e below (T_2.setTop (mkF m 9 #[.val (.ref a1), .val (.ref a2), .val (.ref b_2)] [(.ref a1)])) t
    refine XS.aloadN X_2.here hx rfl (hb hby d2_9) rfl rfl ?_
    exact kt
  have f_3 := (V1.ext E_2)
  have vq_4 := f_3
  obtain ⟨c_4, a_4, -, s_4, m_4, -, -⟩ := vq_4
  refine own_go (T' := T_2) (g' := (mkF m 11 #[.val (.ref a1), .val (.ref a2), .val (.ref b_2)] [(.int (11 : Int32)), (.ref a1)])) (fun t kt => ?_) ?_
  · refine X_2.arraylength hx (by rw [e_2]; exact a_4.1) (State.isArrayOf_alike hZ.alike a_4.2.1) (g := (mkF m 10 #[.val (.ref a1), .val (.ref a2), .val (.ref b_2)] [(.ref a1), (.ref a1)])) rfl rfl (hb hby d2_10) _ ?_
    rw [len_of s_4 m_4]
    exact kt
  refine own_go (T' := T_2) (g' := (mkF m 18 #[.val (.ref a1), .val (.ref a2), .val (.ref b_2)] [(.int (8 : Int32)), (.int (0 : Int32)), (.ref b_2), (.int (3 : Int32)), (.ref a1)])) (fun t kt => ?_) ?_
  · show Steps p.tables e below (T_2.setTop (mkF m 11 #[.val (.ref a1), .val (.ref a2), .val (.ref b_2)] [(.int (11 : Int32)), (.ref a1)])) t
    refine XS.bipush X_2.here hx rfl (hb hby d2_11) ?_
    show Steps p.tables e below (T_2.setTop (mkF m 13 #[.val (.ref a1), .val (.ref a2), .val (.ref b_2)] [(.int (8 : Int32)), (.int (11 : Int32)), (.ref a1)])) t
    refine XS.isub X_2.here hx rfl (hb hby d2_13) rfl ?_
    show Steps p.tables e below (T_2.setTop (mkF m 14 #[.val (.ref a1), .val (.ref a2), .val (.ref b_2)] [(.int (3 : Int32)), (.ref a1)])) t
    refine XS.aloadN X_2.here hx rfl (hb hby d2_14) rfl rfl ?_
    show Steps p.tables e below (T_2.setTop (mkF m 15 #[.val (.ref a1), .val (.ref a2), .val (.ref b_2)] [(.ref b_2), (.int (3 : Int32)), (.ref a1)])) t
    refine XS.iconst X_2.here hx rfl (hb hby d2_15) ?_
    show Steps p.tables e below (T_2.setTop (mkF m 16 #[.val (.ref a1), .val (.ref a2), .val (.ref b_2)] [(.int (0 : Int32)), (.ref b_2), (.int (3 : Int32)), (.ref a1)])) t
    refine XS.bipush X_2.here hx rfl (hb hby d2_16) ?_
    exact kt
  obtain ⟨T_5, h_5, L_5, X_5, e_5, N_5, K_5, V_5, st_5⟩ := cpA X_2 hx hZ hown (hw _ (List.mem_of_getElem? (i := 9) rfl)) (hw _ (List.mem_of_getElem? (i := 12) rfl)) (hw _ (List.mem_of_getElem? (i := 10) rfl)) (hw _ (List.mem_of_getElem? (i := 11) rfl)) e_2 (us := [(vk.getD 3 (.int (0 : Int32))), (vk.getD 4 (.int (0 : Int32))), (vk.getD 5 (.int (0 : Int32))), (vk.getD 6 (.int (0 : Int32))), (vk.getD 7 (.int (0 : Int32))), (vk.getD 8 (.int (0 : Int32))), (vk.getD 9 (.int (0 : Int32))), (vk.getD 10 (.int (0 : Int32)))]) f_3 V_2 (Or.inl ⟨rfl, rfl⟩) (sp := (3 : Int32)) (dp := (0 : Int32)) (nn := (8 : Int32)) (by decide) (by decide) (by decide) (Nat.le_of_ble_eq_true rfl) (Nat.le_of_ble_eq_true rfl) rfl (Nat.le_of_ble_eq_true rfl) N0 g_b_2 (g := (mkF m 18 #[.val (.ref a1), .val (.ref a2), .val (.ref b_2)] [(.int (8 : Int32)), (.int (0 : Int32)), (.ref b_2), (.int (3 : Int32)), (.ref a1)])) rfl (by rw [hml]; rfl) rfl (hb hby d2_18) (by decide) (W := 0) (by show 2 * 0 + _ ≤ _; exact Nat.le_of_eq rfl) (by decide)
  replace V_5 : Arv Z h_5 b_2 k_2 .byte (10 : Int32) [(vk.getD 3 (.int (0 : Int32))), (vk.getD 4 (.int (0 : Int32))), (vk.getD 5 (.int (0 : Int32))), (vk.getD 6 (.int (0 : Int32))), (vk.getD 7 (.int (0 : Int32))), (vk.getD 8 (.int (0 : Int32))), (vk.getD 9 (.int (0 : Int32))), (vk.getD 10 (.int (0 : Int32))), (.int (0 : Int32)), (.int (0 : Int32))] (.int (0 : Int32)) := V_5
  have Z_5 : n0 ≤ h_5.size := Nat.le_trans Z_2 K_5.1
  have kk_5 : Keep h0 h_5 [] := kk_2.trans K_5 (allS (Or.inr sz_b_2) all0)
  refine own_go (g' := (mkF m 21 #[.val (.ref a1), .val (.ref a2), .val (.ref b_2)] [])) st_5 ?_
  refine own_go (T' := T_5) (g' := (mkF m 27 #[.val (.ref a1), .val (.ref a2), .val (.ref b_2)] [(.ref a2), (.int (8 : Int32)), (.ref b_2), (.int (0 : Int32)), (.ref a2)])) (fun t kt => ?_) ?_
  · show Steps p.tables e below (T_5.setTop (mkF m 21 #[.val (.ref a1), .val (.ref a2), .val (.ref b_2)] [])) t
    refine XS.aloadN X_5.here hx rfl (hb hby d2_21) rfl rfl ?_
    show Steps p.tables e below (T_5.setTop (mkF m 22 #[.val (.ref a1), .val (.ref a2), .val (.ref b_2)] [(.ref a2)])) t
    refine XS.iconst X_5.here hx rfl (hb hby d2_22) ?_
    show Steps p.tables e below (T_5.setTop (mkF m 23 #[.val (.ref a1), .val (.ref a2), .val (.ref b_2)] [(.int (0 : Int32)), (.ref a2)])) t
    refine XS.aloadN X_5.here hx rfl (hb hby d2_23) rfl rfl ?_
    show Steps p.tables e below (T_5.setTop (mkF m 24 #[.val (.ref a1), .val (.ref a2), .val (.ref b_2)] [(.ref b_2), (.int (0 : Int32)), (.ref a2)])) t
    refine XS.bipush X_5.here hx rfl (hb hby d2_24) ?_
    show Steps p.tables e below (T_5.setTop (mkF m 26 #[.val (.ref a1), .val (.ref a2), .val (.ref b_2)] [(.int (8 : Int32)), (.ref b_2), (.int (0 : Int32)), (.ref a2)])) t
    refine XS.aloadN X_5.here hx rfl (hb hby d2_26) rfl rfl ?_
    exact kt
  have f_6 := ((V2.ext E_2).keep K_5 (ninS ne_a2_b_2 nin0))
  have vq_7 := f_6
  obtain ⟨c_7, a_7, -, s_7, m_7, -, -⟩ := vq_7
  refine own_go (T' := T_5) (g' := (mkF m 28 #[.val (.ref a1), .val (.ref a2), .val (.ref b_2)] [(.int (2 : Int32)), (.int (8 : Int32)), (.ref b_2), (.int (0 : Int32)), (.ref a2)])) (fun t kt => ?_) ?_
  · refine X_5.arraylength hx (by rw [e_5]; exact a_7.1) (State.isArrayOf_alike hZ.alike a_7.2.1) (g := (mkF m 27 #[.val (.ref a1), .val (.ref a2), .val (.ref b_2)] [(.ref a2), (.int (8 : Int32)), (.ref b_2), (.int (0 : Int32)), (.ref a2)])) rfl rfl (hb hby d2_27) _ ?_
    rw [len_of s_7 m_7]
    exact kt
  obtain ⟨T_8, h_8, L_8, X_8, e_8, N_8, K_8, V_8, st_8⟩ := cpA X_5 hx hZ hown (hw _ (List.mem_of_getElem? (i := 9) rfl)) (hw _ (List.mem_of_getElem? (i := 12) rfl)) (hw _ (List.mem_of_getElem? (i := 10) rfl)) (hw _ (List.mem_of_getElem? (i := 11) rfl)) e_5 (us := [(vv.getD 0 (.int (0 : Int32))), (vv.getD 1 (.int (0 : Int32)))]) f_6 V_5 (Or.inl ⟨rfl, rfl⟩) (sp := (0 : Int32)) (dp := (8 : Int32)) (nn := (2 : Int32)) (by decide) (by decide) (by decide) (Nat.le_of_ble_eq_true rfl) (Nat.le_of_ble_eq_true rfl) rfl (Nat.le_of_ble_eq_true rfl) N_5 g_b_2 (g := (mkF m 28 #[.val (.ref a1), .val (.ref a2), .val (.ref b_2)] [(.int (2 : Int32)), (.int (8 : Int32)), (.ref b_2), (.int (0 : Int32)), (.ref a2)])) rfl (by rw [hml]; rfl) rfl (hb hby d2_28) (by decide) (W := 0) (by show 2 * 0 + _ ≤ _; exact Nat.le_of_eq rfl) (by decide)
  replace V_8 : Arv Z h_8 b_2 k_2 .byte (10 : Int32) [(vk.getD 3 (.int (0 : Int32))), (vk.getD 4 (.int (0 : Int32))), (vk.getD 5 (.int (0 : Int32))), (vk.getD 6 (.int (0 : Int32))), (vk.getD 7 (.int (0 : Int32))), (vk.getD 8 (.int (0 : Int32))), (vk.getD 9 (.int (0 : Int32))), (vk.getD 10 (.int (0 : Int32))), (vv.getD 0 (.int (0 : Int32))), (vv.getD 1 (.int (0 : Int32)))] (.int (0 : Int32)) := V_8
  have Z_8 : n0 ≤ h_8.size := Nat.le_trans Z_5 K_8.1
  have kk_8 : Keep h0 h_8 [] := kk_5.trans K_8 (allS (Or.inr sz_b_2) all0)
  refine own_go (g' := (mkF m 31 #[.val (.ref a1), .val (.ref a2), .val (.ref b_2)] [])) st_8 ?_
  refine own_go (T' := T_8) (g' := (mkF m 32 #[.val (.ref a1), .val (.ref a2), .val (.ref b_2)] [(.ref b_2)])) (fun t kt => ?_) ?_
  · show Steps p.tables e below (T_8.setTop (mkF m 31 #[.val (.ref a1), .val (.ref a2), .val (.ref b_2)] [])) t
    refine XS.aloadN X_8.here hx rfl (hb hby d2_31) rfl rfl ?_
    exact kt
  obtain ⟨fs, hr, hrun, hended, hW, hsame⟩ := X_8.leave (v := some (.ref b_2)) (fun h => by rw [Bd.returns] at h; cases h)
  refine ⟨_, _, ?_, hrun, hended, _, _, rfl, ?_, ⟨_, rfl⟩, hW, hsame.mono (by decide) (by decide)⟩
  · show Steps p.tables e below (T_8.setTop (mkF m 32 #[.val (.ref a1), .val (.ref a2), .val (.ref b_2)] [(.ref b_2)])) _
    jvm_step X_8.here [X_8.here.top, hx, (hb hby d2_32), X_8.method', Bd.returns, Value.isRef, FieldType.isReference]
    first | (intro acts; rw [hr _ acts rfl rfl rfl]) | rw [hr _ _ rfl rfl rfl]
    exact Steps.refl _
  · show Q_rnew11_2 Z _ _ _ _ _ _ h0 n0 _ T_8.heap _
    rw [e_8]
    exact ⟨_, _, rfl, N_8, kk_8, sz_b_2, V_8⟩
def Q_rnew11_3 (Z : State) (a1 : Addr) (a2 : Addr) (kK : ClassId) (kV : ClassId) (vk : List Value) (vv : List Value) (h0 : Heap) (n0 : Nat) (v : Option Value) (h : Heap) (L : List Loc) : Prop := ∃ b kB, v = some (.ref b) ∧ Fr n0 L ∧ Keep h0 h [] ∧ h0.size ≤ b ∧ Arv Z h b kB .byte (11 : Int32) [(vk.getD 3 (.int (0 : Int32))), (vk.getD 4 (.int (0 : Int32))), (vk.getD 5 (.int (0 : Int32))), (vk.getD 6 (.int (0 : Int32))), (vk.getD 7 (.int (0 : Int32))), (vk.getD 8 (.int (0 : Int32))), (vk.getD 9 (.int (0 : Int32))), (vk.getD 10 (.int (0 : Int32))), (vv.getD 0 (.int (0 : Int32))), (vv.getD 1 (.int (0 : Int32))), (vv.getD 2 (.int (0 : Int32)))] (.int (0 : Int32))
set_option maxRecDepth 65536 in
set_option maxHeartbeats 40000000 in
theorem rnew11_3 (l : Launch) (Z : State) (a0 : Array Value) (hw : ∀ d ∈ tables_1, d.before a0 Z = true) (ws : List Jvm.Cond) (a1 : Addr) (a2 : Addr) (kK : ClassId) (kV : ClassId) (vk : List Value) (vv : List Value) (h0 : Heap) (n0 : Nat) (Z0 : n0 ≤ h0.size) (V1 : Arv Z h0 a1 kK .byte (11 : Int32) vk (.int (0 : Int32))) (V2 : Arv Z h0 a2 kV .byte (3 : Int32) vv (.int (0 : Int32))) :
    MetFree l (⟨"com/example/thin_table/thintable/model/KeyOrder", "newestValue", "([B[B)[B"⟩ : MethodName) (head1 (Jvm.Cond.code (⟨"com/example/thin_table/thintable/model/KeyOrder", "newestValue", "([B[B)[B"⟩ : MethodName) prog_12_method_16_code 3 (some (.array .byte)) :: ws) ({ frames := 1, cells := 1, slots := 11, locals := 24 } : Room)) (fun a U => a = #[(.ref a1), (.ref a2)] ∧ Z.Warmed39 U.vm ∧ U.heap = h0) (fun _ _ _ _ _ => True) (fun _ U o U' => ∃ v L, o = .returned v ∧ Q_rnew11_3 Z a1 a2 kK kV vk vv h0 n0 v U'.heap L ∧ FrameEnd U o U' L ({ frames := 1, cells := 1, slots := 11, locals := 24 } : Room).cells ({ frames := 1, cells := 1, slots := 11, locals := 24 } : Room).slots) := by
  refine MetFree.of_bodySF (plainFor_of_name pn_2) hisR ?_
  intro p e s m args below meth c s₁ Bd hml0 hP hK
  obtain ⟨rfl, hZ, hh⟩ := hP
  have hx := Bd.exec
  have hby := Bd.bytes
  have hml : c.maxLocals = 3 := hml0
  have hown : s.vm.findClass "com/example/thin_table/thintable/model/KeyOrder" = some m.cls := findClass_of_methodNamed Bd.named
  have hnm := (name_of_methodNamed Bd.named Bd.method).1
  have X0 : Stand p l e ({ frames := 1, cells := 1, slots := 11, locals := 24 } : Room) s m #[(.ref a1), (.ref a2)] below meth c s₁ [] 0 0 := Stand.of_body Bd
  have e0 : s₁.heap = h0 := by rw [← hh, Bd.state]; rfl
  have N0 := Fr.nil n0
  refine own_go (g' := (mkF m 0 #[.val (.ref a1), .val (.ref a2), .unset] [])) (fun t k => castTop (ef_2 m (a1) (a2)) k) ?_
  refine own_go (T' := s₁) (g' := (mkF m 3 #[.val (.ref a1), .val (.ref a2), .unset] [(.ref a2), (.int (8 : Int32))])) (fun t kt => ?_) ?_
  · show Steps p.tables e below (s₁.setTop (mkF m 0 #[.val (.ref a1), .val (.ref a2), .unset] [])) t
    refine XS.bipush X0.here hx rfl (hb hby d2_0) ?_
    show Steps p.tables e below (s₁.setTop (mkF m 2 #[.val (.ref a1), .val (.ref a2), .unset] [(.int (8 : Int32))])) t
    refine XS.aloadN X0.here hx rfl (hb hby d2_2) rfl rfl ?_
    exact kt
  have vq_1 := V2
  obtain ⟨c_1, a_1, -, s_1, m_1, -, -⟩ := vq_1
  refine own_go (T' := s₁) (g' := (mkF m 4 #[.val (.ref a1), .val (.ref a2), .unset] [(.int (3 : Int32)), (.int (8 : Int32))])) (fun t kt => ?_) ?_
  · refine X0.arraylength hx (by rw [e0]; exact a_1.1) (State.isArrayOf_alike hZ.alike a_1.2.1) (g := (mkF m 3 #[.val (.ref a1), .val (.ref a2), .unset] [(.ref a2), (.int (8 : Int32))])) rfl rfl (hb hby d2_3) _ ?_
    rw [len_of s_1 m_1]
    exact kt
  refine own_go (T' := s₁) (g' := (mkF m 5 #[.val (.ref a1), .val (.ref a2), .unset] [(.int (11 : Int32))])) (fun t kt => ?_) ?_
  · show Steps p.tables e below (s₁.setTop (mkF m 4 #[.val (.ref a1), .val (.ref a2), .unset] [(.int (3 : Int32)), (.int (8 : Int32))])) t
    refine XS.iadd X0.here hx rfl (hb hby d2_4) rfl ?_
    exact kt
  obtain ⟨T_2, h_2, k_2, X_2, e_2, E_2, A_2, B_2, st_2⟩ := newPE X0 hx hZ (hw _ (List.mem_of_getElem? (i := 0) rfl)) e0 (g := (mkF m 5 #[.val (.ref a1), .val (.ref a2), .unset] [(.int (11 : Int32))])) rfl (hb hby d2_5) rfl (by decide) (cap := 11) (by decide) (by decide) (by decide) (by decide) (ad := "[B") (by decide)
  obtain ⟨b_2, g_2⟩ : ∃ z, z = h0.size := ⟨_, rfl⟩
  rw [← g_2] at A_2 B_2 st_2
  have ne_a1_b_2 : a1 ≠ b_2 := Nat.ne_of_lt (Nat.lt_of_lt_of_le V1.lt (Nat.le_of_eq g_2.symm))
  have ne_a2_b_2 : a2 ≠ b_2 := Nat.ne_of_lt (Nat.lt_of_lt_of_le V2.lt (Nat.le_of_eq g_2.symm))
  have g_b_2 : n0 ≤ b_2 := Nat.le_trans Z0 (Nat.le_of_eq g_2.symm)
  have sz_b_2 : h0.size ≤ b_2 := Nat.le_trans (Keep.refl h0 []).1 (Nat.le_of_eq g_2.symm)
  have Z_2 : n0 ≤ h_2.size := Nat.le_trans Z0 E_2.1
  have kk_2 : Keep h0 h_2 [] := (Keep.refl h0 []).ext E_2
  have V_2 : Arv Z h_2 b_2 k_2 .byte (11 : Int32) [(.int (0 : Int32)), (.int (0 : Int32)), (.int (0 : Int32)), (.int (0 : Int32)), (.int (0 : Int32)), (.int (0 : Int32)), (.int (0 : Int32)), (.int (0 : Int32)), (.int (0 : Int32)), (.int (0 : Int32)), (.int (0 : Int32))] (.int (0 : Int32)) := (Arv.new A_2 (by decide)).pad (pad_rep [] (.int (0 : Int32)) 11)
  refine own_go (g' := (mkF m 7 #[.val (.ref a1), .val (.ref a2), .unset] [(.ref b_2)])) st_2 ?_
  refine own_go (T' := T_2) (g' := (mkF m 10 #[.val (.ref a1), .val (.ref a2), .val (.ref b_2)] [(.ref a1), (.ref a1)])) (fun t kt => ?_) ?_
  · show Steps p.tables e below (T_2.setTop (mkF m 7 #[.val (.ref a1), .val (.ref a2), .unset] [(.ref b_2)])) t
    refine XS.astoreN X_2.here hx rfl (hb hby d2_7) rfl rfl (l' := #[.val (.ref a1), .val (.ref a2), .val (.ref b_2)]) rfl ?_
    show Steps p.tables e below (T_2.setTop (mkF m 8 #[.val (.ref a1), .val (.ref a2), .val (.ref b_2)] [])) t
    refine XS.aloadN X_2.here hx rfl (hb hby d2_8) rfl rfl ?_
    show Steps p.tables e below (T_2.setTop (mkF m 9 #[.val (.ref a1), .val (.ref a2), .val (.ref b_2)] [(.ref a1)])) t
    refine XS.aloadN X_2.here hx rfl (hb hby d2_9) rfl rfl ?_
    exact kt
  have f_3 := (V1.ext E_2)
  have vq_4 := f_3
  obtain ⟨c_4, a_4, -, s_4, m_4, -, -⟩ := vq_4
  refine own_go (T' := T_2) (g' := (mkF m 11 #[.val (.ref a1), .val (.ref a2), .val (.ref b_2)] [(.int (11 : Int32)), (.ref a1)])) (fun t kt => ?_) ?_
  · refine X_2.arraylength hx (by rw [e_2]; exact a_4.1) (State.isArrayOf_alike hZ.alike a_4.2.1) (g := (mkF m 10 #[.val (.ref a1), .val (.ref a2), .val (.ref b_2)] [(.ref a1), (.ref a1)])) rfl rfl (hb hby d2_10) _ ?_
    rw [len_of s_4 m_4]
    exact kt
  refine own_go (T' := T_2) (g' := (mkF m 18 #[.val (.ref a1), .val (.ref a2), .val (.ref b_2)] [(.int (8 : Int32)), (.int (0 : Int32)), (.ref b_2), (.int (3 : Int32)), (.ref a1)])) (fun t kt => ?_) ?_
  · show Steps p.tables e below (T_2.setTop (mkF m 11 #[.val (.ref a1), .val (.ref a2), .val (.ref b_2)] [(.int (11 : Int32)), (.ref a1)])) t
    refine XS.bipush X_2.here hx rfl (hb hby d2_11) ?_
    show Steps p.tables e below (T_2.setTop (mkF m 13 #[.val (.ref a1), .val (.ref a2), .val (.ref b_2)] [(.int (8 : Int32)), (.int (11 : Int32)), (.ref a1)])) t
    refine XS.isub X_2.here hx rfl (hb hby d2_13) rfl ?_
    show Steps p.tables e below (T_2.setTop (mkF m 14 #[.val (.ref a1), .val (.ref a2), .val (.ref b_2)] [(.int (3 : Int32)), (.ref a1)])) t
    refine XS.aloadN X_2.here hx rfl (hb hby d2_14) rfl rfl ?_
    show Steps p.tables e below (T_2.setTop (mkF m 15 #[.val (.ref a1), .val (.ref a2), .val (.ref b_2)] [(.ref b_2), (.int (3 : Int32)), (.ref a1)])) t
    refine XS.iconst X_2.here hx rfl (hb hby d2_15) ?_
    show Steps p.tables e below (T_2.setTop (mkF m 16 #[.val (.ref a1), .val (.ref a2), .val (.ref b_2)] [(.int (0 : Int32)), (.ref b_2), (.int (3 : Int32)), (.ref a1)])) t
    refine XS.bipush X_2.here hx rfl (hb hby d2_16) ?_
    exact kt
  obtain ⟨T_5, h_5, L_5, X_5, e_5, N_5, K_5, V_5, st_5⟩ := cpA X_2 hx hZ hown (hw _ (List.mem_of_getElem? (i := 9) rfl)) (hw _ (List.mem_of_getElem? (i := 12) rfl)) (hw _ (List.mem_of_getElem? (i := 10) rfl)) (hw _ (List.mem_of_getElem? (i := 11) rfl)) e_2 (us := [(vk.getD 3 (.int (0 : Int32))), (vk.getD 4 (.int (0 : Int32))), (vk.getD 5 (.int (0 : Int32))), (vk.getD 6 (.int (0 : Int32))), (vk.getD 7 (.int (0 : Int32))), (vk.getD 8 (.int (0 : Int32))), (vk.getD 9 (.int (0 : Int32))), (vk.getD 10 (.int (0 : Int32)))]) f_3 V_2 (Or.inl ⟨rfl, rfl⟩) (sp := (3 : Int32)) (dp := (0 : Int32)) (nn := (8 : Int32)) (by decide) (by decide) (by decide) (Nat.le_of_ble_eq_true rfl) (Nat.le_of_ble_eq_true rfl) rfl (Nat.le_of_ble_eq_true rfl) N0 g_b_2 (g := (mkF m 18 #[.val (.ref a1), .val (.ref a2), .val (.ref b_2)] [(.int (8 : Int32)), (.int (0 : Int32)), (.ref b_2), (.int (3 : Int32)), (.ref a1)])) rfl (by rw [hml]; rfl) rfl (hb hby d2_18) (by decide) (W := 0) (by show 2 * 0 + _ ≤ _; exact Nat.le_of_eq rfl) (by decide)
  replace V_5 : Arv Z h_5 b_2 k_2 .byte (11 : Int32) [(vk.getD 3 (.int (0 : Int32))), (vk.getD 4 (.int (0 : Int32))), (vk.getD 5 (.int (0 : Int32))), (vk.getD 6 (.int (0 : Int32))), (vk.getD 7 (.int (0 : Int32))), (vk.getD 8 (.int (0 : Int32))), (vk.getD 9 (.int (0 : Int32))), (vk.getD 10 (.int (0 : Int32))), (.int (0 : Int32)), (.int (0 : Int32)), (.int (0 : Int32))] (.int (0 : Int32)) := V_5
  have Z_5 : n0 ≤ h_5.size := Nat.le_trans Z_2 K_5.1
  have kk_5 : Keep h0 h_5 [] := kk_2.trans K_5 (allS (Or.inr sz_b_2) all0)
  refine own_go (g' := (mkF m 21 #[.val (.ref a1), .val (.ref a2), .val (.ref b_2)] [])) st_5 ?_
  refine own_go (T' := T_5) (g' := (mkF m 27 #[.val (.ref a1), .val (.ref a2), .val (.ref b_2)] [(.ref a2), (.int (8 : Int32)), (.ref b_2), (.int (0 : Int32)), (.ref a2)])) (fun t kt => ?_) ?_
  · show Steps p.tables e below (T_5.setTop (mkF m 21 #[.val (.ref a1), .val (.ref a2), .val (.ref b_2)] [])) t
    refine XS.aloadN X_5.here hx rfl (hb hby d2_21) rfl rfl ?_
    show Steps p.tables e below (T_5.setTop (mkF m 22 #[.val (.ref a1), .val (.ref a2), .val (.ref b_2)] [(.ref a2)])) t
    refine XS.iconst X_5.here hx rfl (hb hby d2_22) ?_
    show Steps p.tables e below (T_5.setTop (mkF m 23 #[.val (.ref a1), .val (.ref a2), .val (.ref b_2)] [(.int (0 : Int32)), (.ref a2)])) t
    refine XS.aloadN X_5.here hx rfl (hb hby d2_23) rfl rfl ?_
    show Steps p.tables e below (T_5.setTop (mkF m 24 #[.val (.ref a1), .val (.ref a2), .val (.ref b_2)] [(.ref b_2), (.int (0 : Int32)), (.ref a2)])) t
    refine XS.bipush X_5.here hx rfl (hb hby d2_24) ?_
    show Steps p.tables e below (T_5.setTop (mkF m 26 #[.val (.ref a1), .val (.ref a2), .val (.ref b_2)] [(.int (8 : Int32)), (.ref b_2), (.int (0 : Int32)), (.ref a2)])) t
    refine XS.aloadN X_5.here hx rfl (hb hby d2_26) rfl rfl ?_
    exact kt
  have f_6 := ((V2.ext E_2).keep K_5 (ninS ne_a2_b_2 nin0))
  have vq_7 := f_6
  obtain ⟨c_7, a_7, -, s_7, m_7, -, -⟩ := vq_7
  refine own_go (T' := T_5) (g' := (mkF m 28 #[.val (.ref a1), .val (.ref a2), .val (.ref b_2)] [(.int (3 : Int32)), (.int (8 : Int32)), (.ref b_2), (.int (0 : Int32)), (.ref a2)])) (fun t kt => ?_) ?_
  · refine X_5.arraylength hx (by rw [e_5]; exact a_7.1) (State.isArrayOf_alike hZ.alike a_7.2.1) (g := (mkF m 27 #[.val (.ref a1), .val (.ref a2), .val (.ref b_2)] [(.ref a2), (.int (8 : Int32)), (.ref b_2), (.int (0 : Int32)), (.ref a2)])) rfl rfl (hb hby d2_27) _ ?_
    rw [len_of s_7 m_7]
    exact kt
  obtain ⟨T_8, h_8, L_8, X_8, e_8, N_8, K_8, V_8, st_8⟩ := cpA X_5 hx hZ hown (hw _ (List.mem_of_getElem? (i := 9) rfl)) (hw _ (List.mem_of_getElem? (i := 12) rfl)) (hw _ (List.mem_of_getElem? (i := 10) rfl)) (hw _ (List.mem_of_getElem? (i := 11) rfl)) e_5 (us := [(vv.getD 0 (.int (0 : Int32))), (vv.getD 1 (.int (0 : Int32))), (vv.getD 2 (.int (0 : Int32)))]) f_6 V_5 (Or.inl ⟨rfl, rfl⟩) (sp := (0 : Int32)) (dp := (8 : Int32)) (nn := (3 : Int32)) (by decide) (by decide) (by decide) (Nat.le_of_ble_eq_true rfl) (Nat.le_of_ble_eq_true rfl) rfl (Nat.le_of_ble_eq_true rfl) N_5 g_b_2 (g := (mkF m 28 #[.val (.ref a1), .val (.ref a2), .val (.ref b_2)] [(.int (3 : Int32)), (.int (8 : Int32)), (.ref b_2), (.int (0 : Int32)), (.ref a2)])) rfl (by rw [hml]; rfl) rfl (hb hby d2_28) (by decide) (W := 0) (by show 2 * 0 + _ ≤ _; exact Nat.le_of_eq rfl) (by decide)
  replace V_8 : Arv Z h_8 b_2 k_2 .byte (11 : Int32) [(vk.getD 3 (.int (0 : Int32))), (vk.getD 4 (.int (0 : Int32))), (vk.getD 5 (.int (0 : Int32))), (vk.getD 6 (.int (0 : Int32))), (vk.getD 7 (.int (0 : Int32))), (vk.getD 8 (.int (0 : Int32))), (vk.getD 9 (.int (0 : Int32))), (vk.getD 10 (.int (0 : Int32))), (vv.getD 0 (.int (0 : Int32))), (vv.getD 1 (.int (0 : Int32))), (vv.getD 2 (.int (0 : Int32)))] (.int (0 : Int32)) := V_8
  have Z_8 : n0 ≤ h_8.size := Nat.le_trans Z_5 K_8.1
  have kk_8 : Keep h0 h_8 [] := kk_5.trans K_8 (allS (Or.inr sz_b_2) all0)
  refine own_go (g' := (mkF m 31 #[.val (.ref a1), .val (.ref a2), .val (.ref b_2)] [])) st_8 ?_
  refine own_go (T' := T_8) (g' := (mkF m 32 #[.val (.ref a1), .val (.ref a2), .val (.ref b_2)] [(.ref b_2)])) (fun t kt => ?_) ?_
  · show Steps p.tables e below (T_8.setTop (mkF m 31 #[.val (.ref a1), .val (.ref a2), .val (.ref b_2)] [])) t
    refine XS.aloadN X_8.here hx rfl (hb hby d2_31) rfl rfl ?_
    exact kt
  obtain ⟨fs, hr, hrun, hended, hW, hsame⟩ := X_8.leave (v := some (.ref b_2)) (fun h => by rw [Bd.returns] at h; cases h)
  refine ⟨_, _, ?_, hrun, hended, _, _, rfl, ?_, ⟨_, rfl⟩, hW, hsame.mono (by decide) (by decide)⟩
  · show Steps p.tables e below (T_8.setTop (mkF m 32 #[.val (.ref a1), .val (.ref a2), .val (.ref b_2)] [(.ref b_2)])) _
    jvm_step X_8.here [X_8.here.top, hx, (hb hby d2_32), X_8.method', Bd.returns, Value.isRef, FieldType.isReference]
    first | (intro acts; rw [hr _ acts rfl rfl rfl]) | rw [hr _ _ rfl rfl rfl]
    exact Steps.refl _
  · show Q_rnew11_3 Z _ _ _ _ _ _ h0 n0 _ T_8.heap _
    rw [e_8]
    exact ⟨_, _, rfl, N_8, kk_8, sz_b_2, V_8⟩
theorem pn_3 : plainName "com/example/thin_table/thintable/model/KeyOrderNewestValuePinLaw" = true := by first | (simp [plainName, overriddenIn]; done) | decide +kernel
theorem ef_3 (m : MethodId) (x0 : Addr) (x1 : Int64) : entryFrame m #[(.ref x0), (.long x1)] 3 = mkF m 0 #[.val (.ref x0), .val (.long x1), .second] [] := by first | (simp [entryFrame, mkF, argsToLocals, Value.category]; done) | rfl
def Q_rhead0 (Z : State) (a1 : Addr) (q2 : Int64) (p3 : Int32) (kB : ClassId) (h0 : Heap) (n0 : Nat) (v : Option Value) (h : Heap) (L : List Loc) : Prop := v = some (.int (1 : Int32)) ∧ Fr n0 L ∧ h = h0
theorem d3_0 : decode method_4_code 0 = .ok (.aload_n 0, 1) := by decide +kernel
theorem d3_1 : decode method_4_code 1 = .ok (.iconst 0, 1) := by decide +kernel
theorem d3_2 : decode method_4_code 2 = .ok (.baload, 1) := by decide +kernel
theorem d3_3 : decode method_4_code 3 = .ok (.lload_n 1, 1) := by decide +kernel
theorem d3_4 : decode method_4_code 4 = .ok (.bipush 56, 2) := by decide +kernel
theorem d3_6 : decode method_4_code 6 = .ok (.lushr, 1) := by decide +kernel
theorem d3_7 : decode method_4_code 7 = .ok (.l2i, 1) := by decide +kernel
theorem d3_8 : decode method_4_code 8 = .ok (.i2b, 1) := by decide +kernel
theorem d3_9 : decode method_4_code 9 = .ok (.if_icmp .ne 90, 3) := by decide +kernel
theorem d3_12 : decode method_4_code 12 = .ok (.aload_n 0, 1) := by decide +kernel
theorem d3_13 : decode method_4_code 13 = .ok (.iconst 1, 1) := by decide +kernel
theorem d3_14 : decode method_4_code 14 = .ok (.baload, 1) := by decide +kernel
theorem d3_15 : decode method_4_code 15 = .ok (.lload_n 1, 1) := by decide +kernel
theorem d3_16 : decode method_4_code 16 = .ok (.bipush 48, 2) := by decide +kernel
theorem d3_18 : decode method_4_code 18 = .ok (.lushr, 1) := by decide +kernel
theorem d3_19 : decode method_4_code 19 = .ok (.l2i, 1) := by decide +kernel
theorem d3_20 : decode method_4_code 20 = .ok (.i2b, 1) := by decide +kernel
theorem d3_21 : decode method_4_code 21 = .ok (.if_icmp .ne 78, 3) := by decide +kernel
theorem d3_24 : decode method_4_code 24 = .ok (.aload_n 0, 1) := by decide +kernel
theorem d3_25 : decode method_4_code 25 = .ok (.iconst 2, 1) := by decide +kernel
theorem d3_26 : decode method_4_code 26 = .ok (.baload, 1) := by decide +kernel
theorem d3_27 : decode method_4_code 27 = .ok (.lload_n 1, 1) := by decide +kernel
theorem d3_28 : decode method_4_code 28 = .ok (.bipush 40, 2) := by decide +kernel
theorem d3_30 : decode method_4_code 30 = .ok (.lushr, 1) := by decide +kernel
theorem d3_31 : decode method_4_code 31 = .ok (.l2i, 1) := by decide +kernel
theorem d3_32 : decode method_4_code 32 = .ok (.i2b, 1) := by decide +kernel
theorem d3_33 : decode method_4_code 33 = .ok (.if_icmp .ne 66, 3) := by decide +kernel
theorem d3_36 : decode method_4_code 36 = .ok (.aload_n 0, 1) := by decide +kernel
theorem d3_37 : decode method_4_code 37 = .ok (.iconst 3, 1) := by decide +kernel
theorem d3_38 : decode method_4_code 38 = .ok (.baload, 1) := by decide +kernel
theorem d3_39 : decode method_4_code 39 = .ok (.lload_n 1, 1) := by decide +kernel
theorem d3_40 : decode method_4_code 40 = .ok (.bipush 32, 2) := by decide +kernel
theorem d3_42 : decode method_4_code 42 = .ok (.lushr, 1) := by decide +kernel
theorem d3_43 : decode method_4_code 43 = .ok (.l2i, 1) := by decide +kernel
theorem d3_44 : decode method_4_code 44 = .ok (.i2b, 1) := by decide +kernel
theorem d3_45 : decode method_4_code 45 = .ok (.if_icmp .ne 54, 3) := by decide +kernel
theorem d3_48 : decode method_4_code 48 = .ok (.aload_n 0, 1) := by decide +kernel
theorem d3_49 : decode method_4_code 49 = .ok (.iconst 4, 1) := by decide +kernel
theorem d3_50 : decode method_4_code 50 = .ok (.baload, 1) := by decide +kernel
theorem d3_51 : decode method_4_code 51 = .ok (.lload_n 1, 1) := by decide +kernel
theorem d3_52 : decode method_4_code 52 = .ok (.bipush 24, 2) := by decide +kernel
theorem d3_54 : decode method_4_code 54 = .ok (.lushr, 1) := by decide +kernel
theorem d3_55 : decode method_4_code 55 = .ok (.l2i, 1) := by decide +kernel
theorem d3_56 : decode method_4_code 56 = .ok (.i2b, 1) := by decide +kernel
theorem d3_57 : decode method_4_code 57 = .ok (.if_icmp .ne 42, 3) := by decide +kernel
theorem d3_60 : decode method_4_code 60 = .ok (.aload_n 0, 1) := by decide +kernel
theorem d3_61 : decode method_4_code 61 = .ok (.iconst 5, 1) := by decide +kernel
theorem d3_62 : decode method_4_code 62 = .ok (.baload, 1) := by decide +kernel
theorem d3_63 : decode method_4_code 63 = .ok (.lload_n 1, 1) := by decide +kernel
theorem d3_64 : decode method_4_code 64 = .ok (.bipush 16, 2) := by decide +kernel
theorem d3_66 : decode method_4_code 66 = .ok (.lushr, 1) := by decide +kernel
theorem d3_67 : decode method_4_code 67 = .ok (.l2i, 1) := by decide +kernel
theorem d3_68 : decode method_4_code 68 = .ok (.i2b, 1) := by decide +kernel
theorem d3_69 : decode method_4_code 69 = .ok (.if_icmp .ne 30, 3) := by decide +kernel
theorem d3_72 : decode method_4_code 72 = .ok (.aload_n 0, 1) := by decide +kernel
theorem d3_73 : decode method_4_code 73 = .ok (.bipush 6, 2) := by decide +kernel
theorem d3_75 : decode method_4_code 75 = .ok (.baload, 1) := by decide +kernel
theorem d3_76 : decode method_4_code 76 = .ok (.lload_n 1, 1) := by decide +kernel
theorem d3_77 : decode method_4_code 77 = .ok (.bipush 8, 2) := by decide +kernel
theorem d3_79 : decode method_4_code 79 = .ok (.lushr, 1) := by decide +kernel
theorem d3_80 : decode method_4_code 80 = .ok (.l2i, 1) := by decide +kernel
theorem d3_81 : decode method_4_code 81 = .ok (.i2b, 1) := by decide +kernel
theorem d3_82 : decode method_4_code 82 = .ok (.if_icmp .ne 17, 3) := by decide +kernel
theorem d3_85 : decode method_4_code 85 = .ok (.aload_n 0, 1) := by decide +kernel
theorem d3_86 : decode method_4_code 86 = .ok (.bipush 7, 2) := by decide +kernel
theorem d3_88 : decode method_4_code 88 = .ok (.baload, 1) := by decide +kernel
theorem d3_89 : decode method_4_code 89 = .ok (.lload_n 1, 1) := by decide +kernel
theorem d3_90 : decode method_4_code 90 = .ok (.l2i, 1) := by decide +kernel
theorem d3_91 : decode method_4_code 91 = .ok (.i2b, 1) := by decide +kernel
theorem d3_92 : decode method_4_code 92 = .ok (.if_icmp .ne 7, 3) := by decide +kernel
theorem d3_95 : decode method_4_code 95 = .ok (.iconst 1, 1) := by decide +kernel
theorem d3_96 : decode method_4_code 96 = .ok (.goto 4, 3) := by decide +kernel
theorem d3_100 : decode method_4_code 100 = .ok (.ireturn, 1) := by decide +kernel
set_option maxRecDepth 65536 in
set_option maxHeartbeats 40000000 in
theorem rhead0 (l : Launch) (Z : State) (a0 : Array Value) (hw : ∀ d ∈ tables_1, d.before a0 Z = true) (ws : List Jvm.Cond) (a1 : Addr) (q2 : Int64) (p3 : Int32) (kB : ClassId) (h0 : Heap) (n0 : Nat) (Z0 : n0 ≤ h0.size) (V1 : Arv Z h0 a1 kB .byte (8 : Int32) [(.int (own_by q2 56)), (.int (own_by q2 48)), (.int (own_by q2 40)), (.int (own_by q2 32)), (.int (own_by q2 24)), (.int (own_by q2 16)), (.int (own_by q2 8)), (.int (own_b0 q2))] (.int (0 : Int32))) :
    MetFree l (⟨"com/example/thin_table/thintable/model/KeyOrderNewestValuePinLaw", "head", "([BJ)Z"⟩ : MethodName) (head1 (Jvm.Cond.code (⟨"com/example/thin_table/thintable/model/KeyOrderNewestValuePinLaw", "head", "([BJ)Z"⟩ : MethodName) method_4_code 3 (some .boolean) :: ws) ({ frames := 0, cells := 0, slots := 0, locals := 0 } : Room)) (fun a U => a = #[(.ref a1), (.long q2)] ∧ Z.Warmed39 U.vm ∧ U.heap = h0) (fun _ _ _ _ _ => True) (fun _ U o U' => ∃ v L, o = .returned v ∧ Q_rhead0 Z a1 q2 p3 kB h0 n0 v U'.heap L ∧ FrameEnd U o U' L ({ frames := 0, cells := 0, slots := 0, locals := 0 } : Room).cells ({ frames := 0, cells := 0, slots := 0, locals := 0 } : Room).slots) := by
  refine MetFree.of_bodySF (plainFor_of_name pn_3) hisR ?_
  intro p e s m args below meth c s₁ Bd hml0 hP hK
  obtain ⟨rfl, hZ, hh⟩ := hP
  have hx := Bd.exec
  have hby := Bd.bytes
  have hml : c.maxLocals = 3 := hml0
  have hown : s.vm.findClass "com/example/thin_table/thintable/model/KeyOrderNewestValuePinLaw" = some m.cls := findClass_of_methodNamed Bd.named
  have hnm := (name_of_methodNamed Bd.named Bd.method).1
  have X0 : Stand p l e ({ frames := 0, cells := 0, slots := 0, locals := 0 } : Room) s m #[(.ref a1), (.long q2)] below meth c s₁ [] 0 0 := Stand.of_body Bd
  have e0 : s₁.heap = h0 := by rw [← hh, Bd.state]; rfl
  have N0 := Fr.nil n0
  refine own_go (g' := (mkF m 0 #[.val (.ref a1), .val (.long q2), .second] [])) (fun t k => castTop (ef_3 m (a1) (q2)) k) ?_
  refine own_go (T' := s₁) (g' := (mkF m 2 #[.val (.ref a1), .val (.long q2), .second] [(.int (0 : Int32)), (.ref a1)])) (fun t kt => ?_) ?_
  · show Steps p.tables e below (s₁.setTop (mkF m 0 #[.val (.ref a1), .val (.long q2), .second] [])) t
    refine XS.aloadN X0.here hx rfl (hb hby d3_0) rfl rfl ?_
    show Steps p.tables e below (s₁.setTop (mkF m 1 #[.val (.ref a1), .val (.long q2), .second] [(.ref a1)])) t
    refine XS.iconst X0.here hx rfl (hb hby d3_1) ?_
    exact kt
  have vq_1 := V1
  obtain ⟨c_1, a_1, q_1, s_1, m_1, H_1, G_1⟩ := vq_1
  have hin_1 : ¬ ((0 : Int32) < 0 ∨ c_1.slots.size ≤ ((0 : Int32)).toNatClampNeg) := inb_of s_1 ⟨by decide, by decide⟩
  have hat_1 : c_1.slots[((0 : Int32)).toNatClampNeg]? = some (.int (own_by q2 56)) := H_1.at hin_1 rfl
  refine own_go (T' := s₁) (g' := (mkF m 3 #[.val (.ref a1), .val (.long q2), .second] [(.int (own_by q2 56))])) (fun t kt => ?_) ?_
  · refine X0.baloadBytes hx (j := (0 : Int32)) (v := (.int (own_by q2 56))) (by rw [e0]; exact a_1.1) (State.isArrayOf_alike hZ.alike a_1.2.1) a_1.2.2 hin_1 hat_1 (g := (mkF m 2 #[.val (.ref a1), .val (.long q2), .second] [(.int (0 : Int32)), (.ref a1)])) rfl rfl (hb hby d3_2) _ ?_
    exact kt
  refine own_go (T' := s₁) (g' := (mkF m 14 #[.val (.ref a1), .val (.long q2), .second] [(.int (1 : Int32)), (.ref a1)])) (fun t kt => ?_) ?_
  · show Steps p.tables e below (s₁.setTop (mkF m 3 #[.val (.ref a1), .val (.long q2), .second] [(.int (own_by q2 56))])) t
    refine XS.lloadN X0.here hx rfl (hb hby d3_3) rfl ?_
    show Steps p.tables e below (s₁.setTop (mkF m 4 #[.val (.ref a1), .val (.long q2), .second] [(.long q2), (.int (own_by q2 56))])) t
    refine XS.bipush X0.here hx rfl (hb hby d3_4) ?_
    show Steps p.tables e below (s₁.setTop (mkF m 6 #[.val (.ref a1), .val (.long q2), .second] [(.int (56 : Int32)), (.long q2), (.int (own_by q2 56))])) t
    refine XS.lushr X0.here hx rfl (hb hby d3_6) rfl ?_
    show Steps p.tables e below (s₁.setTop (mkF m 7 #[.val (.ref a1), .val (.long q2), .second] [(.long ((q2.toUInt64 >>> ((56 : Int32) &&& 0x3f).toInt64.toUInt64).toInt64)), (.int (own_by q2 56))])) t
    refine XS.l2i X0.here hx rfl (hb hby d3_7) rfl ?_
    show Steps p.tables e below (s₁.setTop (mkF m 8 #[.val (.ref a1), .val (.long q2), .second] [(.int (((q2.toUInt64 >>> ((56 : Int32) &&& 0x3f).toInt64.toUInt64).toInt64).toInt32)), (.int (own_by q2 56))])) t
    refine XS.i2b X0.here hx rfl (hb hby d3_8) rfl ?_
    show Steps p.tables e below (s₁.setTop (mkF m 9 #[.val (.ref a1), .val (.long q2), .second] [(.int ((((q2.toUInt64 >>> ((56 : Int32) &&& 0x3f).toInt64.toUInt64).toInt64).toInt32).toInt8.toInt32)), (.int (own_by q2 56))])) t
    refine XS.icmpNo X0.here hx rfl (hb hby d3_9) rfl (teq (own_by_eq q2 56 : (own_by q2 56) = ((((q2.toUInt64 >>> ((56 : Int32) &&& 0x3f).toInt64.toUInt64).toInt64).toInt32).toInt8.toInt32))).2 ?_
    show Steps p.tables e below (s₁.setTop (mkF m 12 #[.val (.ref a1), .val (.long q2), .second] [])) t
    refine XS.aloadN X0.here hx rfl (hb hby d3_12) rfl rfl ?_
    show Steps p.tables e below (s₁.setTop (mkF m 13 #[.val (.ref a1), .val (.long q2), .second] [(.ref a1)])) t
    refine XS.iconst X0.here hx rfl (hb hby d3_13) ?_
    exact kt
  have vq_2 := V1
  obtain ⟨c_2, a_2, q_2, s_2, m_2, H_2, G_2⟩ := vq_2
  have hin_2 : ¬ ((1 : Int32) < 0 ∨ c_2.slots.size ≤ ((1 : Int32)).toNatClampNeg) := inb_of s_2 ⟨by decide, by decide⟩
  have hat_2 : c_2.slots[((1 : Int32)).toNatClampNeg]? = some (.int (own_by q2 48)) := H_2.at hin_2 rfl
  refine own_go (T' := s₁) (g' := (mkF m 15 #[.val (.ref a1), .val (.long q2), .second] [(.int (own_by q2 48))])) (fun t kt => ?_) ?_
  · refine X0.baloadBytes hx (j := (1 : Int32)) (v := (.int (own_by q2 48))) (by rw [e0]; exact a_2.1) (State.isArrayOf_alike hZ.alike a_2.2.1) a_2.2.2 hin_2 hat_2 (g := (mkF m 14 #[.val (.ref a1), .val (.long q2), .second] [(.int (1 : Int32)), (.ref a1)])) rfl rfl (hb hby d3_14) _ ?_
    exact kt
  refine own_go (T' := s₁) (g' := (mkF m 26 #[.val (.ref a1), .val (.long q2), .second] [(.int (2 : Int32)), (.ref a1)])) (fun t kt => ?_) ?_
  · show Steps p.tables e below (s₁.setTop (mkF m 15 #[.val (.ref a1), .val (.long q2), .second] [(.int (own_by q2 48))])) t
    refine XS.lloadN X0.here hx rfl (hb hby d3_15) rfl ?_
    show Steps p.tables e below (s₁.setTop (mkF m 16 #[.val (.ref a1), .val (.long q2), .second] [(.long q2), (.int (own_by q2 48))])) t
    refine XS.bipush X0.here hx rfl (hb hby d3_16) ?_
    show Steps p.tables e below (s₁.setTop (mkF m 18 #[.val (.ref a1), .val (.long q2), .second] [(.int (48 : Int32)), (.long q2), (.int (own_by q2 48))])) t
    refine XS.lushr X0.here hx rfl (hb hby d3_18) rfl ?_
    show Steps p.tables e below (s₁.setTop (mkF m 19 #[.val (.ref a1), .val (.long q2), .second] [(.long ((q2.toUInt64 >>> ((48 : Int32) &&& 0x3f).toInt64.toUInt64).toInt64)), (.int (own_by q2 48))])) t
    refine XS.l2i X0.here hx rfl (hb hby d3_19) rfl ?_
    show Steps p.tables e below (s₁.setTop (mkF m 20 #[.val (.ref a1), .val (.long q2), .second] [(.int (((q2.toUInt64 >>> ((48 : Int32) &&& 0x3f).toInt64.toUInt64).toInt64).toInt32)), (.int (own_by q2 48))])) t
    refine XS.i2b X0.here hx rfl (hb hby d3_20) rfl ?_
    show Steps p.tables e below (s₁.setTop (mkF m 21 #[.val (.ref a1), .val (.long q2), .second] [(.int ((((q2.toUInt64 >>> ((48 : Int32) &&& 0x3f).toInt64.toUInt64).toInt64).toInt32).toInt8.toInt32)), (.int (own_by q2 48))])) t
    refine XS.icmpNo X0.here hx rfl (hb hby d3_21) rfl (teq (own_by_eq q2 48 : (own_by q2 48) = ((((q2.toUInt64 >>> ((48 : Int32) &&& 0x3f).toInt64.toUInt64).toInt64).toInt32).toInt8.toInt32))).2 ?_
    show Steps p.tables e below (s₁.setTop (mkF m 24 #[.val (.ref a1), .val (.long q2), .second] [])) t
    refine XS.aloadN X0.here hx rfl (hb hby d3_24) rfl rfl ?_
    show Steps p.tables e below (s₁.setTop (mkF m 25 #[.val (.ref a1), .val (.long q2), .second] [(.ref a1)])) t
    refine XS.iconst X0.here hx rfl (hb hby d3_25) ?_
    exact kt
  have vq_3 := V1
  obtain ⟨c_3, a_3, q_3, s_3, m_3, H_3, G_3⟩ := vq_3
  have hin_3 : ¬ ((2 : Int32) < 0 ∨ c_3.slots.size ≤ ((2 : Int32)).toNatClampNeg) := inb_of s_3 ⟨by decide, by decide⟩
  have hat_3 : c_3.slots[((2 : Int32)).toNatClampNeg]? = some (.int (own_by q2 40)) := H_3.at hin_3 rfl
  refine own_go (T' := s₁) (g' := (mkF m 27 #[.val (.ref a1), .val (.long q2), .second] [(.int (own_by q2 40))])) (fun t kt => ?_) ?_
  · refine X0.baloadBytes hx (j := (2 : Int32)) (v := (.int (own_by q2 40))) (by rw [e0]; exact a_3.1) (State.isArrayOf_alike hZ.alike a_3.2.1) a_3.2.2 hin_3 hat_3 (g := (mkF m 26 #[.val (.ref a1), .val (.long q2), .second] [(.int (2 : Int32)), (.ref a1)])) rfl rfl (hb hby d3_26) _ ?_
    exact kt
  refine own_go (T' := s₁) (g' := (mkF m 38 #[.val (.ref a1), .val (.long q2), .second] [(.int (3 : Int32)), (.ref a1)])) (fun t kt => ?_) ?_
  · show Steps p.tables e below (s₁.setTop (mkF m 27 #[.val (.ref a1), .val (.long q2), .second] [(.int (own_by q2 40))])) t
    refine XS.lloadN X0.here hx rfl (hb hby d3_27) rfl ?_
    show Steps p.tables e below (s₁.setTop (mkF m 28 #[.val (.ref a1), .val (.long q2), .second] [(.long q2), (.int (own_by q2 40))])) t
    refine XS.bipush X0.here hx rfl (hb hby d3_28) ?_
    show Steps p.tables e below (s₁.setTop (mkF m 30 #[.val (.ref a1), .val (.long q2), .second] [(.int (40 : Int32)), (.long q2), (.int (own_by q2 40))])) t
    refine XS.lushr X0.here hx rfl (hb hby d3_30) rfl ?_
    show Steps p.tables e below (s₁.setTop (mkF m 31 #[.val (.ref a1), .val (.long q2), .second] [(.long ((q2.toUInt64 >>> ((40 : Int32) &&& 0x3f).toInt64.toUInt64).toInt64)), (.int (own_by q2 40))])) t
    refine XS.l2i X0.here hx rfl (hb hby d3_31) rfl ?_
    show Steps p.tables e below (s₁.setTop (mkF m 32 #[.val (.ref a1), .val (.long q2), .second] [(.int (((q2.toUInt64 >>> ((40 : Int32) &&& 0x3f).toInt64.toUInt64).toInt64).toInt32)), (.int (own_by q2 40))])) t
    refine XS.i2b X0.here hx rfl (hb hby d3_32) rfl ?_
    show Steps p.tables e below (s₁.setTop (mkF m 33 #[.val (.ref a1), .val (.long q2), .second] [(.int ((((q2.toUInt64 >>> ((40 : Int32) &&& 0x3f).toInt64.toUInt64).toInt64).toInt32).toInt8.toInt32)), (.int (own_by q2 40))])) t
    refine XS.icmpNo X0.here hx rfl (hb hby d3_33) rfl (teq (own_by_eq q2 40 : (own_by q2 40) = ((((q2.toUInt64 >>> ((40 : Int32) &&& 0x3f).toInt64.toUInt64).toInt64).toInt32).toInt8.toInt32))).2 ?_
    show Steps p.tables e below (s₁.setTop (mkF m 36 #[.val (.ref a1), .val (.long q2), .second] [])) t
    refine XS.aloadN X0.here hx rfl (hb hby d3_36) rfl rfl ?_
    show Steps p.tables e below (s₁.setTop (mkF m 37 #[.val (.ref a1), .val (.long q2), .second] [(.ref a1)])) t
    refine XS.iconst X0.here hx rfl (hb hby d3_37) ?_
    exact kt
  have vq_4 := V1
  obtain ⟨c_4, a_4, q_4, s_4, m_4, H_4, G_4⟩ := vq_4
  have hin_4 : ¬ ((3 : Int32) < 0 ∨ c_4.slots.size ≤ ((3 : Int32)).toNatClampNeg) := inb_of s_4 ⟨by decide, by decide⟩
  have hat_4 : c_4.slots[((3 : Int32)).toNatClampNeg]? = some (.int (own_by q2 32)) := H_4.at hin_4 rfl
  refine own_go (T' := s₁) (g' := (mkF m 39 #[.val (.ref a1), .val (.long q2), .second] [(.int (own_by q2 32))])) (fun t kt => ?_) ?_
  · refine X0.baloadBytes hx (j := (3 : Int32)) (v := (.int (own_by q2 32))) (by rw [e0]; exact a_4.1) (State.isArrayOf_alike hZ.alike a_4.2.1) a_4.2.2 hin_4 hat_4 (g := (mkF m 38 #[.val (.ref a1), .val (.long q2), .second] [(.int (3 : Int32)), (.ref a1)])) rfl rfl (hb hby d3_38) _ ?_
    exact kt
  refine own_go (T' := s₁) (g' := (mkF m 50 #[.val (.ref a1), .val (.long q2), .second] [(.int (4 : Int32)), (.ref a1)])) (fun t kt => ?_) ?_
  · show Steps p.tables e below (s₁.setTop (mkF m 39 #[.val (.ref a1), .val (.long q2), .second] [(.int (own_by q2 32))])) t
    refine XS.lloadN X0.here hx rfl (hb hby d3_39) rfl ?_
    show Steps p.tables e below (s₁.setTop (mkF m 40 #[.val (.ref a1), .val (.long q2), .second] [(.long q2), (.int (own_by q2 32))])) t
    refine XS.bipush X0.here hx rfl (hb hby d3_40) ?_
    show Steps p.tables e below (s₁.setTop (mkF m 42 #[.val (.ref a1), .val (.long q2), .second] [(.int (32 : Int32)), (.long q2), (.int (own_by q2 32))])) t
    refine XS.lushr X0.here hx rfl (hb hby d3_42) rfl ?_
    show Steps p.tables e below (s₁.setTop (mkF m 43 #[.val (.ref a1), .val (.long q2), .second] [(.long ((q2.toUInt64 >>> ((32 : Int32) &&& 0x3f).toInt64.toUInt64).toInt64)), (.int (own_by q2 32))])) t
    refine XS.l2i X0.here hx rfl (hb hby d3_43) rfl ?_
    show Steps p.tables e below (s₁.setTop (mkF m 44 #[.val (.ref a1), .val (.long q2), .second] [(.int (((q2.toUInt64 >>> ((32 : Int32) &&& 0x3f).toInt64.toUInt64).toInt64).toInt32)), (.int (own_by q2 32))])) t
    refine XS.i2b X0.here hx rfl (hb hby d3_44) rfl ?_
    show Steps p.tables e below (s₁.setTop (mkF m 45 #[.val (.ref a1), .val (.long q2), .second] [(.int ((((q2.toUInt64 >>> ((32 : Int32) &&& 0x3f).toInt64.toUInt64).toInt64).toInt32).toInt8.toInt32)), (.int (own_by q2 32))])) t
    refine XS.icmpNo X0.here hx rfl (hb hby d3_45) rfl (teq (own_by_eq q2 32 : (own_by q2 32) = ((((q2.toUInt64 >>> ((32 : Int32) &&& 0x3f).toInt64.toUInt64).toInt64).toInt32).toInt8.toInt32))).2 ?_
    show Steps p.tables e below (s₁.setTop (mkF m 48 #[.val (.ref a1), .val (.long q2), .second] [])) t
    refine XS.aloadN X0.here hx rfl (hb hby d3_48) rfl rfl ?_
    show Steps p.tables e below (s₁.setTop (mkF m 49 #[.val (.ref a1), .val (.long q2), .second] [(.ref a1)])) t
    refine XS.iconst X0.here hx rfl (hb hby d3_49) ?_
    exact kt
  have vq_5 := V1
  obtain ⟨c_5, a_5, q_5, s_5, m_5, H_5, G_5⟩ := vq_5
  have hin_5 : ¬ ((4 : Int32) < 0 ∨ c_5.slots.size ≤ ((4 : Int32)).toNatClampNeg) := inb_of s_5 ⟨by decide, by decide⟩
  have hat_5 : c_5.slots[((4 : Int32)).toNatClampNeg]? = some (.int (own_by q2 24)) := H_5.at hin_5 rfl
  refine own_go (T' := s₁) (g' := (mkF m 51 #[.val (.ref a1), .val (.long q2), .second] [(.int (own_by q2 24))])) (fun t kt => ?_) ?_
  · refine X0.baloadBytes hx (j := (4 : Int32)) (v := (.int (own_by q2 24))) (by rw [e0]; exact a_5.1) (State.isArrayOf_alike hZ.alike a_5.2.1) a_5.2.2 hin_5 hat_5 (g := (mkF m 50 #[.val (.ref a1), .val (.long q2), .second] [(.int (4 : Int32)), (.ref a1)])) rfl rfl (hb hby d3_50) _ ?_
    exact kt
  refine own_go (T' := s₁) (g' := (mkF m 62 #[.val (.ref a1), .val (.long q2), .second] [(.int (5 : Int32)), (.ref a1)])) (fun t kt => ?_) ?_
  · show Steps p.tables e below (s₁.setTop (mkF m 51 #[.val (.ref a1), .val (.long q2), .second] [(.int (own_by q2 24))])) t
    refine XS.lloadN X0.here hx rfl (hb hby d3_51) rfl ?_
    show Steps p.tables e below (s₁.setTop (mkF m 52 #[.val (.ref a1), .val (.long q2), .second] [(.long q2), (.int (own_by q2 24))])) t
    refine XS.bipush X0.here hx rfl (hb hby d3_52) ?_
    show Steps p.tables e below (s₁.setTop (mkF m 54 #[.val (.ref a1), .val (.long q2), .second] [(.int (24 : Int32)), (.long q2), (.int (own_by q2 24))])) t
    refine XS.lushr X0.here hx rfl (hb hby d3_54) rfl ?_
    show Steps p.tables e below (s₁.setTop (mkF m 55 #[.val (.ref a1), .val (.long q2), .second] [(.long ((q2.toUInt64 >>> ((24 : Int32) &&& 0x3f).toInt64.toUInt64).toInt64)), (.int (own_by q2 24))])) t
    refine XS.l2i X0.here hx rfl (hb hby d3_55) rfl ?_
    show Steps p.tables e below (s₁.setTop (mkF m 56 #[.val (.ref a1), .val (.long q2), .second] [(.int (((q2.toUInt64 >>> ((24 : Int32) &&& 0x3f).toInt64.toUInt64).toInt64).toInt32)), (.int (own_by q2 24))])) t
    refine XS.i2b X0.here hx rfl (hb hby d3_56) rfl ?_
    show Steps p.tables e below (s₁.setTop (mkF m 57 #[.val (.ref a1), .val (.long q2), .second] [(.int ((((q2.toUInt64 >>> ((24 : Int32) &&& 0x3f).toInt64.toUInt64).toInt64).toInt32).toInt8.toInt32)), (.int (own_by q2 24))])) t
    refine XS.icmpNo X0.here hx rfl (hb hby d3_57) rfl (teq (own_by_eq q2 24 : (own_by q2 24) = ((((q2.toUInt64 >>> ((24 : Int32) &&& 0x3f).toInt64.toUInt64).toInt64).toInt32).toInt8.toInt32))).2 ?_
    show Steps p.tables e below (s₁.setTop (mkF m 60 #[.val (.ref a1), .val (.long q2), .second] [])) t
    refine XS.aloadN X0.here hx rfl (hb hby d3_60) rfl rfl ?_
    show Steps p.tables e below (s₁.setTop (mkF m 61 #[.val (.ref a1), .val (.long q2), .second] [(.ref a1)])) t
    refine XS.iconst X0.here hx rfl (hb hby d3_61) ?_
    exact kt
  have vq_6 := V1
  obtain ⟨c_6, a_6, q_6, s_6, m_6, H_6, G_6⟩ := vq_6
  have hin_6 : ¬ ((5 : Int32) < 0 ∨ c_6.slots.size ≤ ((5 : Int32)).toNatClampNeg) := inb_of s_6 ⟨by decide, by decide⟩
  have hat_6 : c_6.slots[((5 : Int32)).toNatClampNeg]? = some (.int (own_by q2 16)) := H_6.at hin_6 rfl
  refine own_go (T' := s₁) (g' := (mkF m 63 #[.val (.ref a1), .val (.long q2), .second] [(.int (own_by q2 16))])) (fun t kt => ?_) ?_
  · refine X0.baloadBytes hx (j := (5 : Int32)) (v := (.int (own_by q2 16))) (by rw [e0]; exact a_6.1) (State.isArrayOf_alike hZ.alike a_6.2.1) a_6.2.2 hin_6 hat_6 (g := (mkF m 62 #[.val (.ref a1), .val (.long q2), .second] [(.int (5 : Int32)), (.ref a1)])) rfl rfl (hb hby d3_62) _ ?_
    exact kt
  refine own_go (T' := s₁) (g' := (mkF m 75 #[.val (.ref a1), .val (.long q2), .second] [(.int (6 : Int32)), (.ref a1)])) (fun t kt => ?_) ?_
  · show Steps p.tables e below (s₁.setTop (mkF m 63 #[.val (.ref a1), .val (.long q2), .second] [(.int (own_by q2 16))])) t
    refine XS.lloadN X0.here hx rfl (hb hby d3_63) rfl ?_
    show Steps p.tables e below (s₁.setTop (mkF m 64 #[.val (.ref a1), .val (.long q2), .second] [(.long q2), (.int (own_by q2 16))])) t
    refine XS.bipush X0.here hx rfl (hb hby d3_64) ?_
    show Steps p.tables e below (s₁.setTop (mkF m 66 #[.val (.ref a1), .val (.long q2), .second] [(.int (16 : Int32)), (.long q2), (.int (own_by q2 16))])) t
    refine XS.lushr X0.here hx rfl (hb hby d3_66) rfl ?_
    show Steps p.tables e below (s₁.setTop (mkF m 67 #[.val (.ref a1), .val (.long q2), .second] [(.long ((q2.toUInt64 >>> ((16 : Int32) &&& 0x3f).toInt64.toUInt64).toInt64)), (.int (own_by q2 16))])) t
    refine XS.l2i X0.here hx rfl (hb hby d3_67) rfl ?_
    show Steps p.tables e below (s₁.setTop (mkF m 68 #[.val (.ref a1), .val (.long q2), .second] [(.int (((q2.toUInt64 >>> ((16 : Int32) &&& 0x3f).toInt64.toUInt64).toInt64).toInt32)), (.int (own_by q2 16))])) t
    refine XS.i2b X0.here hx rfl (hb hby d3_68) rfl ?_
    show Steps p.tables e below (s₁.setTop (mkF m 69 #[.val (.ref a1), .val (.long q2), .second] [(.int ((((q2.toUInt64 >>> ((16 : Int32) &&& 0x3f).toInt64.toUInt64).toInt64).toInt32).toInt8.toInt32)), (.int (own_by q2 16))])) t
    refine XS.icmpNo X0.here hx rfl (hb hby d3_69) rfl (teq (own_by_eq q2 16 : (own_by q2 16) = ((((q2.toUInt64 >>> ((16 : Int32) &&& 0x3f).toInt64.toUInt64).toInt64).toInt32).toInt8.toInt32))).2 ?_
    show Steps p.tables e below (s₁.setTop (mkF m 72 #[.val (.ref a1), .val (.long q2), .second] [])) t
    refine XS.aloadN X0.here hx rfl (hb hby d3_72) rfl rfl ?_
    show Steps p.tables e below (s₁.setTop (mkF m 73 #[.val (.ref a1), .val (.long q2), .second] [(.ref a1)])) t
    refine XS.bipush X0.here hx rfl (hb hby d3_73) ?_
    exact kt
  have vq_7 := V1
  obtain ⟨c_7, a_7, q_7, s_7, m_7, H_7, G_7⟩ := vq_7
  have hin_7 : ¬ ((6 : Int32) < 0 ∨ c_7.slots.size ≤ ((6 : Int32)).toNatClampNeg) := inb_of s_7 ⟨by decide, by decide⟩
  have hat_7 : c_7.slots[((6 : Int32)).toNatClampNeg]? = some (.int (own_by q2 8)) := H_7.at hin_7 rfl
  refine own_go (T' := s₁) (g' := (mkF m 76 #[.val (.ref a1), .val (.long q2), .second] [(.int (own_by q2 8))])) (fun t kt => ?_) ?_
  · refine X0.baloadBytes hx (j := (6 : Int32)) (v := (.int (own_by q2 8))) (by rw [e0]; exact a_7.1) (State.isArrayOf_alike hZ.alike a_7.2.1) a_7.2.2 hin_7 hat_7 (g := (mkF m 75 #[.val (.ref a1), .val (.long q2), .second] [(.int (6 : Int32)), (.ref a1)])) rfl rfl (hb hby d3_75) _ ?_
    exact kt
  refine own_go (T' := s₁) (g' := (mkF m 88 #[.val (.ref a1), .val (.long q2), .second] [(.int (7 : Int32)), (.ref a1)])) (fun t kt => ?_) ?_
  · show Steps p.tables e below (s₁.setTop (mkF m 76 #[.val (.ref a1), .val (.long q2), .second] [(.int (own_by q2 8))])) t
    refine XS.lloadN X0.here hx rfl (hb hby d3_76) rfl ?_
    show Steps p.tables e below (s₁.setTop (mkF m 77 #[.val (.ref a1), .val (.long q2), .second] [(.long q2), (.int (own_by q2 8))])) t
    refine XS.bipush X0.here hx rfl (hb hby d3_77) ?_
    show Steps p.tables e below (s₁.setTop (mkF m 79 #[.val (.ref a1), .val (.long q2), .second] [(.int (8 : Int32)), (.long q2), (.int (own_by q2 8))])) t
    refine XS.lushr X0.here hx rfl (hb hby d3_79) rfl ?_
    show Steps p.tables e below (s₁.setTop (mkF m 80 #[.val (.ref a1), .val (.long q2), .second] [(.long ((q2.toUInt64 >>> ((8 : Int32) &&& 0x3f).toInt64.toUInt64).toInt64)), (.int (own_by q2 8))])) t
    refine XS.l2i X0.here hx rfl (hb hby d3_80) rfl ?_
    show Steps p.tables e below (s₁.setTop (mkF m 81 #[.val (.ref a1), .val (.long q2), .second] [(.int (((q2.toUInt64 >>> ((8 : Int32) &&& 0x3f).toInt64.toUInt64).toInt64).toInt32)), (.int (own_by q2 8))])) t
    refine XS.i2b X0.here hx rfl (hb hby d3_81) rfl ?_
    show Steps p.tables e below (s₁.setTop (mkF m 82 #[.val (.ref a1), .val (.long q2), .second] [(.int ((((q2.toUInt64 >>> ((8 : Int32) &&& 0x3f).toInt64.toUInt64).toInt64).toInt32).toInt8.toInt32)), (.int (own_by q2 8))])) t
    refine XS.icmpNo X0.here hx rfl (hb hby d3_82) rfl (teq (own_by_eq q2 8 : (own_by q2 8) = ((((q2.toUInt64 >>> ((8 : Int32) &&& 0x3f).toInt64.toUInt64).toInt64).toInt32).toInt8.toInt32))).2 ?_
    show Steps p.tables e below (s₁.setTop (mkF m 85 #[.val (.ref a1), .val (.long q2), .second] [])) t
    refine XS.aloadN X0.here hx rfl (hb hby d3_85) rfl rfl ?_
    show Steps p.tables e below (s₁.setTop (mkF m 86 #[.val (.ref a1), .val (.long q2), .second] [(.ref a1)])) t
    refine XS.bipush X0.here hx rfl (hb hby d3_86) ?_
    exact kt
  have vq_8 := V1
  obtain ⟨c_8, a_8, q_8, s_8, m_8, H_8, G_8⟩ := vq_8
  have hin_8 : ¬ ((7 : Int32) < 0 ∨ c_8.slots.size ≤ ((7 : Int32)).toNatClampNeg) := inb_of s_8 ⟨by decide, by decide⟩
  have hat_8 : c_8.slots[((7 : Int32)).toNatClampNeg]? = some (.int (own_b0 q2)) := H_8.at hin_8 rfl
  refine own_go (T' := s₁) (g' := (mkF m 89 #[.val (.ref a1), .val (.long q2), .second] [(.int (own_b0 q2))])) (fun t kt => ?_) ?_
  · refine X0.baloadBytes hx (j := (7 : Int32)) (v := (.int (own_b0 q2))) (by rw [e0]; exact a_8.1) (State.isArrayOf_alike hZ.alike a_8.2.1) a_8.2.2 hin_8 hat_8 (g := (mkF m 88 #[.val (.ref a1), .val (.long q2), .second] [(.int (7 : Int32)), (.ref a1)])) rfl rfl (hb hby d3_88) _ ?_
    exact kt
  refine own_go (T' := s₁) (g' := (mkF m 100 #[.val (.ref a1), .val (.long q2), .second] [(.int (1 : Int32))])) (fun t kt => ?_) ?_
  · show Steps p.tables e below (s₁.setTop (mkF m 89 #[.val (.ref a1), .val (.long q2), .second] [(.int (own_b0 q2))])) t
    refine XS.lloadN X0.here hx rfl (hb hby d3_89) rfl ?_
    show Steps p.tables e below (s₁.setTop (mkF m 90 #[.val (.ref a1), .val (.long q2), .second] [(.long q2), (.int (own_b0 q2))])) t
    refine XS.l2i X0.here hx rfl (hb hby d3_90) rfl ?_
    show Steps p.tables e below (s₁.setTop (mkF m 91 #[.val (.ref a1), .val (.long q2), .second] [(.int (q2.toInt32)), (.int (own_b0 q2))])) t
    refine XS.i2b X0.here hx rfl (hb hby d3_91) rfl ?_
    show Steps p.tables e below (s₁.setTop (mkF m 92 #[.val (.ref a1), .val (.long q2), .second] [(.int ((q2.toInt32).toInt8.toInt32)), (.int (own_b0 q2))])) t
    refine XS.icmpNo X0.here hx rfl (hb hby d3_92) rfl (teq (own_b0_eq q2 : (own_b0 q2) = ((q2.toInt32).toInt8.toInt32))).2 ?_
    show Steps p.tables e below (s₁.setTop (mkF m 95 #[.val (.ref a1), .val (.long q2), .second] [])) t
    refine XS.iconst X0.here hx rfl (hb hby d3_95) ?_
    show Steps p.tables e below (s₁.setTop (mkF m 96 #[.val (.ref a1), .val (.long q2), .second] [(.int (1 : Int32))])) t
    refine XS.goto X0.here hx rfl (pc0 := 96) (pc' := 100) rfl (hb hby d3_96) (by decide) (by decide) ?_
    exact kt
  obtain ⟨fs, hr, hrun, hended, hW, hsame⟩ := X0.leave (v := some (.int (1 : Int32))) (fun h => by rw [Bd.returns] at h; cases h)
  refine ⟨_, _, ?_, hrun, hended, _, _, rfl, ?_, ⟨_, rfl⟩, hW, hsame.mono (by decide) (by decide)⟩
  · exact retN X0 hx (t := .boolean) Bd.returns (by simp) (hb hby d3_100) hr
  · show Q_rhead0 Z _ _ _ _ h0 n0 _ s₁.heap _
    rw [e0]
    exact ⟨rfl, N0, rfl⟩
def Q_rhead1 (Z : State) (a1 : Addr) (q2 : Int64) (p3 : Int32) (kB : ClassId) (h0 : Heap) (n0 : Nat) (v : Option Value) (h : Heap) (L : List Loc) : Prop := v = some (.int (1 : Int32)) ∧ Fr n0 L ∧ h = h0
set_option maxRecDepth 65536 in
set_option maxHeartbeats 40000000 in
theorem rhead1 (l : Launch) (Z : State) (a0 : Array Value) (hw : ∀ d ∈ tables_1, d.before a0 Z = true) (ws : List Jvm.Cond) (a1 : Addr) (q2 : Int64) (p3 : Int32) (kB : ClassId) (h0 : Heap) (n0 : Nat) (Z0 : n0 ≤ h0.size) (V1 : Arv Z h0 a1 kB .byte (9 : Int32) [(.int (own_by q2 56)), (.int (own_by q2 48)), (.int (own_by q2 40)), (.int (own_by q2 32)), (.int (own_by q2 24)), (.int (own_by q2 16)), (.int (own_by q2 8)), (.int (own_b0 q2)), (.int (nar .byte (p3.toInt8.toInt32)))] (.int (0 : Int32))) :
    MetFree l (⟨"com/example/thin_table/thintable/model/KeyOrderNewestValuePinLaw", "head", "([BJ)Z"⟩ : MethodName) (head1 (Jvm.Cond.code (⟨"com/example/thin_table/thintable/model/KeyOrderNewestValuePinLaw", "head", "([BJ)Z"⟩ : MethodName) method_4_code 3 (some .boolean) :: ws) ({ frames := 0, cells := 0, slots := 0, locals := 0 } : Room)) (fun a U => a = #[(.ref a1), (.long q2)] ∧ Z.Warmed39 U.vm ∧ U.heap = h0) (fun _ _ _ _ _ => True) (fun _ U o U' => ∃ v L, o = .returned v ∧ Q_rhead1 Z a1 q2 p3 kB h0 n0 v U'.heap L ∧ FrameEnd U o U' L ({ frames := 0, cells := 0, slots := 0, locals := 0 } : Room).cells ({ frames := 0, cells := 0, slots := 0, locals := 0 } : Room).slots) := by
  refine MetFree.of_bodySF (plainFor_of_name pn_3) hisR ?_
  intro p e s m args below meth c s₁ Bd hml0 hP hK
  obtain ⟨rfl, hZ, hh⟩ := hP
  have hx := Bd.exec
  have hby := Bd.bytes
  have hml : c.maxLocals = 3 := hml0
  have hown : s.vm.findClass "com/example/thin_table/thintable/model/KeyOrderNewestValuePinLaw" = some m.cls := findClass_of_methodNamed Bd.named
  have hnm := (name_of_methodNamed Bd.named Bd.method).1
  have X0 : Stand p l e ({ frames := 0, cells := 0, slots := 0, locals := 0 } : Room) s m #[(.ref a1), (.long q2)] below meth c s₁ [] 0 0 := Stand.of_body Bd
  have e0 : s₁.heap = h0 := by rw [← hh, Bd.state]; rfl
  have N0 := Fr.nil n0
  refine own_go (g' := (mkF m 0 #[.val (.ref a1), .val (.long q2), .second] [])) (fun t k => castTop (ef_3 m (a1) (q2)) k) ?_
  refine own_go (T' := s₁) (g' := (mkF m 2 #[.val (.ref a1), .val (.long q2), .second] [(.int (0 : Int32)), (.ref a1)])) (fun t kt => ?_) ?_
  · show Steps p.tables e below (s₁.setTop (mkF m 0 #[.val (.ref a1), .val (.long q2), .second] [])) t
    refine XS.aloadN X0.here hx rfl (hb hby d3_0) rfl rfl ?_
    show Steps p.tables e below (s₁.setTop (mkF m 1 #[.val (.ref a1), .val (.long q2), .second] [(.ref a1)])) t
    refine XS.iconst X0.here hx rfl (hb hby d3_1) ?_
    exact kt
  have vq_1 := V1
  obtain ⟨c_1, a_1, q_1, s_1, m_1, H_1, G_1⟩ := vq_1
  have hin_1 : ¬ ((0 : Int32) < 0 ∨ c_1.slots.size ≤ ((0 : Int32)).toNatClampNeg) := inb_of s_1 ⟨by decide, by decide⟩
  have hat_1 : c_1.slots[((0 : Int32)).toNatClampNeg]? = some (.int (own_by q2 56)) := H_1.at hin_1 rfl
  refine own_go (T' := s₁) (g' := (mkF m 3 #[.val (.ref a1), .val (.long q2), .second] [(.int (own_by q2 56))])) (fun t kt => ?_) ?_
  · refine X0.baloadBytes hx (j := (0 : Int32)) (v := (.int (own_by q2 56))) (by rw [e0]; exact a_1.1) (State.isArrayOf_alike hZ.alike a_1.2.1) a_1.2.2 hin_1 hat_1 (g := (mkF m 2 #[.val (.ref a1), .val (.long q2), .second] [(.int (0 : Int32)), (.ref a1)])) rfl rfl (hb hby d3_2) _ ?_
    exact kt
  refine own_go (T' := s₁) (g' := (mkF m 14 #[.val (.ref a1), .val (.long q2), .second] [(.int (1 : Int32)), (.ref a1)])) (fun t kt => ?_) ?_
  · show Steps p.tables e below (s₁.setTop (mkF m 3 #[.val (.ref a1), .val (.long q2), .second] [(.int (own_by q2 56))])) t
    refine XS.lloadN X0.here hx rfl (hb hby d3_3) rfl ?_
    show Steps p.tables e below (s₁.setTop (mkF m 4 #[.val (.ref a1), .val (.long q2), .second] [(.long q2), (.int (own_by q2 56))])) t
    refine XS.bipush X0.here hx rfl (hb hby d3_4) ?_
    show Steps p.tables e below (s₁.setTop (mkF m 6 #[.val (.ref a1), .val (.long q2), .second] [(.int (56 : Int32)), (.long q2), (.int (own_by q2 56))])) t
    refine XS.lushr X0.here hx rfl (hb hby d3_6) rfl ?_
    show Steps p.tables e below (s₁.setTop (mkF m 7 #[.val (.ref a1), .val (.long q2), .second] [(.long ((q2.toUInt64 >>> ((56 : Int32) &&& 0x3f).toInt64.toUInt64).toInt64)), (.int (own_by q2 56))])) t
    refine XS.l2i X0.here hx rfl (hb hby d3_7) rfl ?_
    show Steps p.tables e below (s₁.setTop (mkF m 8 #[.val (.ref a1), .val (.long q2), .second] [(.int (((q2.toUInt64 >>> ((56 : Int32) &&& 0x3f).toInt64.toUInt64).toInt64).toInt32)), (.int (own_by q2 56))])) t
    refine XS.i2b X0.here hx rfl (hb hby d3_8) rfl ?_
    show Steps p.tables e below (s₁.setTop (mkF m 9 #[.val (.ref a1), .val (.long q2), .second] [(.int ((((q2.toUInt64 >>> ((56 : Int32) &&& 0x3f).toInt64.toUInt64).toInt64).toInt32).toInt8.toInt32)), (.int (own_by q2 56))])) t
    refine XS.icmpNo X0.here hx rfl (hb hby d3_9) rfl (teq (own_by_eq q2 56 : (own_by q2 56) = ((((q2.toUInt64 >>> ((56 : Int32) &&& 0x3f).toInt64.toUInt64).toInt64).toInt32).toInt8.toInt32))).2 ?_
    show Steps p.tables e below (s₁.setTop (mkF m 12 #[.val (.ref a1), .val (.long q2), .second] [])) t
    refine XS.aloadN X0.here hx rfl (hb hby d3_12) rfl rfl ?_
    show Steps p.tables e below (s₁.setTop (mkF m 13 #[.val (.ref a1), .val (.long q2), .second] [(.ref a1)])) t
    refine XS.iconst X0.here hx rfl (hb hby d3_13) ?_
    exact kt
  have vq_2 := V1
  obtain ⟨c_2, a_2, q_2, s_2, m_2, H_2, G_2⟩ := vq_2
  have hin_2 : ¬ ((1 : Int32) < 0 ∨ c_2.slots.size ≤ ((1 : Int32)).toNatClampNeg) := inb_of s_2 ⟨by decide, by decide⟩
  have hat_2 : c_2.slots[((1 : Int32)).toNatClampNeg]? = some (.int (own_by q2 48)) := H_2.at hin_2 rfl
  refine own_go (T' := s₁) (g' := (mkF m 15 #[.val (.ref a1), .val (.long q2), .second] [(.int (own_by q2 48))])) (fun t kt => ?_) ?_
  · refine X0.baloadBytes hx (j := (1 : Int32)) (v := (.int (own_by q2 48))) (by rw [e0]; exact a_2.1) (State.isArrayOf_alike hZ.alike a_2.2.1) a_2.2.2 hin_2 hat_2 (g := (mkF m 14 #[.val (.ref a1), .val (.long q2), .second] [(.int (1 : Int32)), (.ref a1)])) rfl rfl (hb hby d3_14) _ ?_
    exact kt
  refine own_go (T' := s₁) (g' := (mkF m 26 #[.val (.ref a1), .val (.long q2), .second] [(.int (2 : Int32)), (.ref a1)])) (fun t kt => ?_) ?_
  · show Steps p.tables e below (s₁.setTop (mkF m 15 #[.val (.ref a1), .val (.long q2), .second] [(.int (own_by q2 48))])) t
    refine XS.lloadN X0.here hx rfl (hb hby d3_15) rfl ?_
    show Steps p.tables e below (s₁.setTop (mkF m 16 #[.val (.ref a1), .val (.long q2), .second] [(.long q2), (.int (own_by q2 48))])) t
    refine XS.bipush X0.here hx rfl (hb hby d3_16) ?_
    show Steps p.tables e below (s₁.setTop (mkF m 18 #[.val (.ref a1), .val (.long q2), .second] [(.int (48 : Int32)), (.long q2), (.int (own_by q2 48))])) t
    refine XS.lushr X0.here hx rfl (hb hby d3_18) rfl ?_
    show Steps p.tables e below (s₁.setTop (mkF m 19 #[.val (.ref a1), .val (.long q2), .second] [(.long ((q2.toUInt64 >>> ((48 : Int32) &&& 0x3f).toInt64.toUInt64).toInt64)), (.int (own_by q2 48))])) t
    refine XS.l2i X0.here hx rfl (hb hby d3_19) rfl ?_
    show Steps p.tables e below (s₁.setTop (mkF m 20 #[.val (.ref a1), .val (.long q2), .second] [(.int (((q2.toUInt64 >>> ((48 : Int32) &&& 0x3f).toInt64.toUInt64).toInt64).toInt32)), (.int (own_by q2 48))])) t
    refine XS.i2b X0.here hx rfl (hb hby d3_20) rfl ?_
    show Steps p.tables e below (s₁.setTop (mkF m 21 #[.val (.ref a1), .val (.long q2), .second] [(.int ((((q2.toUInt64 >>> ((48 : Int32) &&& 0x3f).toInt64.toUInt64).toInt64).toInt32).toInt8.toInt32)), (.int (own_by q2 48))])) t
    refine XS.icmpNo X0.here hx rfl (hb hby d3_21) rfl (teq (own_by_eq q2 48 : (own_by q2 48) = ((((q2.toUInt64 >>> ((48 : Int32) &&& 0x3f).toInt64.toUInt64).toInt64).toInt32).toInt8.toInt32))).2 ?_
    show Steps p.tables e below (s₁.setTop (mkF m 24 #[.val (.ref a1), .val (.long q2), .second] [])) t
    refine XS.aloadN X0.here hx rfl (hb hby d3_24) rfl rfl ?_
    show Steps p.tables e below (s₁.setTop (mkF m 25 #[.val (.ref a1), .val (.long q2), .second] [(.ref a1)])) t
    refine XS.iconst X0.here hx rfl (hb hby d3_25) ?_
    exact kt
  have vq_3 := V1
  obtain ⟨c_3, a_3, q_3, s_3, m_3, H_3, G_3⟩ := vq_3
  have hin_3 : ¬ ((2 : Int32) < 0 ∨ c_3.slots.size ≤ ((2 : Int32)).toNatClampNeg) := inb_of s_3 ⟨by decide, by decide⟩
  have hat_3 : c_3.slots[((2 : Int32)).toNatClampNeg]? = some (.int (own_by q2 40)) := H_3.at hin_3 rfl
  refine own_go (T' := s₁) (g' := (mkF m 27 #[.val (.ref a1), .val (.long q2), .second] [(.int (own_by q2 40))])) (fun t kt => ?_) ?_
  · refine X0.baloadBytes hx (j := (2 : Int32)) (v := (.int (own_by q2 40))) (by rw [e0]; exact a_3.1) (State.isArrayOf_alike hZ.alike a_3.2.1) a_3.2.2 hin_3 hat_3 (g := (mkF m 26 #[.val (.ref a1), .val (.long q2), .second] [(.int (2 : Int32)), (.ref a1)])) rfl rfl (hb hby d3_26) _ ?_
    exact kt
  refine own_go (T' := s₁) (g' := (mkF m 38 #[.val (.ref a1), .val (.long q2), .second] [(.int (3 : Int32)), (.ref a1)])) (fun t kt => ?_) ?_
  · show Steps p.tables e below (s₁.setTop (mkF m 27 #[.val (.ref a1), .val (.long q2), .second] [(.int (own_by q2 40))])) t
    refine XS.lloadN X0.here hx rfl (hb hby d3_27) rfl ?_
    show Steps p.tables e below (s₁.setTop (mkF m 28 #[.val (.ref a1), .val (.long q2), .second] [(.long q2), (.int (own_by q2 40))])) t
    refine XS.bipush X0.here hx rfl (hb hby d3_28) ?_
    show Steps p.tables e below (s₁.setTop (mkF m 30 #[.val (.ref a1), .val (.long q2), .second] [(.int (40 : Int32)), (.long q2), (.int (own_by q2 40))])) t
    refine XS.lushr X0.here hx rfl (hb hby d3_30) rfl ?_
    show Steps p.tables e below (s₁.setTop (mkF m 31 #[.val (.ref a1), .val (.long q2), .second] [(.long ((q2.toUInt64 >>> ((40 : Int32) &&& 0x3f).toInt64.toUInt64).toInt64)), (.int (own_by q2 40))])) t
    refine XS.l2i X0.here hx rfl (hb hby d3_31) rfl ?_
    show Steps p.tables e below (s₁.setTop (mkF m 32 #[.val (.ref a1), .val (.long q2), .second] [(.int (((q2.toUInt64 >>> ((40 : Int32) &&& 0x3f).toInt64.toUInt64).toInt64).toInt32)), (.int (own_by q2 40))])) t
    refine XS.i2b X0.here hx rfl (hb hby d3_32) rfl ?_
    show Steps p.tables e below (s₁.setTop (mkF m 33 #[.val (.ref a1), .val (.long q2), .second] [(.int ((((q2.toUInt64 >>> ((40 : Int32) &&& 0x3f).toInt64.toUInt64).toInt64).toInt32).toInt8.toInt32)), (.int (own_by q2 40))])) t
    refine XS.icmpNo X0.here hx rfl (hb hby d3_33) rfl (teq (own_by_eq q2 40 : (own_by q2 40) = ((((q2.toUInt64 >>> ((40 : Int32) &&& 0x3f).toInt64.toUInt64).toInt64).toInt32).toInt8.toInt32))).2 ?_
    show Steps p.tables e below (s₁.setTop (mkF m 36 #[.val (.ref a1), .val (.long q2), .second] [])) t
    refine XS.aloadN X0.here hx rfl (hb hby d3_36) rfl rfl ?_
    show Steps p.tables e below (s₁.setTop (mkF m 37 #[.val (.ref a1), .val (.long q2), .second] [(.ref a1)])) t
    refine XS.iconst X0.here hx rfl (hb hby d3_37) ?_
    exact kt
  have vq_4 := V1
  obtain ⟨c_4, a_4, q_4, s_4, m_4, H_4, G_4⟩ := vq_4
  have hin_4 : ¬ ((3 : Int32) < 0 ∨ c_4.slots.size ≤ ((3 : Int32)).toNatClampNeg) := inb_of s_4 ⟨by decide, by decide⟩
  have hat_4 : c_4.slots[((3 : Int32)).toNatClampNeg]? = some (.int (own_by q2 32)) := H_4.at hin_4 rfl
  refine own_go (T' := s₁) (g' := (mkF m 39 #[.val (.ref a1), .val (.long q2), .second] [(.int (own_by q2 32))])) (fun t kt => ?_) ?_
  · refine X0.baloadBytes hx (j := (3 : Int32)) (v := (.int (own_by q2 32))) (by rw [e0]; exact a_4.1) (State.isArrayOf_alike hZ.alike a_4.2.1) a_4.2.2 hin_4 hat_4 (g := (mkF m 38 #[.val (.ref a1), .val (.long q2), .second] [(.int (3 : Int32)), (.ref a1)])) rfl rfl (hb hby d3_38) _ ?_
    exact kt
  refine own_go (T' := s₁) (g' := (mkF m 50 #[.val (.ref a1), .val (.long q2), .second] [(.int (4 : Int32)), (.ref a1)])) (fun t kt => ?_) ?_
  · show Steps p.tables e below (s₁.setTop (mkF m 39 #[.val (.ref a1), .val (.long q2), .second] [(.int (own_by q2 32))])) t
    refine XS.lloadN X0.here hx rfl (hb hby d3_39) rfl ?_
    show Steps p.tables e below (s₁.setTop (mkF m 40 #[.val (.ref a1), .val (.long q2), .second] [(.long q2), (.int (own_by q2 32))])) t
    refine XS.bipush X0.here hx rfl (hb hby d3_40) ?_
    show Steps p.tables e below (s₁.setTop (mkF m 42 #[.val (.ref a1), .val (.long q2), .second] [(.int (32 : Int32)), (.long q2), (.int (own_by q2 32))])) t
    refine XS.lushr X0.here hx rfl (hb hby d3_42) rfl ?_
    show Steps p.tables e below (s₁.setTop (mkF m 43 #[.val (.ref a1), .val (.long q2), .second] [(.long ((q2.toUInt64 >>> ((32 : Int32) &&& 0x3f).toInt64.toUInt64).toInt64)), (.int (own_by q2 32))])) t
    refine XS.l2i X0.here hx rfl (hb hby d3_43) rfl ?_
    show Steps p.tables e below (s₁.setTop (mkF m 44 #[.val (.ref a1), .val (.long q2), .second] [(.int (((q2.toUInt64 >>> ((32 : Int32) &&& 0x3f).toInt64.toUInt64).toInt64).toInt32)), (.int (own_by q2 32))])) t
    refine XS.i2b X0.here hx rfl (hb hby d3_44) rfl ?_
    show Steps p.tables e below (s₁.setTop (mkF m 45 #[.val (.ref a1), .val (.long q2), .second] [(.int ((((q2.toUInt64 >>> ((32 : Int32) &&& 0x3f).toInt64.toUInt64).toInt64).toInt32).toInt8.toInt32)), (.int (own_by q2 32))])) t
    refine XS.icmpNo X0.here hx rfl (hb hby d3_45) rfl (teq (own_by_eq q2 32 : (own_by q2 32) = ((((q2.toUInt64 >>> ((32 : Int32) &&& 0x3f).toInt64.toUInt64).toInt64).toInt32).toInt8.toInt32))).2 ?_
    show Steps p.tables e below (s₁.setTop (mkF m 48 #[.val (.ref a1), .val (.long q2), .second] [])) t
    refine XS.aloadN X0.here hx rfl (hb hby d3_48) rfl rfl ?_
    show Steps p.tables e below (s₁.setTop (mkF m 49 #[.val (.ref a1), .val (.long q2), .second] [(.ref a1)])) t
    refine XS.iconst X0.here hx rfl (hb hby d3_49) ?_
    exact kt
  have vq_5 := V1
  obtain ⟨c_5, a_5, q_5, s_5, m_5, H_5, G_5⟩ := vq_5
  have hin_5 : ¬ ((4 : Int32) < 0 ∨ c_5.slots.size ≤ ((4 : Int32)).toNatClampNeg) := inb_of s_5 ⟨by decide, by decide⟩
  have hat_5 : c_5.slots[((4 : Int32)).toNatClampNeg]? = some (.int (own_by q2 24)) := H_5.at hin_5 rfl
  refine own_go (T' := s₁) (g' := (mkF m 51 #[.val (.ref a1), .val (.long q2), .second] [(.int (own_by q2 24))])) (fun t kt => ?_) ?_
  · refine X0.baloadBytes hx (j := (4 : Int32)) (v := (.int (own_by q2 24))) (by rw [e0]; exact a_5.1) (State.isArrayOf_alike hZ.alike a_5.2.1) a_5.2.2 hin_5 hat_5 (g := (mkF m 50 #[.val (.ref a1), .val (.long q2), .second] [(.int (4 : Int32)), (.ref a1)])) rfl rfl (hb hby d3_50) _ ?_
    exact kt
  refine own_go (T' := s₁) (g' := (mkF m 62 #[.val (.ref a1), .val (.long q2), .second] [(.int (5 : Int32)), (.ref a1)])) (fun t kt => ?_) ?_
  · show Steps p.tables e below (s₁.setTop (mkF m 51 #[.val (.ref a1), .val (.long q2), .second] [(.int (own_by q2 24))])) t
    refine XS.lloadN X0.here hx rfl (hb hby d3_51) rfl ?_
    show Steps p.tables e below (s₁.setTop (mkF m 52 #[.val (.ref a1), .val (.long q2), .second] [(.long q2), (.int (own_by q2 24))])) t
    refine XS.bipush X0.here hx rfl (hb hby d3_52) ?_
    show Steps p.tables e below (s₁.setTop (mkF m 54 #[.val (.ref a1), .val (.long q2), .second] [(.int (24 : Int32)), (.long q2), (.int (own_by q2 24))])) t
    refine XS.lushr X0.here hx rfl (hb hby d3_54) rfl ?_
    show Steps p.tables e below (s₁.setTop (mkF m 55 #[.val (.ref a1), .val (.long q2), .second] [(.long ((q2.toUInt64 >>> ((24 : Int32) &&& 0x3f).toInt64.toUInt64).toInt64)), (.int (own_by q2 24))])) t
    refine XS.l2i X0.here hx rfl (hb hby d3_55) rfl ?_
    show Steps p.tables e below (s₁.setTop (mkF m 56 #[.val (.ref a1), .val (.long q2), .second] [(.int (((q2.toUInt64 >>> ((24 : Int32) &&& 0x3f).toInt64.toUInt64).toInt64).toInt32)), (.int (own_by q2 24))])) t
    refine XS.i2b X0.here hx rfl (hb hby d3_56) rfl ?_
    show Steps p.tables e below (s₁.setTop (mkF m 57 #[.val (.ref a1), .val (.long q2), .second] [(.int ((((q2.toUInt64 >>> ((24 : Int32) &&& 0x3f).toInt64.toUInt64).toInt64).toInt32).toInt8.toInt32)), (.int (own_by q2 24))])) t
    refine XS.icmpNo X0.here hx rfl (hb hby d3_57) rfl (teq (own_by_eq q2 24 : (own_by q2 24) = ((((q2.toUInt64 >>> ((24 : Int32) &&& 0x3f).toInt64.toUInt64).toInt64).toInt32).toInt8.toInt32))).2 ?_
    show Steps p.tables e below (s₁.setTop (mkF m 60 #[.val (.ref a1), .val (.long q2), .second] [])) t
    refine XS.aloadN X0.here hx rfl (hb hby d3_60) rfl rfl ?_
    show Steps p.tables e below (s₁.setTop (mkF m 61 #[.val (.ref a1), .val (.long q2), .second] [(.ref a1)])) t
    refine XS.iconst X0.here hx rfl (hb hby d3_61) ?_
    exact kt
  have vq_6 := V1
  obtain ⟨c_6, a_6, q_6, s_6, m_6, H_6, G_6⟩ := vq_6
  have hin_6 : ¬ ((5 : Int32) < 0 ∨ c_6.slots.size ≤ ((5 : Int32)).toNatClampNeg) := inb_of s_6 ⟨by decide, by decide⟩
  have hat_6 : c_6.slots[((5 : Int32)).toNatClampNeg]? = some (.int (own_by q2 16)) := H_6.at hin_6 rfl
  refine own_go (T' := s₁) (g' := (mkF m 63 #[.val (.ref a1), .val (.long q2), .second] [(.int (own_by q2 16))])) (fun t kt => ?_) ?_
  · refine X0.baloadBytes hx (j := (5 : Int32)) (v := (.int (own_by q2 16))) (by rw [e0]; exact a_6.1) (State.isArrayOf_alike hZ.alike a_6.2.1) a_6.2.2 hin_6 hat_6 (g := (mkF m 62 #[.val (.ref a1), .val (.long q2), .second] [(.int (5 : Int32)), (.ref a1)])) rfl rfl (hb hby d3_62) _ ?_
    exact kt
  refine own_go (T' := s₁) (g' := (mkF m 75 #[.val (.ref a1), .val (.long q2), .second] [(.int (6 : Int32)), (.ref a1)])) (fun t kt => ?_) ?_
  · show Steps p.tables e below (s₁.setTop (mkF m 63 #[.val (.ref a1), .val (.long q2), .second] [(.int (own_by q2 16))])) t
    refine XS.lloadN X0.here hx rfl (hb hby d3_63) rfl ?_
    show Steps p.tables e below (s₁.setTop (mkF m 64 #[.val (.ref a1), .val (.long q2), .second] [(.long q2), (.int (own_by q2 16))])) t
    refine XS.bipush X0.here hx rfl (hb hby d3_64) ?_
    show Steps p.tables e below (s₁.setTop (mkF m 66 #[.val (.ref a1), .val (.long q2), .second] [(.int (16 : Int32)), (.long q2), (.int (own_by q2 16))])) t
    refine XS.lushr X0.here hx rfl (hb hby d3_66) rfl ?_
    show Steps p.tables e below (s₁.setTop (mkF m 67 #[.val (.ref a1), .val (.long q2), .second] [(.long ((q2.toUInt64 >>> ((16 : Int32) &&& 0x3f).toInt64.toUInt64).toInt64)), (.int (own_by q2 16))])) t
    refine XS.l2i X0.here hx rfl (hb hby d3_67) rfl ?_
    show Steps p.tables e below (s₁.setTop (mkF m 68 #[.val (.ref a1), .val (.long q2), .second] [(.int (((q2.toUInt64 >>> ((16 : Int32) &&& 0x3f).toInt64.toUInt64).toInt64).toInt32)), (.int (own_by q2 16))])) t
    refine XS.i2b X0.here hx rfl (hb hby d3_68) rfl ?_
    show Steps p.tables e below (s₁.setTop (mkF m 69 #[.val (.ref a1), .val (.long q2), .second] [(.int ((((q2.toUInt64 >>> ((16 : Int32) &&& 0x3f).toInt64.toUInt64).toInt64).toInt32).toInt8.toInt32)), (.int (own_by q2 16))])) t
    refine XS.icmpNo X0.here hx rfl (hb hby d3_69) rfl (teq (own_by_eq q2 16 : (own_by q2 16) = ((((q2.toUInt64 >>> ((16 : Int32) &&& 0x3f).toInt64.toUInt64).toInt64).toInt32).toInt8.toInt32))).2 ?_
    show Steps p.tables e below (s₁.setTop (mkF m 72 #[.val (.ref a1), .val (.long q2), .second] [])) t
    refine XS.aloadN X0.here hx rfl (hb hby d3_72) rfl rfl ?_
    show Steps p.tables e below (s₁.setTop (mkF m 73 #[.val (.ref a1), .val (.long q2), .second] [(.ref a1)])) t
    refine XS.bipush X0.here hx rfl (hb hby d3_73) ?_
    exact kt
  have vq_7 := V1
  obtain ⟨c_7, a_7, q_7, s_7, m_7, H_7, G_7⟩ := vq_7
  have hin_7 : ¬ ((6 : Int32) < 0 ∨ c_7.slots.size ≤ ((6 : Int32)).toNatClampNeg) := inb_of s_7 ⟨by decide, by decide⟩
  have hat_7 : c_7.slots[((6 : Int32)).toNatClampNeg]? = some (.int (own_by q2 8)) := H_7.at hin_7 rfl
  refine own_go (T' := s₁) (g' := (mkF m 76 #[.val (.ref a1), .val (.long q2), .second] [(.int (own_by q2 8))])) (fun t kt => ?_) ?_
  · refine X0.baloadBytes hx (j := (6 : Int32)) (v := (.int (own_by q2 8))) (by rw [e0]; exact a_7.1) (State.isArrayOf_alike hZ.alike a_7.2.1) a_7.2.2 hin_7 hat_7 (g := (mkF m 75 #[.val (.ref a1), .val (.long q2), .second] [(.int (6 : Int32)), (.ref a1)])) rfl rfl (hb hby d3_75) _ ?_
    exact kt
  refine own_go (T' := s₁) (g' := (mkF m 88 #[.val (.ref a1), .val (.long q2), .second] [(.int (7 : Int32)), (.ref a1)])) (fun t kt => ?_) ?_
  · show Steps p.tables e below (s₁.setTop (mkF m 76 #[.val (.ref a1), .val (.long q2), .second] [(.int (own_by q2 8))])) t
    refine XS.lloadN X0.here hx rfl (hb hby d3_76) rfl ?_
    show Steps p.tables e below (s₁.setTop (mkF m 77 #[.val (.ref a1), .val (.long q2), .second] [(.long q2), (.int (own_by q2 8))])) t
    refine XS.bipush X0.here hx rfl (hb hby d3_77) ?_
    show Steps p.tables e below (s₁.setTop (mkF m 79 #[.val (.ref a1), .val (.long q2), .second] [(.int (8 : Int32)), (.long q2), (.int (own_by q2 8))])) t
    refine XS.lushr X0.here hx rfl (hb hby d3_79) rfl ?_
    show Steps p.tables e below (s₁.setTop (mkF m 80 #[.val (.ref a1), .val (.long q2), .second] [(.long ((q2.toUInt64 >>> ((8 : Int32) &&& 0x3f).toInt64.toUInt64).toInt64)), (.int (own_by q2 8))])) t
    refine XS.l2i X0.here hx rfl (hb hby d3_80) rfl ?_
    show Steps p.tables e below (s₁.setTop (mkF m 81 #[.val (.ref a1), .val (.long q2), .second] [(.int (((q2.toUInt64 >>> ((8 : Int32) &&& 0x3f).toInt64.toUInt64).toInt64).toInt32)), (.int (own_by q2 8))])) t
    refine XS.i2b X0.here hx rfl (hb hby d3_81) rfl ?_
    show Steps p.tables e below (s₁.setTop (mkF m 82 #[.val (.ref a1), .val (.long q2), .second] [(.int ((((q2.toUInt64 >>> ((8 : Int32) &&& 0x3f).toInt64.toUInt64).toInt64).toInt32).toInt8.toInt32)), (.int (own_by q2 8))])) t
    refine XS.icmpNo X0.here hx rfl (hb hby d3_82) rfl (teq (own_by_eq q2 8 : (own_by q2 8) = ((((q2.toUInt64 >>> ((8 : Int32) &&& 0x3f).toInt64.toUInt64).toInt64).toInt32).toInt8.toInt32))).2 ?_
    show Steps p.tables e below (s₁.setTop (mkF m 85 #[.val (.ref a1), .val (.long q2), .second] [])) t
    refine XS.aloadN X0.here hx rfl (hb hby d3_85) rfl rfl ?_
    show Steps p.tables e below (s₁.setTop (mkF m 86 #[.val (.ref a1), .val (.long q2), .second] [(.ref a1)])) t
    refine XS.bipush X0.here hx rfl (hb hby d3_86) ?_
    exact kt
  have vq_8 := V1
  obtain ⟨c_8, a_8, q_8, s_8, m_8, H_8, G_8⟩ := vq_8
  have hin_8 : ¬ ((7 : Int32) < 0 ∨ c_8.slots.size ≤ ((7 : Int32)).toNatClampNeg) := inb_of s_8 ⟨by decide, by decide⟩
  have hat_8 : c_8.slots[((7 : Int32)).toNatClampNeg]? = some (.int (own_b0 q2)) := H_8.at hin_8 rfl
  refine own_go (T' := s₁) (g' := (mkF m 89 #[.val (.ref a1), .val (.long q2), .second] [(.int (own_b0 q2))])) (fun t kt => ?_) ?_
  · refine X0.baloadBytes hx (j := (7 : Int32)) (v := (.int (own_b0 q2))) (by rw [e0]; exact a_8.1) (State.isArrayOf_alike hZ.alike a_8.2.1) a_8.2.2 hin_8 hat_8 (g := (mkF m 88 #[.val (.ref a1), .val (.long q2), .second] [(.int (7 : Int32)), (.ref a1)])) rfl rfl (hb hby d3_88) _ ?_
    exact kt
  refine own_go (T' := s₁) (g' := (mkF m 100 #[.val (.ref a1), .val (.long q2), .second] [(.int (1 : Int32))])) (fun t kt => ?_) ?_
  · show Steps p.tables e below (s₁.setTop (mkF m 89 #[.val (.ref a1), .val (.long q2), .second] [(.int (own_b0 q2))])) t
    refine XS.lloadN X0.here hx rfl (hb hby d3_89) rfl ?_
    show Steps p.tables e below (s₁.setTop (mkF m 90 #[.val (.ref a1), .val (.long q2), .second] [(.long q2), (.int (own_b0 q2))])) t
    refine XS.l2i X0.here hx rfl (hb hby d3_90) rfl ?_
    show Steps p.tables e below (s₁.setTop (mkF m 91 #[.val (.ref a1), .val (.long q2), .second] [(.int (q2.toInt32)), (.int (own_b0 q2))])) t
    refine XS.i2b X0.here hx rfl (hb hby d3_91) rfl ?_
    show Steps p.tables e below (s₁.setTop (mkF m 92 #[.val (.ref a1), .val (.long q2), .second] [(.int ((q2.toInt32).toInt8.toInt32)), (.int (own_b0 q2))])) t
    refine XS.icmpNo X0.here hx rfl (hb hby d3_92) rfl (teq (own_b0_eq q2 : (own_b0 q2) = ((q2.toInt32).toInt8.toInt32))).2 ?_
    show Steps p.tables e below (s₁.setTop (mkF m 95 #[.val (.ref a1), .val (.long q2), .second] [])) t
    refine XS.iconst X0.here hx rfl (hb hby d3_95) ?_
    show Steps p.tables e below (s₁.setTop (mkF m 96 #[.val (.ref a1), .val (.long q2), .second] [(.int (1 : Int32))])) t
    refine XS.goto X0.here hx rfl (pc0 := 96) (pc' := 100) rfl (hb hby d3_96) (by decide) (by decide) ?_
    exact kt
  obtain ⟨fs, hr, hrun, hended, hW, hsame⟩ := X0.leave (v := some (.int (1 : Int32))) (fun h => by rw [Bd.returns] at h; cases h)
  refine ⟨_, _, ?_, hrun, hended, _, _, rfl, ?_, ⟨_, rfl⟩, hW, hsame.mono (by decide) (by decide)⟩
  · exact retN X0 hx (t := .boolean) Bd.returns (by simp) (hb hby d3_100) hr
  · show Q_rhead1 Z _ _ _ _ h0 n0 _ s₁.heap _
    rw [e0]
    exact ⟨rfl, N0, rfl⟩
def Q_rhead2 (Z : State) (a1 : Addr) (q2 : Int64) (p3 : Int32) (kB : ClassId) (h0 : Heap) (n0 : Nat) (v : Option Value) (h : Heap) (L : List Loc) : Prop := v = some (.int (1 : Int32)) ∧ Fr n0 L ∧ h = h0
set_option maxRecDepth 65536 in
set_option maxHeartbeats 40000000 in
theorem rhead2 (l : Launch) (Z : State) (a0 : Array Value) (hw : ∀ d ∈ tables_1, d.before a0 Z = true) (ws : List Jvm.Cond) (a1 : Addr) (q2 : Int64) (p3 : Int32) (kB : ClassId) (h0 : Heap) (n0 : Nat) (Z0 : n0 ≤ h0.size) (V1 : Arv Z h0 a1 kB .byte (10 : Int32) [(.int (own_by q2 56)), (.int (own_by q2 48)), (.int (own_by q2 40)), (.int (own_by q2 32)), (.int (own_by q2 24)), (.int (own_by q2 16)), (.int (own_by q2 8)), (.int (own_b0 q2)), (.int (nar .byte (p3.toInt8.toInt32))), (.int (nar .byte (((p3.toUInt32 >>> ((8 : Int32) &&& 31).toUInt32).toInt32).toInt8.toInt32)))] (.int (0 : Int32))) :
    MetFree l (⟨"com/example/thin_table/thintable/model/KeyOrderNewestValuePinLaw", "head", "([BJ)Z"⟩ : MethodName) (head1 (Jvm.Cond.code (⟨"com/example/thin_table/thintable/model/KeyOrderNewestValuePinLaw", "head", "([BJ)Z"⟩ : MethodName) method_4_code 3 (some .boolean) :: ws) ({ frames := 0, cells := 0, slots := 0, locals := 0 } : Room)) (fun a U => a = #[(.ref a1), (.long q2)] ∧ Z.Warmed39 U.vm ∧ U.heap = h0) (fun _ _ _ _ _ => True) (fun _ U o U' => ∃ v L, o = .returned v ∧ Q_rhead2 Z a1 q2 p3 kB h0 n0 v U'.heap L ∧ FrameEnd U o U' L ({ frames := 0, cells := 0, slots := 0, locals := 0 } : Room).cells ({ frames := 0, cells := 0, slots := 0, locals := 0 } : Room).slots) := by
  refine MetFree.of_bodySF (plainFor_of_name pn_3) hisR ?_
  intro p e s m args below meth c s₁ Bd hml0 hP hK
  obtain ⟨rfl, hZ, hh⟩ := hP
  have hx := Bd.exec
  have hby := Bd.bytes
  have hml : c.maxLocals = 3 := hml0
  have hown : s.vm.findClass "com/example/thin_table/thintable/model/KeyOrderNewestValuePinLaw" = some m.cls := findClass_of_methodNamed Bd.named
  have hnm := (name_of_methodNamed Bd.named Bd.method).1
  have X0 : Stand p l e ({ frames := 0, cells := 0, slots := 0, locals := 0 } : Room) s m #[(.ref a1), (.long q2)] below meth c s₁ [] 0 0 := Stand.of_body Bd
  have e0 : s₁.heap = h0 := by rw [← hh, Bd.state]; rfl
  have N0 := Fr.nil n0
  refine own_go (g' := (mkF m 0 #[.val (.ref a1), .val (.long q2), .second] [])) (fun t k => castTop (ef_3 m (a1) (q2)) k) ?_
  refine own_go (T' := s₁) (g' := (mkF m 2 #[.val (.ref a1), .val (.long q2), .second] [(.int (0 : Int32)), (.ref a1)])) (fun t kt => ?_) ?_
  · show Steps p.tables e below (s₁.setTop (mkF m 0 #[.val (.ref a1), .val (.long q2), .second] [])) t
    refine XS.aloadN X0.here hx rfl (hb hby d3_0) rfl rfl ?_
    show Steps p.tables e below (s₁.setTop (mkF m 1 #[.val (.ref a1), .val (.long q2), .second] [(.ref a1)])) t
    refine XS.iconst X0.here hx rfl (hb hby d3_1) ?_
    exact kt
  have vq_1 := V1
  obtain ⟨c_1, a_1, q_1, s_1, m_1, H_1, G_1⟩ := vq_1
  have hin_1 : ¬ ((0 : Int32) < 0 ∨ c_1.slots.size ≤ ((0 : Int32)).toNatClampNeg) := inb_of s_1 ⟨by decide, by decide⟩
  have hat_1 : c_1.slots[((0 : Int32)).toNatClampNeg]? = some (.int (own_by q2 56)) := H_1.at hin_1 rfl
  refine own_go (T' := s₁) (g' := (mkF m 3 #[.val (.ref a1), .val (.long q2), .second] [(.int (own_by q2 56))])) (fun t kt => ?_) ?_
  · refine X0.baloadBytes hx (j := (0 : Int32)) (v := (.int (own_by q2 56))) (by rw [e0]; exact a_1.1) (State.isArrayOf_alike hZ.alike a_1.2.1) a_1.2.2 hin_1 hat_1 (g := (mkF m 2 #[.val (.ref a1), .val (.long q2), .second] [(.int (0 : Int32)), (.ref a1)])) rfl rfl (hb hby d3_2) _ ?_
    exact kt
  refine own_go (T' := s₁) (g' := (mkF m 14 #[.val (.ref a1), .val (.long q2), .second] [(.int (1 : Int32)), (.ref a1)])) (fun t kt => ?_) ?_
  · show Steps p.tables e below (s₁.setTop (mkF m 3 #[.val (.ref a1), .val (.long q2), .second] [(.int (own_by q2 56))])) t
    refine XS.lloadN X0.here hx rfl (hb hby d3_3) rfl ?_
    show Steps p.tables e below (s₁.setTop (mkF m 4 #[.val (.ref a1), .val (.long q2), .second] [(.long q2), (.int (own_by q2 56))])) t
    refine XS.bipush X0.here hx rfl (hb hby d3_4) ?_
    show Steps p.tables e below (s₁.setTop (mkF m 6 #[.val (.ref a1), .val (.long q2), .second] [(.int (56 : Int32)), (.long q2), (.int (own_by q2 56))])) t
    refine XS.lushr X0.here hx rfl (hb hby d3_6) rfl ?_
    show Steps p.tables e below (s₁.setTop (mkF m 7 #[.val (.ref a1), .val (.long q2), .second] [(.long ((q2.toUInt64 >>> ((56 : Int32) &&& 0x3f).toInt64.toUInt64).toInt64)), (.int (own_by q2 56))])) t
    refine XS.l2i X0.here hx rfl (hb hby d3_7) rfl ?_
    show Steps p.tables e below (s₁.setTop (mkF m 8 #[.val (.ref a1), .val (.long q2), .second] [(.int (((q2.toUInt64 >>> ((56 : Int32) &&& 0x3f).toInt64.toUInt64).toInt64).toInt32)), (.int (own_by q2 56))])) t
    refine XS.i2b X0.here hx rfl (hb hby d3_8) rfl ?_
    show Steps p.tables e below (s₁.setTop (mkF m 9 #[.val (.ref a1), .val (.long q2), .second] [(.int ((((q2.toUInt64 >>> ((56 : Int32) &&& 0x3f).toInt64.toUInt64).toInt64).toInt32).toInt8.toInt32)), (.int (own_by q2 56))])) t
    refine XS.icmpNo X0.here hx rfl (hb hby d3_9) rfl (teq (own_by_eq q2 56 : (own_by q2 56) = ((((q2.toUInt64 >>> ((56 : Int32) &&& 0x3f).toInt64.toUInt64).toInt64).toInt32).toInt8.toInt32))).2 ?_
    show Steps p.tables e below (s₁.setTop (mkF m 12 #[.val (.ref a1), .val (.long q2), .second] [])) t
    refine XS.aloadN X0.here hx rfl (hb hby d3_12) rfl rfl ?_
    show Steps p.tables e below (s₁.setTop (mkF m 13 #[.val (.ref a1), .val (.long q2), .second] [(.ref a1)])) t
    refine XS.iconst X0.here hx rfl (hb hby d3_13) ?_
    exact kt
  have vq_2 := V1
  obtain ⟨c_2, a_2, q_2, s_2, m_2, H_2, G_2⟩ := vq_2
  have hin_2 : ¬ ((1 : Int32) < 0 ∨ c_2.slots.size ≤ ((1 : Int32)).toNatClampNeg) := inb_of s_2 ⟨by decide, by decide⟩
  have hat_2 : c_2.slots[((1 : Int32)).toNatClampNeg]? = some (.int (own_by q2 48)) := H_2.at hin_2 rfl
  refine own_go (T' := s₁) (g' := (mkF m 15 #[.val (.ref a1), .val (.long q2), .second] [(.int (own_by q2 48))])) (fun t kt => ?_) ?_
  · refine X0.baloadBytes hx (j := (1 : Int32)) (v := (.int (own_by q2 48))) (by rw [e0]; exact a_2.1) (State.isArrayOf_alike hZ.alike a_2.2.1) a_2.2.2 hin_2 hat_2 (g := (mkF m 14 #[.val (.ref a1), .val (.long q2), .second] [(.int (1 : Int32)), (.ref a1)])) rfl rfl (hb hby d3_14) _ ?_
    exact kt
  refine own_go (T' := s₁) (g' := (mkF m 26 #[.val (.ref a1), .val (.long q2), .second] [(.int (2 : Int32)), (.ref a1)])) (fun t kt => ?_) ?_
  · show Steps p.tables e below (s₁.setTop (mkF m 15 #[.val (.ref a1), .val (.long q2), .second] [(.int (own_by q2 48))])) t
    refine XS.lloadN X0.here hx rfl (hb hby d3_15) rfl ?_
    show Steps p.tables e below (s₁.setTop (mkF m 16 #[.val (.ref a1), .val (.long q2), .second] [(.long q2), (.int (own_by q2 48))])) t
    refine XS.bipush X0.here hx rfl (hb hby d3_16) ?_
    show Steps p.tables e below (s₁.setTop (mkF m 18 #[.val (.ref a1), .val (.long q2), .second] [(.int (48 : Int32)), (.long q2), (.int (own_by q2 48))])) t
    refine XS.lushr X0.here hx rfl (hb hby d3_18) rfl ?_
    show Steps p.tables e below (s₁.setTop (mkF m 19 #[.val (.ref a1), .val (.long q2), .second] [(.long ((q2.toUInt64 >>> ((48 : Int32) &&& 0x3f).toInt64.toUInt64).toInt64)), (.int (own_by q2 48))])) t
    refine XS.l2i X0.here hx rfl (hb hby d3_19) rfl ?_
    show Steps p.tables e below (s₁.setTop (mkF m 20 #[.val (.ref a1), .val (.long q2), .second] [(.int (((q2.toUInt64 >>> ((48 : Int32) &&& 0x3f).toInt64.toUInt64).toInt64).toInt32)), (.int (own_by q2 48))])) t
    refine XS.i2b X0.here hx rfl (hb hby d3_20) rfl ?_
    show Steps p.tables e below (s₁.setTop (mkF m 21 #[.val (.ref a1), .val (.long q2), .second] [(.int ((((q2.toUInt64 >>> ((48 : Int32) &&& 0x3f).toInt64.toUInt64).toInt64).toInt32).toInt8.toInt32)), (.int (own_by q2 48))])) t
    refine XS.icmpNo X0.here hx rfl (hb hby d3_21) rfl (teq (own_by_eq q2 48 : (own_by q2 48) = ((((q2.toUInt64 >>> ((48 : Int32) &&& 0x3f).toInt64.toUInt64).toInt64).toInt32).toInt8.toInt32))).2 ?_
    show Steps p.tables e below (s₁.setTop (mkF m 24 #[.val (.ref a1), .val (.long q2), .second] [])) t
    refine XS.aloadN X0.here hx rfl (hb hby d3_24) rfl rfl ?_
    show Steps p.tables e below (s₁.setTop (mkF m 25 #[.val (.ref a1), .val (.long q2), .second] [(.ref a1)])) t
    refine XS.iconst X0.here hx rfl (hb hby d3_25) ?_
    exact kt
  have vq_3 := V1
  obtain ⟨c_3, a_3, q_3, s_3, m_3, H_3, G_3⟩ := vq_3
  have hin_3 : ¬ ((2 : Int32) < 0 ∨ c_3.slots.size ≤ ((2 : Int32)).toNatClampNeg) := inb_of s_3 ⟨by decide, by decide⟩
  have hat_3 : c_3.slots[((2 : Int32)).toNatClampNeg]? = some (.int (own_by q2 40)) := H_3.at hin_3 rfl
  refine own_go (T' := s₁) (g' := (mkF m 27 #[.val (.ref a1), .val (.long q2), .second] [(.int (own_by q2 40))])) (fun t kt => ?_) ?_
  · refine X0.baloadBytes hx (j := (2 : Int32)) (v := (.int (own_by q2 40))) (by rw [e0]; exact a_3.1) (State.isArrayOf_alike hZ.alike a_3.2.1) a_3.2.2 hin_3 hat_3 (g := (mkF m 26 #[.val (.ref a1), .val (.long q2), .second] [(.int (2 : Int32)), (.ref a1)])) rfl rfl (hb hby d3_26) _ ?_
    exact kt
  refine own_go (T' := s₁) (g' := (mkF m 38 #[.val (.ref a1), .val (.long q2), .second] [(.int (3 : Int32)), (.ref a1)])) (fun t kt => ?_) ?_
  · show Steps p.tables e below (s₁.setTop (mkF m 27 #[.val (.ref a1), .val (.long q2), .second] [(.int (own_by q2 40))])) t
    refine XS.lloadN X0.here hx rfl (hb hby d3_27) rfl ?_
    show Steps p.tables e below (s₁.setTop (mkF m 28 #[.val (.ref a1), .val (.long q2), .second] [(.long q2), (.int (own_by q2 40))])) t
    refine XS.bipush X0.here hx rfl (hb hby d3_28) ?_
    show Steps p.tables e below (s₁.setTop (mkF m 30 #[.val (.ref a1), .val (.long q2), .second] [(.int (40 : Int32)), (.long q2), (.int (own_by q2 40))])) t
    refine XS.lushr X0.here hx rfl (hb hby d3_30) rfl ?_
    show Steps p.tables e below (s₁.setTop (mkF m 31 #[.val (.ref a1), .val (.long q2), .second] [(.long ((q2.toUInt64 >>> ((40 : Int32) &&& 0x3f).toInt64.toUInt64).toInt64)), (.int (own_by q2 40))])) t
    refine XS.l2i X0.here hx rfl (hb hby d3_31) rfl ?_
    show Steps p.tables e below (s₁.setTop (mkF m 32 #[.val (.ref a1), .val (.long q2), .second] [(.int (((q2.toUInt64 >>> ((40 : Int32) &&& 0x3f).toInt64.toUInt64).toInt64).toInt32)), (.int (own_by q2 40))])) t
    refine XS.i2b X0.here hx rfl (hb hby d3_32) rfl ?_
    show Steps p.tables e below (s₁.setTop (mkF m 33 #[.val (.ref a1), .val (.long q2), .second] [(.int ((((q2.toUInt64 >>> ((40 : Int32) &&& 0x3f).toInt64.toUInt64).toInt64).toInt32).toInt8.toInt32)), (.int (own_by q2 40))])) t
    refine XS.icmpNo X0.here hx rfl (hb hby d3_33) rfl (teq (own_by_eq q2 40 : (own_by q2 40) = ((((q2.toUInt64 >>> ((40 : Int32) &&& 0x3f).toInt64.toUInt64).toInt64).toInt32).toInt8.toInt32))).2 ?_
    show Steps p.tables e below (s₁.setTop (mkF m 36 #[.val (.ref a1), .val (.long q2), .second] [])) t
    refine XS.aloadN X0.here hx rfl (hb hby d3_36) rfl rfl ?_
    show Steps p.tables e below (s₁.setTop (mkF m 37 #[.val (.ref a1), .val (.long q2), .second] [(.ref a1)])) t
    refine XS.iconst X0.here hx rfl (hb hby d3_37) ?_
    exact kt
  have vq_4 := V1
  obtain ⟨c_4, a_4, q_4, s_4, m_4, H_4, G_4⟩ := vq_4
  have hin_4 : ¬ ((3 : Int32) < 0 ∨ c_4.slots.size ≤ ((3 : Int32)).toNatClampNeg) := inb_of s_4 ⟨by decide, by decide⟩
  have hat_4 : c_4.slots[((3 : Int32)).toNatClampNeg]? = some (.int (own_by q2 32)) := H_4.at hin_4 rfl
  refine own_go (T' := s₁) (g' := (mkF m 39 #[.val (.ref a1), .val (.long q2), .second] [(.int (own_by q2 32))])) (fun t kt => ?_) ?_
  · refine X0.baloadBytes hx (j := (3 : Int32)) (v := (.int (own_by q2 32))) (by rw [e0]; exact a_4.1) (State.isArrayOf_alike hZ.alike a_4.2.1) a_4.2.2 hin_4 hat_4 (g := (mkF m 38 #[.val (.ref a1), .val (.long q2), .second] [(.int (3 : Int32)), (.ref a1)])) rfl rfl (hb hby d3_38) _ ?_
    exact kt
  refine own_go (T' := s₁) (g' := (mkF m 50 #[.val (.ref a1), .val (.long q2), .second] [(.int (4 : Int32)), (.ref a1)])) (fun t kt => ?_) ?_
  · show Steps p.tables e below (s₁.setTop (mkF m 39 #[.val (.ref a1), .val (.long q2), .second] [(.int (own_by q2 32))])) t
    refine XS.lloadN X0.here hx rfl (hb hby d3_39) rfl ?_
    show Steps p.tables e below (s₁.setTop (mkF m 40 #[.val (.ref a1), .val (.long q2), .second] [(.long q2), (.int (own_by q2 32))])) t
    refine XS.bipush X0.here hx rfl (hb hby d3_40) ?_
    show Steps p.tables e below (s₁.setTop (mkF m 42 #[.val (.ref a1), .val (.long q2), .second] [(.int (32 : Int32)), (.long q2), (.int (own_by q2 32))])) t
    refine XS.lushr X0.here hx rfl (hb hby d3_42) rfl ?_
    show Steps p.tables e below (s₁.setTop (mkF m 43 #[.val (.ref a1), .val (.long q2), .second] [(.long ((q2.toUInt64 >>> ((32 : Int32) &&& 0x3f).toInt64.toUInt64).toInt64)), (.int (own_by q2 32))])) t
    refine XS.l2i X0.here hx rfl (hb hby d3_43) rfl ?_
    show Steps p.tables e below (s₁.setTop (mkF m 44 #[.val (.ref a1), .val (.long q2), .second] [(.int (((q2.toUInt64 >>> ((32 : Int32) &&& 0x3f).toInt64.toUInt64).toInt64).toInt32)), (.int (own_by q2 32))])) t
    refine XS.i2b X0.here hx rfl (hb hby d3_44) rfl ?_
    show Steps p.tables e below (s₁.setTop (mkF m 45 #[.val (.ref a1), .val (.long q2), .second] [(.int ((((q2.toUInt64 >>> ((32 : Int32) &&& 0x3f).toInt64.toUInt64).toInt64).toInt32).toInt8.toInt32)), (.int (own_by q2 32))])) t
    refine XS.icmpNo X0.here hx rfl (hb hby d3_45) rfl (teq (own_by_eq q2 32 : (own_by q2 32) = ((((q2.toUInt64 >>> ((32 : Int32) &&& 0x3f).toInt64.toUInt64).toInt64).toInt32).toInt8.toInt32))).2 ?_
    show Steps p.tables e below (s₁.setTop (mkF m 48 #[.val (.ref a1), .val (.long q2), .second] [])) t
    refine XS.aloadN X0.here hx rfl (hb hby d3_48) rfl rfl ?_
    show Steps p.tables e below (s₁.setTop (mkF m 49 #[.val (.ref a1), .val (.long q2), .second] [(.ref a1)])) t
    refine XS.iconst X0.here hx rfl (hb hby d3_49) ?_
    exact kt
  have vq_5 := V1
  obtain ⟨c_5, a_5, q_5, s_5, m_5, H_5, G_5⟩ := vq_5
  have hin_5 : ¬ ((4 : Int32) < 0 ∨ c_5.slots.size ≤ ((4 : Int32)).toNatClampNeg) := inb_of s_5 ⟨by decide, by decide⟩
  have hat_5 : c_5.slots[((4 : Int32)).toNatClampNeg]? = some (.int (own_by q2 24)) := H_5.at hin_5 rfl
  refine own_go (T' := s₁) (g' := (mkF m 51 #[.val (.ref a1), .val (.long q2), .second] [(.int (own_by q2 24))])) (fun t kt => ?_) ?_
  · refine X0.baloadBytes hx (j := (4 : Int32)) (v := (.int (own_by q2 24))) (by rw [e0]; exact a_5.1) (State.isArrayOf_alike hZ.alike a_5.2.1) a_5.2.2 hin_5 hat_5 (g := (mkF m 50 #[.val (.ref a1), .val (.long q2), .second] [(.int (4 : Int32)), (.ref a1)])) rfl rfl (hb hby d3_50) _ ?_
    exact kt
  refine own_go (T' := s₁) (g' := (mkF m 62 #[.val (.ref a1), .val (.long q2), .second] [(.int (5 : Int32)), (.ref a1)])) (fun t kt => ?_) ?_
  · show Steps p.tables e below (s₁.setTop (mkF m 51 #[.val (.ref a1), .val (.long q2), .second] [(.int (own_by q2 24))])) t
    refine XS.lloadN X0.here hx rfl (hb hby d3_51) rfl ?_
    show Steps p.tables e below (s₁.setTop (mkF m 52 #[.val (.ref a1), .val (.long q2), .second] [(.long q2), (.int (own_by q2 24))])) t
    refine XS.bipush X0.here hx rfl (hb hby d3_52) ?_
    show Steps p.tables e below (s₁.setTop (mkF m 54 #[.val (.ref a1), .val (.long q2), .second] [(.int (24 : Int32)), (.long q2), (.int (own_by q2 24))])) t
    refine XS.lushr X0.here hx rfl (hb hby d3_54) rfl ?_
    show Steps p.tables e below (s₁.setTop (mkF m 55 #[.val (.ref a1), .val (.long q2), .second] [(.long ((q2.toUInt64 >>> ((24 : Int32) &&& 0x3f).toInt64.toUInt64).toInt64)), (.int (own_by q2 24))])) t
    refine XS.l2i X0.here hx rfl (hb hby d3_55) rfl ?_
    show Steps p.tables e below (s₁.setTop (mkF m 56 #[.val (.ref a1), .val (.long q2), .second] [(.int (((q2.toUInt64 >>> ((24 : Int32) &&& 0x3f).toInt64.toUInt64).toInt64).toInt32)), (.int (own_by q2 24))])) t
    refine XS.i2b X0.here hx rfl (hb hby d3_56) rfl ?_
    show Steps p.tables e below (s₁.setTop (mkF m 57 #[.val (.ref a1), .val (.long q2), .second] [(.int ((((q2.toUInt64 >>> ((24 : Int32) &&& 0x3f).toInt64.toUInt64).toInt64).toInt32).toInt8.toInt32)), (.int (own_by q2 24))])) t
    refine XS.icmpNo X0.here hx rfl (hb hby d3_57) rfl (teq (own_by_eq q2 24 : (own_by q2 24) = ((((q2.toUInt64 >>> ((24 : Int32) &&& 0x3f).toInt64.toUInt64).toInt64).toInt32).toInt8.toInt32))).2 ?_
    show Steps p.tables e below (s₁.setTop (mkF m 60 #[.val (.ref a1), .val (.long q2), .second] [])) t
    refine XS.aloadN X0.here hx rfl (hb hby d3_60) rfl rfl ?_
    show Steps p.tables e below (s₁.setTop (mkF m 61 #[.val (.ref a1), .val (.long q2), .second] [(.ref a1)])) t
    refine XS.iconst X0.here hx rfl (hb hby d3_61) ?_
    exact kt
  have vq_6 := V1
  obtain ⟨c_6, a_6, q_6, s_6, m_6, H_6, G_6⟩ := vq_6
  have hin_6 : ¬ ((5 : Int32) < 0 ∨ c_6.slots.size ≤ ((5 : Int32)).toNatClampNeg) := inb_of s_6 ⟨by decide, by decide⟩
  have hat_6 : c_6.slots[((5 : Int32)).toNatClampNeg]? = some (.int (own_by q2 16)) := H_6.at hin_6 rfl
  refine own_go (T' := s₁) (g' := (mkF m 63 #[.val (.ref a1), .val (.long q2), .second] [(.int (own_by q2 16))])) (fun t kt => ?_) ?_
  · refine X0.baloadBytes hx (j := (5 : Int32)) (v := (.int (own_by q2 16))) (by rw [e0]; exact a_6.1) (State.isArrayOf_alike hZ.alike a_6.2.1) a_6.2.2 hin_6 hat_6 (g := (mkF m 62 #[.val (.ref a1), .val (.long q2), .second] [(.int (5 : Int32)), (.ref a1)])) rfl rfl (hb hby d3_62) _ ?_
    exact kt
  refine own_go (T' := s₁) (g' := (mkF m 75 #[.val (.ref a1), .val (.long q2), .second] [(.int (6 : Int32)), (.ref a1)])) (fun t kt => ?_) ?_
  · show Steps p.tables e below (s₁.setTop (mkF m 63 #[.val (.ref a1), .val (.long q2), .second] [(.int (own_by q2 16))])) t
    refine XS.lloadN X0.here hx rfl (hb hby d3_63) rfl ?_
    show Steps p.tables e below (s₁.setTop (mkF m 64 #[.val (.ref a1), .val (.long q2), .second] [(.long q2), (.int (own_by q2 16))])) t
    refine XS.bipush X0.here hx rfl (hb hby d3_64) ?_
    show Steps p.tables e below (s₁.setTop (mkF m 66 #[.val (.ref a1), .val (.long q2), .second] [(.int (16 : Int32)), (.long q2), (.int (own_by q2 16))])) t
    refine XS.lushr X0.here hx rfl (hb hby d3_66) rfl ?_
    show Steps p.tables e below (s₁.setTop (mkF m 67 #[.val (.ref a1), .val (.long q2), .second] [(.long ((q2.toUInt64 >>> ((16 : Int32) &&& 0x3f).toInt64.toUInt64).toInt64)), (.int (own_by q2 16))])) t
    refine XS.l2i X0.here hx rfl (hb hby d3_67) rfl ?_
    show Steps p.tables e below (s₁.setTop (mkF m 68 #[.val (.ref a1), .val (.long q2), .second] [(.int (((q2.toUInt64 >>> ((16 : Int32) &&& 0x3f).toInt64.toUInt64).toInt64).toInt32)), (.int (own_by q2 16))])) t
    refine XS.i2b X0.here hx rfl (hb hby d3_68) rfl ?_
    show Steps p.tables e below (s₁.setTop (mkF m 69 #[.val (.ref a1), .val (.long q2), .second] [(.int ((((q2.toUInt64 >>> ((16 : Int32) &&& 0x3f).toInt64.toUInt64).toInt64).toInt32).toInt8.toInt32)), (.int (own_by q2 16))])) t
    refine XS.icmpNo X0.here hx rfl (hb hby d3_69) rfl (teq (own_by_eq q2 16 : (own_by q2 16) = ((((q2.toUInt64 >>> ((16 : Int32) &&& 0x3f).toInt64.toUInt64).toInt64).toInt32).toInt8.toInt32))).2 ?_
    show Steps p.tables e below (s₁.setTop (mkF m 72 #[.val (.ref a1), .val (.long q2), .second] [])) t
    refine XS.aloadN X0.here hx rfl (hb hby d3_72) rfl rfl ?_
    show Steps p.tables e below (s₁.setTop (mkF m 73 #[.val (.ref a1), .val (.long q2), .second] [(.ref a1)])) t
    refine XS.bipush X0.here hx rfl (hb hby d3_73) ?_
    exact kt
  have vq_7 := V1
  obtain ⟨c_7, a_7, q_7, s_7, m_7, H_7, G_7⟩ := vq_7
  have hin_7 : ¬ ((6 : Int32) < 0 ∨ c_7.slots.size ≤ ((6 : Int32)).toNatClampNeg) := inb_of s_7 ⟨by decide, by decide⟩
  have hat_7 : c_7.slots[((6 : Int32)).toNatClampNeg]? = some (.int (own_by q2 8)) := H_7.at hin_7 rfl
  refine own_go (T' := s₁) (g' := (mkF m 76 #[.val (.ref a1), .val (.long q2), .second] [(.int (own_by q2 8))])) (fun t kt => ?_) ?_
  · refine X0.baloadBytes hx (j := (6 : Int32)) (v := (.int (own_by q2 8))) (by rw [e0]; exact a_7.1) (State.isArrayOf_alike hZ.alike a_7.2.1) a_7.2.2 hin_7 hat_7 (g := (mkF m 75 #[.val (.ref a1), .val (.long q2), .second] [(.int (6 : Int32)), (.ref a1)])) rfl rfl (hb hby d3_75) _ ?_
    exact kt
  refine own_go (T' := s₁) (g' := (mkF m 88 #[.val (.ref a1), .val (.long q2), .second] [(.int (7 : Int32)), (.ref a1)])) (fun t kt => ?_) ?_
  · show Steps p.tables e below (s₁.setTop (mkF m 76 #[.val (.ref a1), .val (.long q2), .second] [(.int (own_by q2 8))])) t
    refine XS.lloadN X0.here hx rfl (hb hby d3_76) rfl ?_
    show Steps p.tables e below (s₁.setTop (mkF m 77 #[.val (.ref a1), .val (.long q2), .second] [(.long q2), (.int (own_by q2 8))])) t
    refine XS.bipush X0.here hx rfl (hb hby d3_77) ?_
    show Steps p.tables e below (s₁.setTop (mkF m 79 #[.val (.ref a1), .val (.long q2), .second] [(.int (8 : Int32)), (.long q2), (.int (own_by q2 8))])) t
    refine XS.lushr X0.here hx rfl (hb hby d3_79) rfl ?_
    show Steps p.tables e below (s₁.setTop (mkF m 80 #[.val (.ref a1), .val (.long q2), .second] [(.long ((q2.toUInt64 >>> ((8 : Int32) &&& 0x3f).toInt64.toUInt64).toInt64)), (.int (own_by q2 8))])) t
    refine XS.l2i X0.here hx rfl (hb hby d3_80) rfl ?_
    show Steps p.tables e below (s₁.setTop (mkF m 81 #[.val (.ref a1), .val (.long q2), .second] [(.int (((q2.toUInt64 >>> ((8 : Int32) &&& 0x3f).toInt64.toUInt64).toInt64).toInt32)), (.int (own_by q2 8))])) t
    refine XS.i2b X0.here hx rfl (hb hby d3_81) rfl ?_
    show Steps p.tables e below (s₁.setTop (mkF m 82 #[.val (.ref a1), .val (.long q2), .second] [(.int ((((q2.toUInt64 >>> ((8 : Int32) &&& 0x3f).toInt64.toUInt64).toInt64).toInt32).toInt8.toInt32)), (.int (own_by q2 8))])) t
    refine XS.icmpNo X0.here hx rfl (hb hby d3_82) rfl (teq (own_by_eq q2 8 : (own_by q2 8) = ((((q2.toUInt64 >>> ((8 : Int32) &&& 0x3f).toInt64.toUInt64).toInt64).toInt32).toInt8.toInt32))).2 ?_
    show Steps p.tables e below (s₁.setTop (mkF m 85 #[.val (.ref a1), .val (.long q2), .second] [])) t
    refine XS.aloadN X0.here hx rfl (hb hby d3_85) rfl rfl ?_
    show Steps p.tables e below (s₁.setTop (mkF m 86 #[.val (.ref a1), .val (.long q2), .second] [(.ref a1)])) t
    refine XS.bipush X0.here hx rfl (hb hby d3_86) ?_
    exact kt
  have vq_8 := V1
  obtain ⟨c_8, a_8, q_8, s_8, m_8, H_8, G_8⟩ := vq_8
  have hin_8 : ¬ ((7 : Int32) < 0 ∨ c_8.slots.size ≤ ((7 : Int32)).toNatClampNeg) := inb_of s_8 ⟨by decide, by decide⟩
  have hat_8 : c_8.slots[((7 : Int32)).toNatClampNeg]? = some (.int (own_b0 q2)) := H_8.at hin_8 rfl
  refine own_go (T' := s₁) (g' := (mkF m 89 #[.val (.ref a1), .val (.long q2), .second] [(.int (own_b0 q2))])) (fun t kt => ?_) ?_
  · refine X0.baloadBytes hx (j := (7 : Int32)) (v := (.int (own_b0 q2))) (by rw [e0]; exact a_8.1) (State.isArrayOf_alike hZ.alike a_8.2.1) a_8.2.2 hin_8 hat_8 (g := (mkF m 88 #[.val (.ref a1), .val (.long q2), .second] [(.int (7 : Int32)), (.ref a1)])) rfl rfl (hb hby d3_88) _ ?_
    exact kt
  refine own_go (T' := s₁) (g' := (mkF m 100 #[.val (.ref a1), .val (.long q2), .second] [(.int (1 : Int32))])) (fun t kt => ?_) ?_
  · show Steps p.tables e below (s₁.setTop (mkF m 89 #[.val (.ref a1), .val (.long q2), .second] [(.int (own_b0 q2))])) t
    refine XS.lloadN X0.here hx rfl (hb hby d3_89) rfl ?_
    show Steps p.tables e below (s₁.setTop (mkF m 90 #[.val (.ref a1), .val (.long q2), .second] [(.long q2), (.int (own_b0 q2))])) t
    refine XS.l2i X0.here hx rfl (hb hby d3_90) rfl ?_
    show Steps p.tables e below (s₁.setTop (mkF m 91 #[.val (.ref a1), .val (.long q2), .second] [(.int (q2.toInt32)), (.int (own_b0 q2))])) t
    refine XS.i2b X0.here hx rfl (hb hby d3_91) rfl ?_
    show Steps p.tables e below (s₁.setTop (mkF m 92 #[.val (.ref a1), .val (.long q2), .second] [(.int ((q2.toInt32).toInt8.toInt32)), (.int (own_b0 q2))])) t
    refine XS.icmpNo X0.here hx rfl (hb hby d3_92) rfl (teq (own_b0_eq q2 : (own_b0 q2) = ((q2.toInt32).toInt8.toInt32))).2 ?_
    show Steps p.tables e below (s₁.setTop (mkF m 95 #[.val (.ref a1), .val (.long q2), .second] [])) t
    refine XS.iconst X0.here hx rfl (hb hby d3_95) ?_
    show Steps p.tables e below (s₁.setTop (mkF m 96 #[.val (.ref a1), .val (.long q2), .second] [(.int (1 : Int32))])) t
    refine XS.goto X0.here hx rfl (pc0 := 96) (pc' := 100) rfl (hb hby d3_96) (by decide) (by decide) ?_
    exact kt
  obtain ⟨fs, hr, hrun, hended, hW, hsame⟩ := X0.leave (v := some (.int (1 : Int32))) (fun h => by rw [Bd.returns] at h; cases h)
  refine ⟨_, _, ?_, hrun, hended, _, _, rfl, ?_, ⟨_, rfl⟩, hW, hsame.mono (by decide) (by decide)⟩
  · exact retN X0 hx (t := .boolean) Bd.returns (by simp) (hb hby d3_100) hr
  · show Q_rhead2 Z _ _ _ _ h0 n0 _ s₁.heap _
    rw [e0]
    exact ⟨rfl, N0, rfl⟩
def Q_rhead3 (Z : State) (a1 : Addr) (q2 : Int64) (p3 : Int32) (kB : ClassId) (h0 : Heap) (n0 : Nat) (v : Option Value) (h : Heap) (L : List Loc) : Prop := v = some (.int (1 : Int32)) ∧ Fr n0 L ∧ h = h0
set_option maxRecDepth 65536 in
set_option maxHeartbeats 40000000 in
theorem rhead3 (l : Launch) (Z : State) (a0 : Array Value) (hw : ∀ d ∈ tables_1, d.before a0 Z = true) (ws : List Jvm.Cond) (a1 : Addr) (q2 : Int64) (p3 : Int32) (kB : ClassId) (h0 : Heap) (n0 : Nat) (Z0 : n0 ≤ h0.size) (V1 : Arv Z h0 a1 kB .byte (11 : Int32) [(.int (own_by q2 56)), (.int (own_by q2 48)), (.int (own_by q2 40)), (.int (own_by q2 32)), (.int (own_by q2 24)), (.int (own_by q2 16)), (.int (own_by q2 8)), (.int (own_b0 q2)), (.int (nar .byte (p3.toInt8.toInt32))), (.int (nar .byte (((p3.toUInt32 >>> ((8 : Int32) &&& 31).toUInt32).toInt32).toInt8.toInt32))), (.int (nar .byte (((p3.toUInt32 >>> ((16 : Int32) &&& 31).toUInt32).toInt32).toInt8.toInt32)))] (.int (0 : Int32))) :
    MetFree l (⟨"com/example/thin_table/thintable/model/KeyOrderNewestValuePinLaw", "head", "([BJ)Z"⟩ : MethodName) (head1 (Jvm.Cond.code (⟨"com/example/thin_table/thintable/model/KeyOrderNewestValuePinLaw", "head", "([BJ)Z"⟩ : MethodName) method_4_code 3 (some .boolean) :: ws) ({ frames := 0, cells := 0, slots := 0, locals := 0 } : Room)) (fun a U => a = #[(.ref a1), (.long q2)] ∧ Z.Warmed39 U.vm ∧ U.heap = h0) (fun _ _ _ _ _ => True) (fun _ U o U' => ∃ v L, o = .returned v ∧ Q_rhead3 Z a1 q2 p3 kB h0 n0 v U'.heap L ∧ FrameEnd U o U' L ({ frames := 0, cells := 0, slots := 0, locals := 0 } : Room).cells ({ frames := 0, cells := 0, slots := 0, locals := 0 } : Room).slots) := by
  refine MetFree.of_bodySF (plainFor_of_name pn_3) hisR ?_
  intro p e s m args below meth c s₁ Bd hml0 hP hK
  obtain ⟨rfl, hZ, hh⟩ := hP
  have hx := Bd.exec
  have hby := Bd.bytes
  have hml : c.maxLocals = 3 := hml0
  have hown : s.vm.findClass "com/example/thin_table/thintable/model/KeyOrderNewestValuePinLaw" = some m.cls := findClass_of_methodNamed Bd.named
  have hnm := (name_of_methodNamed Bd.named Bd.method).1
  have X0 : Stand p l e ({ frames := 0, cells := 0, slots := 0, locals := 0 } : Room) s m #[(.ref a1), (.long q2)] below meth c s₁ [] 0 0 := Stand.of_body Bd
  have e0 : s₁.heap = h0 := by rw [← hh, Bd.state]; rfl
  have N0 := Fr.nil n0
  refine own_go (g' := (mkF m 0 #[.val (.ref a1), .val (.long q2), .second] [])) (fun t k => castTop (ef_3 m (a1) (q2)) k) ?_
  refine own_go (T' := s₁) (g' := (mkF m 2 #[.val (.ref a1), .val (.long q2), .second] [(.int (0 : Int32)), (.ref a1)])) (fun t kt => ?_) ?_
  · show Steps p.tables e below (s₁.setTop (mkF m 0 #[.val (.ref a1), .val (.long q2), .second] [])) t
    refine XS.aloadN X0.here hx rfl (hb hby d3_0) rfl rfl ?_
    show Steps p.tables e below (s₁.setTop (mkF m 1 #[.val (.ref a1), .val (.long q2), .second] [(.ref a1)])) t
    refine XS.iconst X0.here hx rfl (hb hby d3_1) ?_
    exact kt
  have vq_1 := V1
  obtain ⟨c_1, a_1, q_1, s_1, m_1, H_1, G_1⟩ := vq_1
  have hin_1 : ¬ ((0 : Int32) < 0 ∨ c_1.slots.size ≤ ((0 : Int32)).toNatClampNeg) := inb_of s_1 ⟨by decide, by decide⟩
  have hat_1 : c_1.slots[((0 : Int32)).toNatClampNeg]? = some (.int (own_by q2 56)) := H_1.at hin_1 rfl
  refine own_go (T' := s₁) (g' := (mkF m 3 #[.val (.ref a1), .val (.long q2), .second] [(.int (own_by q2 56))])) (fun t kt => ?_) ?_
  · refine X0.baloadBytes hx (j := (0 : Int32)) (v := (.int (own_by q2 56))) (by rw [e0]; exact a_1.1) (State.isArrayOf_alike hZ.alike a_1.2.1) a_1.2.2 hin_1 hat_1 (g := (mkF m 2 #[.val (.ref a1), .val (.long q2), .second] [(.int (0 : Int32)), (.ref a1)])) rfl rfl (hb hby d3_2) _ ?_
    exact kt
  refine own_go (T' := s₁) (g' := (mkF m 14 #[.val (.ref a1), .val (.long q2), .second] [(.int (1 : Int32)), (.ref a1)])) (fun t kt => ?_) ?_
  · show Steps p.tables e below (s₁.setTop (mkF m 3 #[.val (.ref a1), .val (.long q2), .second] [(.int (own_by q2 56))])) t
    refine XS.lloadN X0.here hx rfl (hb hby d3_3) rfl ?_
    show Steps p.tables e below (s₁.setTop (mkF m 4 #[.val (.ref a1), .val (.long q2), .second] [(.long q2), (.int (own_by q2 56))])) t
    refine XS.bipush X0.here hx rfl (hb hby d3_4) ?_
    show Steps p.tables e below (s₁.setTop (mkF m 6 #[.val (.ref a1), .val (.long q2), .second] [(.int (56 : Int32)), (.long q2), (.int (own_by q2 56))])) t
    refine XS.lushr X0.here hx rfl (hb hby d3_6) rfl ?_
    show Steps p.tables e below (s₁.setTop (mkF m 7 #[.val (.ref a1), .val (.long q2), .second] [(.long ((q2.toUInt64 >>> ((56 : Int32) &&& 0x3f).toInt64.toUInt64).toInt64)), (.int (own_by q2 56))])) t
    refine XS.l2i X0.here hx rfl (hb hby d3_7) rfl ?_
    show Steps p.tables e below (s₁.setTop (mkF m 8 #[.val (.ref a1), .val (.long q2), .second] [(.int (((q2.toUInt64 >>> ((56 : Int32) &&& 0x3f).toInt64.toUInt64).toInt64).toInt32)), (.int (own_by q2 56))])) t
    refine XS.i2b X0.here hx rfl (hb hby d3_8) rfl ?_
    show Steps p.tables e below (s₁.setTop (mkF m 9 #[.val (.ref a1), .val (.long q2), .second] [(.int ((((q2.toUInt64 >>> ((56 : Int32) &&& 0x3f).toInt64.toUInt64).toInt64).toInt32).toInt8.toInt32)), (.int (own_by q2 56))])) t
    refine XS.icmpNo X0.here hx rfl (hb hby d3_9) rfl (teq (own_by_eq q2 56 : (own_by q2 56) = ((((q2.toUInt64 >>> ((56 : Int32) &&& 0x3f).toInt64.toUInt64).toInt64).toInt32).toInt8.toInt32))).2 ?_
    show Steps p.tables e below (s₁.setTop (mkF m 12 #[.val (.ref a1), .val (.long q2), .second] [])) t
    refine XS.aloadN X0.here hx rfl (hb hby d3_12) rfl rfl ?_
    show Steps p.tables e below (s₁.setTop (mkF m 13 #[.val (.ref a1), .val (.long q2), .second] [(.ref a1)])) t
    refine XS.iconst X0.here hx rfl (hb hby d3_13) ?_
    exact kt
  have vq_2 := V1
  obtain ⟨c_2, a_2, q_2, s_2, m_2, H_2, G_2⟩ := vq_2
  have hin_2 : ¬ ((1 : Int32) < 0 ∨ c_2.slots.size ≤ ((1 : Int32)).toNatClampNeg) := inb_of s_2 ⟨by decide, by decide⟩
  have hat_2 : c_2.slots[((1 : Int32)).toNatClampNeg]? = some (.int (own_by q2 48)) := H_2.at hin_2 rfl
  refine own_go (T' := s₁) (g' := (mkF m 15 #[.val (.ref a1), .val (.long q2), .second] [(.int (own_by q2 48))])) (fun t kt => ?_) ?_
  · refine X0.baloadBytes hx (j := (1 : Int32)) (v := (.int (own_by q2 48))) (by rw [e0]; exact a_2.1) (State.isArrayOf_alike hZ.alike a_2.2.1) a_2.2.2 hin_2 hat_2 (g := (mkF m 14 #[.val (.ref a1), .val (.long q2), .second] [(.int (1 : Int32)), (.ref a1)])) rfl rfl (hb hby d3_14) _ ?_
    exact kt
  refine own_go (T' := s₁) (g' := (mkF m 26 #[.val (.ref a1), .val (.long q2), .second] [(.int (2 : Int32)), (.ref a1)])) (fun t kt => ?_) ?_
  · show Steps p.tables e below (s₁.setTop (mkF m 15 #[.val (.ref a1), .val (.long q2), .second] [(.int (own_by q2 48))])) t
    refine XS.lloadN X0.here hx rfl (hb hby d3_15) rfl ?_
    show Steps p.tables e below (s₁.setTop (mkF m 16 #[.val (.ref a1), .val (.long q2), .second] [(.long q2), (.int (own_by q2 48))])) t
    refine XS.bipush X0.here hx rfl (hb hby d3_16) ?_
    show Steps p.tables e below (s₁.setTop (mkF m 18 #[.val (.ref a1), .val (.long q2), .second] [(.int (48 : Int32)), (.long q2), (.int (own_by q2 48))])) t
    refine XS.lushr X0.here hx rfl (hb hby d3_18) rfl ?_
    show Steps p.tables e below (s₁.setTop (mkF m 19 #[.val (.ref a1), .val (.long q2), .second] [(.long ((q2.toUInt64 >>> ((48 : Int32) &&& 0x3f).toInt64.toUInt64).toInt64)), (.int (own_by q2 48))])) t
    refine XS.l2i X0.here hx rfl (hb hby d3_19) rfl ?_
    show Steps p.tables e below (s₁.setTop (mkF m 20 #[.val (.ref a1), .val (.long q2), .second] [(.int (((q2.toUInt64 >>> ((48 : Int32) &&& 0x3f).toInt64.toUInt64).toInt64).toInt32)), (.int (own_by q2 48))])) t
    refine XS.i2b X0.here hx rfl (hb hby d3_20) rfl ?_
    show Steps p.tables e below (s₁.setTop (mkF m 21 #[.val (.ref a1), .val (.long q2), .second] [(.int ((((q2.toUInt64 >>> ((48 : Int32) &&& 0x3f).toInt64.toUInt64).toInt64).toInt32).toInt8.toInt32)), (.int (own_by q2 48))])) t
    refine XS.icmpNo X0.here hx rfl (hb hby d3_21) rfl (teq (own_by_eq q2 48 : (own_by q2 48) = ((((q2.toUInt64 >>> ((48 : Int32) &&& 0x3f).toInt64.toUInt64).toInt64).toInt32).toInt8.toInt32))).2 ?_
    show Steps p.tables e below (s₁.setTop (mkF m 24 #[.val (.ref a1), .val (.long q2), .second] [])) t
    refine XS.aloadN X0.here hx rfl (hb hby d3_24) rfl rfl ?_
    show Steps p.tables e below (s₁.setTop (mkF m 25 #[.val (.ref a1), .val (.long q2), .second] [(.ref a1)])) t
    refine XS.iconst X0.here hx rfl (hb hby d3_25) ?_
    exact kt
  have vq_3 := V1
  obtain ⟨c_3, a_3, q_3, s_3, m_3, H_3, G_3⟩ := vq_3
  have hin_3 : ¬ ((2 : Int32) < 0 ∨ c_3.slots.size ≤ ((2 : Int32)).toNatClampNeg) := inb_of s_3 ⟨by decide, by decide⟩
  have hat_3 : c_3.slots[((2 : Int32)).toNatClampNeg]? = some (.int (own_by q2 40)) := H_3.at hin_3 rfl
  refine own_go (T' := s₁) (g' := (mkF m 27 #[.val (.ref a1), .val (.long q2), .second] [(.int (own_by q2 40))])) (fun t kt => ?_) ?_
  · refine X0.baloadBytes hx (j := (2 : Int32)) (v := (.int (own_by q2 40))) (by rw [e0]; exact a_3.1) (State.isArrayOf_alike hZ.alike a_3.2.1) a_3.2.2 hin_3 hat_3 (g := (mkF m 26 #[.val (.ref a1), .val (.long q2), .second] [(.int (2 : Int32)), (.ref a1)])) rfl rfl (hb hby d3_26) _ ?_
    exact kt
  refine own_go (T' := s₁) (g' := (mkF m 38 #[.val (.ref a1), .val (.long q2), .second] [(.int (3 : Int32)), (.ref a1)])) (fun t kt => ?_) ?_
  · show Steps p.tables e below (s₁.setTop (mkF m 27 #[.val (.ref a1), .val (.long q2), .second] [(.int (own_by q2 40))])) t
    refine XS.lloadN X0.here hx rfl (hb hby d3_27) rfl ?_
    show Steps p.tables e below (s₁.setTop (mkF m 28 #[.val (.ref a1), .val (.long q2), .second] [(.long q2), (.int (own_by q2 40))])) t
    refine XS.bipush X0.here hx rfl (hb hby d3_28) ?_
    show Steps p.tables e below (s₁.setTop (mkF m 30 #[.val (.ref a1), .val (.long q2), .second] [(.int (40 : Int32)), (.long q2), (.int (own_by q2 40))])) t
    refine XS.lushr X0.here hx rfl (hb hby d3_30) rfl ?_
    show Steps p.tables e below (s₁.setTop (mkF m 31 #[.val (.ref a1), .val (.long q2), .second] [(.long ((q2.toUInt64 >>> ((40 : Int32) &&& 0x3f).toInt64.toUInt64).toInt64)), (.int (own_by q2 40))])) t
    refine XS.l2i X0.here hx rfl (hb hby d3_31) rfl ?_
    show Steps p.tables e below (s₁.setTop (mkF m 32 #[.val (.ref a1), .val (.long q2), .second] [(.int (((q2.toUInt64 >>> ((40 : Int32) &&& 0x3f).toInt64.toUInt64).toInt64).toInt32)), (.int (own_by q2 40))])) t
    refine XS.i2b X0.here hx rfl (hb hby d3_32) rfl ?_
    show Steps p.tables e below (s₁.setTop (mkF m 33 #[.val (.ref a1), .val (.long q2), .second] [(.int ((((q2.toUInt64 >>> ((40 : Int32) &&& 0x3f).toInt64.toUInt64).toInt64).toInt32).toInt8.toInt32)), (.int (own_by q2 40))])) t
    refine XS.icmpNo X0.here hx rfl (hb hby d3_33) rfl (teq (own_by_eq q2 40 : (own_by q2 40) = ((((q2.toUInt64 >>> ((40 : Int32) &&& 0x3f).toInt64.toUInt64).toInt64).toInt32).toInt8.toInt32))).2 ?_
    show Steps p.tables e below (s₁.setTop (mkF m 36 #[.val (.ref a1), .val (.long q2), .second] [])) t
    refine XS.aloadN X0.here hx rfl (hb hby d3_36) rfl rfl ?_
    show Steps p.tables e below (s₁.setTop (mkF m 37 #[.val (.ref a1), .val (.long q2), .second] [(.ref a1)])) t
    refine XS.iconst X0.here hx rfl (hb hby d3_37) ?_
    exact kt
  have vq_4 := V1
  obtain ⟨c_4, a_4, q_4, s_4, m_4, H_4, G_4⟩ := vq_4
  have hin_4 : ¬ ((3 : Int32) < 0 ∨ c_4.slots.size ≤ ((3 : Int32)).toNatClampNeg) := inb_of s_4 ⟨by decide, by decide⟩
  have hat_4 : c_4.slots[((3 : Int32)).toNatClampNeg]? = some (.int (own_by q2 32)) := H_4.at hin_4 rfl
  refine own_go (T' := s₁) (g' := (mkF m 39 #[.val (.ref a1), .val (.long q2), .second] [(.int (own_by q2 32))])) (fun t kt => ?_) ?_
  · refine X0.baloadBytes hx (j := (3 : Int32)) (v := (.int (own_by q2 32))) (by rw [e0]; exact a_4.1) (State.isArrayOf_alike hZ.alike a_4.2.1) a_4.2.2 hin_4 hat_4 (g := (mkF m 38 #[.val (.ref a1), .val (.long q2), .second] [(.int (3 : Int32)), (.ref a1)])) rfl rfl (hb hby d3_38) _ ?_
    exact kt
  refine own_go (T' := s₁) (g' := (mkF m 50 #[.val (.ref a1), .val (.long q2), .second] [(.int (4 : Int32)), (.ref a1)])) (fun t kt => ?_) ?_
  · show Steps p.tables e below (s₁.setTop (mkF m 39 #[.val (.ref a1), .val (.long q2), .second] [(.int (own_by q2 32))])) t
    refine XS.lloadN X0.here hx rfl (hb hby d3_39) rfl ?_
    show Steps p.tables e below (s₁.setTop (mkF m 40 #[.val (.ref a1), .val (.long q2), .second] [(.long q2), (.int (own_by q2 32))])) t
    refine XS.bipush X0.here hx rfl (hb hby d3_40) ?_
    show Steps p.tables e below (s₁.setTop (mkF m 42 #[.val (.ref a1), .val (.long q2), .second] [(.int (32 : Int32)), (.long q2), (.int (own_by q2 32))])) t
    refine XS.lushr X0.here hx rfl (hb hby d3_42) rfl ?_
    show Steps p.tables e below (s₁.setTop (mkF m 43 #[.val (.ref a1), .val (.long q2), .second] [(.long ((q2.toUInt64 >>> ((32 : Int32) &&& 0x3f).toInt64.toUInt64).toInt64)), (.int (own_by q2 32))])) t
    refine XS.l2i X0.here hx rfl (hb hby d3_43) rfl ?_
    show Steps p.tables e below (s₁.setTop (mkF m 44 #[.val (.ref a1), .val (.long q2), .second] [(.int (((q2.toUInt64 >>> ((32 : Int32) &&& 0x3f).toInt64.toUInt64).toInt64).toInt32)), (.int (own_by q2 32))])) t
    refine XS.i2b X0.here hx rfl (hb hby d3_44) rfl ?_
    show Steps p.tables e below (s₁.setTop (mkF m 45 #[.val (.ref a1), .val (.long q2), .second] [(.int ((((q2.toUInt64 >>> ((32 : Int32) &&& 0x3f).toInt64.toUInt64).toInt64).toInt32).toInt8.toInt32)), (.int (own_by q2 32))])) t
    refine XS.icmpNo X0.here hx rfl (hb hby d3_45) rfl (teq (own_by_eq q2 32 : (own_by q2 32) = ((((q2.toUInt64 >>> ((32 : Int32) &&& 0x3f).toInt64.toUInt64).toInt64).toInt32).toInt8.toInt32))).2 ?_
    show Steps p.tables e below (s₁.setTop (mkF m 48 #[.val (.ref a1), .val (.long q2), .second] [])) t
    refine XS.aloadN X0.here hx rfl (hb hby d3_48) rfl rfl ?_
    show Steps p.tables e below (s₁.setTop (mkF m 49 #[.val (.ref a1), .val (.long q2), .second] [(.ref a1)])) t
    refine XS.iconst X0.here hx rfl (hb hby d3_49) ?_
    exact kt
  have vq_5 := V1
  obtain ⟨c_5, a_5, q_5, s_5, m_5, H_5, G_5⟩ := vq_5
  have hin_5 : ¬ ((4 : Int32) < 0 ∨ c_5.slots.size ≤ ((4 : Int32)).toNatClampNeg) := inb_of s_5 ⟨by decide, by decide⟩
  have hat_5 : c_5.slots[((4 : Int32)).toNatClampNeg]? = some (.int (own_by q2 24)) := H_5.at hin_5 rfl
  refine own_go (T' := s₁) (g' := (mkF m 51 #[.val (.ref a1), .val (.long q2), .second] [(.int (own_by q2 24))])) (fun t kt => ?_) ?_
  · refine X0.baloadBytes hx (j := (4 : Int32)) (v := (.int (own_by q2 24))) (by rw [e0]; exact a_5.1) (State.isArrayOf_alike hZ.alike a_5.2.1) a_5.2.2 hin_5 hat_5 (g := (mkF m 50 #[.val (.ref a1), .val (.long q2), .second] [(.int (4 : Int32)), (.ref a1)])) rfl rfl (hb hby d3_50) _ ?_
    exact kt
  refine own_go (T' := s₁) (g' := (mkF m 62 #[.val (.ref a1), .val (.long q2), .second] [(.int (5 : Int32)), (.ref a1)])) (fun t kt => ?_) ?_
  · show Steps p.tables e below (s₁.setTop (mkF m 51 #[.val (.ref a1), .val (.long q2), .second] [(.int (own_by q2 24))])) t
    refine XS.lloadN X0.here hx rfl (hb hby d3_51) rfl ?_
    show Steps p.tables e below (s₁.setTop (mkF m 52 #[.val (.ref a1), .val (.long q2), .second] [(.long q2), (.int (own_by q2 24))])) t
    refine XS.bipush X0.here hx rfl (hb hby d3_52) ?_
    show Steps p.tables e below (s₁.setTop (mkF m 54 #[.val (.ref a1), .val (.long q2), .second] [(.int (24 : Int32)), (.long q2), (.int (own_by q2 24))])) t
    refine XS.lushr X0.here hx rfl (hb hby d3_54) rfl ?_
    show Steps p.tables e below (s₁.setTop (mkF m 55 #[.val (.ref a1), .val (.long q2), .second] [(.long ((q2.toUInt64 >>> ((24 : Int32) &&& 0x3f).toInt64.toUInt64).toInt64)), (.int (own_by q2 24))])) t
    refine XS.l2i X0.here hx rfl (hb hby d3_55) rfl ?_
    show Steps p.tables e below (s₁.setTop (mkF m 56 #[.val (.ref a1), .val (.long q2), .second] [(.int (((q2.toUInt64 >>> ((24 : Int32) &&& 0x3f).toInt64.toUInt64).toInt64).toInt32)), (.int (own_by q2 24))])) t
    refine XS.i2b X0.here hx rfl (hb hby d3_56) rfl ?_
    show Steps p.tables e below (s₁.setTop (mkF m 57 #[.val (.ref a1), .val (.long q2), .second] [(.int ((((q2.toUInt64 >>> ((24 : Int32) &&& 0x3f).toInt64.toUInt64).toInt64).toInt32).toInt8.toInt32)), (.int (own_by q2 24))])) t
    refine XS.icmpNo X0.here hx rfl (hb hby d3_57) rfl (teq (own_by_eq q2 24 : (own_by q2 24) = ((((q2.toUInt64 >>> ((24 : Int32) &&& 0x3f).toInt64.toUInt64).toInt64).toInt32).toInt8.toInt32))).2 ?_
    show Steps p.tables e below (s₁.setTop (mkF m 60 #[.val (.ref a1), .val (.long q2), .second] [])) t
    refine XS.aloadN X0.here hx rfl (hb hby d3_60) rfl rfl ?_
    show Steps p.tables e below (s₁.setTop (mkF m 61 #[.val (.ref a1), .val (.long q2), .second] [(.ref a1)])) t
    refine XS.iconst X0.here hx rfl (hb hby d3_61) ?_
    exact kt
  have vq_6 := V1
  obtain ⟨c_6, a_6, q_6, s_6, m_6, H_6, G_6⟩ := vq_6
  have hin_6 : ¬ ((5 : Int32) < 0 ∨ c_6.slots.size ≤ ((5 : Int32)).toNatClampNeg) := inb_of s_6 ⟨by decide, by decide⟩
  have hat_6 : c_6.slots[((5 : Int32)).toNatClampNeg]? = some (.int (own_by q2 16)) := H_6.at hin_6 rfl
  refine own_go (T' := s₁) (g' := (mkF m 63 #[.val (.ref a1), .val (.long q2), .second] [(.int (own_by q2 16))])) (fun t kt => ?_) ?_
  · refine X0.baloadBytes hx (j := (5 : Int32)) (v := (.int (own_by q2 16))) (by rw [e0]; exact a_6.1) (State.isArrayOf_alike hZ.alike a_6.2.1) a_6.2.2 hin_6 hat_6 (g := (mkF m 62 #[.val (.ref a1), .val (.long q2), .second] [(.int (5 : Int32)), (.ref a1)])) rfl rfl (hb hby d3_62) _ ?_
    exact kt
  refine own_go (T' := s₁) (g' := (mkF m 75 #[.val (.ref a1), .val (.long q2), .second] [(.int (6 : Int32)), (.ref a1)])) (fun t kt => ?_) ?_
  · show Steps p.tables e below (s₁.setTop (mkF m 63 #[.val (.ref a1), .val (.long q2), .second] [(.int (own_by q2 16))])) t
    refine XS.lloadN X0.here hx rfl (hb hby d3_63) rfl ?_
    show Steps p.tables e below (s₁.setTop (mkF m 64 #[.val (.ref a1), .val (.long q2), .second] [(.long q2), (.int (own_by q2 16))])) t
    refine XS.bipush X0.here hx rfl (hb hby d3_64) ?_
    show Steps p.tables e below (s₁.setTop (mkF m 66 #[.val (.ref a1), .val (.long q2), .second] [(.int (16 : Int32)), (.long q2), (.int (own_by q2 16))])) t
    refine XS.lushr X0.here hx rfl (hb hby d3_66) rfl ?_
    show Steps p.tables e below (s₁.setTop (mkF m 67 #[.val (.ref a1), .val (.long q2), .second] [(.long ((q2.toUInt64 >>> ((16 : Int32) &&& 0x3f).toInt64.toUInt64).toInt64)), (.int (own_by q2 16))])) t
    refine XS.l2i X0.here hx rfl (hb hby d3_67) rfl ?_
    show Steps p.tables e below (s₁.setTop (mkF m 68 #[.val (.ref a1), .val (.long q2), .second] [(.int (((q2.toUInt64 >>> ((16 : Int32) &&& 0x3f).toInt64.toUInt64).toInt64).toInt32)), (.int (own_by q2 16))])) t
    refine XS.i2b X0.here hx rfl (hb hby d3_68) rfl ?_
    show Steps p.tables e below (s₁.setTop (mkF m 69 #[.val (.ref a1), .val (.long q2), .second] [(.int ((((q2.toUInt64 >>> ((16 : Int32) &&& 0x3f).toInt64.toUInt64).toInt64).toInt32).toInt8.toInt32)), (.int (own_by q2 16))])) t
    refine XS.icmpNo X0.here hx rfl (hb hby d3_69) rfl (teq (own_by_eq q2 16 : (own_by q2 16) = ((((q2.toUInt64 >>> ((16 : Int32) &&& 0x3f).toInt64.toUInt64).toInt64).toInt32).toInt8.toInt32))).2 ?_
    show Steps p.tables e below (s₁.setTop (mkF m 72 #[.val (.ref a1), .val (.long q2), .second] [])) t
    refine XS.aloadN X0.here hx rfl (hb hby d3_72) rfl rfl ?_
    show Steps p.tables e below (s₁.setTop (mkF m 73 #[.val (.ref a1), .val (.long q2), .second] [(.ref a1)])) t
    refine XS.bipush X0.here hx rfl (hb hby d3_73) ?_
    exact kt
  have vq_7 := V1
  obtain ⟨c_7, a_7, q_7, s_7, m_7, H_7, G_7⟩ := vq_7
  have hin_7 : ¬ ((6 : Int32) < 0 ∨ c_7.slots.size ≤ ((6 : Int32)).toNatClampNeg) := inb_of s_7 ⟨by decide, by decide⟩
  have hat_7 : c_7.slots[((6 : Int32)).toNatClampNeg]? = some (.int (own_by q2 8)) := H_7.at hin_7 rfl
  refine own_go (T' := s₁) (g' := (mkF m 76 #[.val (.ref a1), .val (.long q2), .second] [(.int (own_by q2 8))])) (fun t kt => ?_) ?_
  · refine X0.baloadBytes hx (j := (6 : Int32)) (v := (.int (own_by q2 8))) (by rw [e0]; exact a_7.1) (State.isArrayOf_alike hZ.alike a_7.2.1) a_7.2.2 hin_7 hat_7 (g := (mkF m 75 #[.val (.ref a1), .val (.long q2), .second] [(.int (6 : Int32)), (.ref a1)])) rfl rfl (hb hby d3_75) _ ?_
    exact kt
  refine own_go (T' := s₁) (g' := (mkF m 88 #[.val (.ref a1), .val (.long q2), .second] [(.int (7 : Int32)), (.ref a1)])) (fun t kt => ?_) ?_
  · show Steps p.tables e below (s₁.setTop (mkF m 76 #[.val (.ref a1), .val (.long q2), .second] [(.int (own_by q2 8))])) t
    refine XS.lloadN X0.here hx rfl (hb hby d3_76) rfl ?_
    show Steps p.tables e below (s₁.setTop (mkF m 77 #[.val (.ref a1), .val (.long q2), .second] [(.long q2), (.int (own_by q2 8))])) t
    refine XS.bipush X0.here hx rfl (hb hby d3_77) ?_
    show Steps p.tables e below (s₁.setTop (mkF m 79 #[.val (.ref a1), .val (.long q2), .second] [(.int (8 : Int32)), (.long q2), (.int (own_by q2 8))])) t
    refine XS.lushr X0.here hx rfl (hb hby d3_79) rfl ?_
    show Steps p.tables e below (s₁.setTop (mkF m 80 #[.val (.ref a1), .val (.long q2), .second] [(.long ((q2.toUInt64 >>> ((8 : Int32) &&& 0x3f).toInt64.toUInt64).toInt64)), (.int (own_by q2 8))])) t
    refine XS.l2i X0.here hx rfl (hb hby d3_80) rfl ?_
    show Steps p.tables e below (s₁.setTop (mkF m 81 #[.val (.ref a1), .val (.long q2), .second] [(.int (((q2.toUInt64 >>> ((8 : Int32) &&& 0x3f).toInt64.toUInt64).toInt64).toInt32)), (.int (own_by q2 8))])) t
    refine XS.i2b X0.here hx rfl (hb hby d3_81) rfl ?_
    show Steps p.tables e below (s₁.setTop (mkF m 82 #[.val (.ref a1), .val (.long q2), .second] [(.int ((((q2.toUInt64 >>> ((8 : Int32) &&& 0x3f).toInt64.toUInt64).toInt64).toInt32).toInt8.toInt32)), (.int (own_by q2 8))])) t
    refine XS.icmpNo X0.here hx rfl (hb hby d3_82) rfl (teq (own_by_eq q2 8 : (own_by q2 8) = ((((q2.toUInt64 >>> ((8 : Int32) &&& 0x3f).toInt64.toUInt64).toInt64).toInt32).toInt8.toInt32))).2 ?_
    show Steps p.tables e below (s₁.setTop (mkF m 85 #[.val (.ref a1), .val (.long q2), .second] [])) t
    refine XS.aloadN X0.here hx rfl (hb hby d3_85) rfl rfl ?_
    show Steps p.tables e below (s₁.setTop (mkF m 86 #[.val (.ref a1), .val (.long q2), .second] [(.ref a1)])) t
    refine XS.bipush X0.here hx rfl (hb hby d3_86) ?_
    exact kt
  have vq_8 := V1
  obtain ⟨c_8, a_8, q_8, s_8, m_8, H_8, G_8⟩ := vq_8
  have hin_8 : ¬ ((7 : Int32) < 0 ∨ c_8.slots.size ≤ ((7 : Int32)).toNatClampNeg) := inb_of s_8 ⟨by decide, by decide⟩
  have hat_8 : c_8.slots[((7 : Int32)).toNatClampNeg]? = some (.int (own_b0 q2)) := H_8.at hin_8 rfl
  refine own_go (T' := s₁) (g' := (mkF m 89 #[.val (.ref a1), .val (.long q2), .second] [(.int (own_b0 q2))])) (fun t kt => ?_) ?_
  · refine X0.baloadBytes hx (j := (7 : Int32)) (v := (.int (own_b0 q2))) (by rw [e0]; exact a_8.1) (State.isArrayOf_alike hZ.alike a_8.2.1) a_8.2.2 hin_8 hat_8 (g := (mkF m 88 #[.val (.ref a1), .val (.long q2), .second] [(.int (7 : Int32)), (.ref a1)])) rfl rfl (hb hby d3_88) _ ?_
    exact kt
  refine own_go (T' := s₁) (g' := (mkF m 100 #[.val (.ref a1), .val (.long q2), .second] [(.int (1 : Int32))])) (fun t kt => ?_) ?_
  · show Steps p.tables e below (s₁.setTop (mkF m 89 #[.val (.ref a1), .val (.long q2), .second] [(.int (own_b0 q2))])) t
    refine XS.lloadN X0.here hx rfl (hb hby d3_89) rfl ?_
    show Steps p.tables e below (s₁.setTop (mkF m 90 #[.val (.ref a1), .val (.long q2), .second] [(.long q2), (.int (own_b0 q2))])) t
    refine XS.l2i X0.here hx rfl (hb hby d3_90) rfl ?_
    show Steps p.tables e below (s₁.setTop (mkF m 91 #[.val (.ref a1), .val (.long q2), .second] [(.int (q2.toInt32)), (.int (own_b0 q2))])) t
    refine XS.i2b X0.here hx rfl (hb hby d3_91) rfl ?_
    show Steps p.tables e below (s₁.setTop (mkF m 92 #[.val (.ref a1), .val (.long q2), .second] [(.int ((q2.toInt32).toInt8.toInt32)), (.int (own_b0 q2))])) t
    refine XS.icmpNo X0.here hx rfl (hb hby d3_92) rfl (teq (own_b0_eq q2 : (own_b0 q2) = ((q2.toInt32).toInt8.toInt32))).2 ?_
    show Steps p.tables e below (s₁.setTop (mkF m 95 #[.val (.ref a1), .val (.long q2), .second] [])) t
    refine XS.iconst X0.here hx rfl (hb hby d3_95) ?_
    show Steps p.tables e below (s₁.setTop (mkF m 96 #[.val (.ref a1), .val (.long q2), .second] [(.int (1 : Int32))])) t
    refine XS.goto X0.here hx rfl (pc0 := 96) (pc' := 100) rfl (hb hby d3_96) (by decide) (by decide) ?_
    exact kt
  obtain ⟨fs, hr, hrun, hended, hW, hsame⟩ := X0.leave (v := some (.int (1 : Int32))) (fun h => by rw [Bd.returns] at h; cases h)
  refine ⟨_, _, ?_, hrun, hended, _, _, rfl, ?_, ⟨_, rfl⟩, hW, hsame.mono (by decide) (by decide)⟩
  · exact retN X0 hx (t := .boolean) Bd.returns (by simp) (hb hby d3_100) hr
  · show Q_rhead3 Z _ _ _ _ h0 n0 _ s₁.heap _
    rw [e0]
    exact ⟨rfl, N0, rfl⟩
theorem pn_4 : plainName "com/example/thin_table/thintable/model/KeyOrderNewestValuePinLaw" = true := by first | (simp [plainName, overriddenIn]; done) | decide +kernel
theorem ef_4 (m : MethodId) (x0 : Addr) (x1 : Int32) (x2 : Int32) : entryFrame m #[(.ref x0), (.int x1), (.int x2)] 3 = mkF m 0 #[.val (.ref x0), .val (.int x1), .val (.int x2)] [] := by first | (simp [entryFrame, mkF, argsToLocals, Value.category]; done) | rfl
def Q_rtail0 (Z : State) (a1 : Addr) (q2 : Int64) (p3 : Int32) (kB : ClassId) (h0 : Heap) (n0 : Nat) (v : Option Value) (h : Heap) (L : List Loc) : Prop := v = some (.int (1 : Int32)) ∧ Fr n0 L ∧ h = h0
theorem d4_0 : decode method_5_code 0 = .ok (.iload_n 1, 1) := by decide +kernel
theorem d4_1 : decode method_5_code 1 = .ok (.iconst 1, 1) := by decide +kernel
theorem d4_2 : decode method_5_code 2 = .ok (.if_icmp .lt 12, 3) := by decide +kernel
theorem d4_14 : decode method_5_code 14 = .ok (.iload_n 1, 1) := by decide +kernel
theorem d4_15 : decode method_5_code 15 = .ok (.iconst 2, 1) := by decide +kernel
theorem d4_16 : decode method_5_code 16 = .ok (.if_icmp .lt 15, 3) := by decide +kernel
theorem d4_31 : decode method_5_code 31 = .ok (.iload_n 1, 1) := by decide +kernel
theorem d4_32 : decode method_5_code 32 = .ok (.iconst 3, 1) := by decide +kernel
theorem d4_33 : decode method_5_code 33 = .ok (.if_icmp .lt 15, 3) := by decide +kernel
theorem d4_48 : decode method_5_code 48 = .ok (.iconst 1, 1) := by decide +kernel
theorem d4_49 : decode method_5_code 49 = .ok (.goto 4, 3) := by decide +kernel
theorem d4_53 : decode method_5_code 53 = .ok (.ireturn, 1) := by decide +kernel
set_option maxRecDepth 65536 in
set_option maxHeartbeats 40000000 in
theorem rtail0 (l : Launch) (Z : State) (a0 : Array Value) (hw : ∀ d ∈ tables_1, d.before a0 Z = true) (ws : List Jvm.Cond) (a1 : Addr) (q2 : Int64) (p3 : Int32) (kB : ClassId) (h0 : Heap) (n0 : Nat) (Z0 : n0 ≤ h0.size) (V1 : Arv Z h0 a1 kB .byte (8 : Int32) [(.int (own_by q2 56)), (.int (own_by q2 48)), (.int (own_by q2 40)), (.int (own_by q2 32)), (.int (own_by q2 24)), (.int (own_by q2 16)), (.int (own_by q2 8)), (.int (own_b0 q2))] (.int (0 : Int32))) :
    MetFree l (⟨"com/example/thin_table/thintable/model/KeyOrderNewestValuePinLaw", "tail", "([BII)Z"⟩ : MethodName) (head1 (Jvm.Cond.code (⟨"com/example/thin_table/thintable/model/KeyOrderNewestValuePinLaw", "tail", "([BII)Z"⟩ : MethodName) method_5_code 3 (some .boolean) :: ws) ({ frames := 0, cells := 0, slots := 0, locals := 0 } : Room)) (fun a U => a = #[(.ref a1), (.int (0 : Int32)), (.int p3)] ∧ Z.Warmed39 U.vm ∧ U.heap = h0) (fun _ _ _ _ _ => True) (fun _ U o U' => ∃ v L, o = .returned v ∧ Q_rtail0 Z a1 q2 p3 kB h0 n0 v U'.heap L ∧ FrameEnd U o U' L ({ frames := 0, cells := 0, slots := 0, locals := 0 } : Room).cells ({ frames := 0, cells := 0, slots := 0, locals := 0 } : Room).slots) := by
  refine MetFree.of_bodySF (plainFor_of_name pn_4) hisR ?_
  intro p e s m args below meth c s₁ Bd hml0 hP hK
  obtain ⟨rfl, hZ, hh⟩ := hP
  have hx := Bd.exec
  have hby := Bd.bytes
  have hml : c.maxLocals = 3 := hml0
  have hown : s.vm.findClass "com/example/thin_table/thintable/model/KeyOrderNewestValuePinLaw" = some m.cls := findClass_of_methodNamed Bd.named
  have hnm := (name_of_methodNamed Bd.named Bd.method).1
  have X0 : Stand p l e ({ frames := 0, cells := 0, slots := 0, locals := 0 } : Room) s m #[(.ref a1), (.int (0 : Int32)), (.int p3)] below meth c s₁ [] 0 0 := Stand.of_body Bd
  have e0 : s₁.heap = h0 := by rw [← hh, Bd.state]; rfl
  have N0 := Fr.nil n0
  refine own_go (g' := (mkF m 0 #[.val (.ref a1), .val (.int (0 : Int32)), .val (.int p3)] [])) (fun t k => castTop (ef_4 m (a1) ((0 : Int32)) (p3)) k) ?_
  refine own_go (T' := s₁) (g' := (mkF m 53 #[.val (.ref a1), .val (.int (0 : Int32)), .val (.int p3)] [(.int (1 : Int32))])) (fun t kt => ?_) ?_
  · show Steps p.tables e below (s₁.setTop (mkF m 0 #[.val (.ref a1), .val (.int (0 : Int32)), .val (.int p3)] [])) t
    refine XS.iloadN X0.here hx rfl (hb hby d4_0) rfl ?_
    show Steps p.tables e below (s₁.setTop (mkF m 1 #[.val (.ref a1), .val (.int (0 : Int32)), .val (.int p3)] [(.int (0 : Int32))])) t
    refine XS.iconst X0.here hx rfl (hb hby d4_1) ?_
    show Steps p.tables e below (s₁.setTop (mkF m 2 #[.val (.ref a1), .val (.int (0 : Int32)), .val (.int p3)] [(.int (1 : Int32)), (.int (0 : Int32))])) t
    refine XS.icmpYes X0.here hx rfl (pc0 := 2) (pc' := 14) rfl (hb hby d4_2) rfl (tlt (by decide : (0 : Int32) < (1 : Int32))).1 (by decide) (by decide) ?_
    show Steps p.tables e below (s₁.setTop (mkF m 14 #[.val (.ref a1), .val (.int (0 : Int32)), .val (.int p3)] [])) t
    refine XS.iloadN X0.here hx rfl (hb hby d4_14) rfl ?_
    show Steps p.tables e below (s₁.setTop (mkF m 15 #[.val (.ref a1), .val (.int (0 : Int32)), .val (.int p3)] [(.int (0 : Int32))])) t
    refine XS.iconst X0.here hx rfl (hb hby d4_15) ?_
    show Steps p.tables e below (s₁.setTop (mkF m 16 #[.val (.ref a1), .val (.int (0 : Int32)), .val (.int p3)] [(.int (2 : Int32)), (.int (0 : Int32))])) t
    refine XS.icmpYes X0.here hx rfl (pc0 := 16) (pc' := 31) rfl (hb hby d4_16) rfl (tlt (by decide : (0 : Int32) < (2 : Int32))).1 (by decide) (by decide) ?_
    show Steps p.tables e below (s₁.setTop (mkF m 31 #[.val (.ref a1), .val (.int (0 : Int32)), .val (.int p3)] [])) t
    refine XS.iloadN X0.here hx rfl (hb hby d4_31) rfl ?_
    show Steps p.tables e below (s₁.setTop (mkF m 32 #[.val (.ref a1), .val (.int (0 : Int32)), .val (.int p3)] [(.int (0 : Int32))])) t
    refine XS.iconst X0.here hx rfl (hb hby d4_32) ?_
    show Steps p.tables e below (s₁.setTop (mkF m 33 #[.val (.ref a1), .val (.int (0 : Int32)), .val (.int p3)] [(.int (3 : Int32)), (.int (0 : Int32))])) t
    refine XS.icmpYes X0.here hx rfl (pc0 := 33) (pc' := 48) rfl (hb hby d4_33) rfl (tlt (by decide : (0 : Int32) < (3 : Int32))).1 (by decide) (by decide) ?_
    show Steps p.tables e below (s₁.setTop (mkF m 48 #[.val (.ref a1), .val (.int (0 : Int32)), .val (.int p3)] [])) t
    refine XS.iconst X0.here hx rfl (hb hby d4_48) ?_
    show Steps p.tables e below (s₁.setTop (mkF m 49 #[.val (.ref a1), .val (.int (0 : Int32)), .val (.int p3)] [(.int (1 : Int32))])) t
    refine XS.goto X0.here hx rfl (pc0 := 49) (pc' := 53) rfl (hb hby d4_49) (by decide) (by decide) ?_
    exact kt
  obtain ⟨fs, hr, hrun, hended, hW, hsame⟩ := X0.leave (v := some (.int (1 : Int32))) (fun h => by rw [Bd.returns] at h; cases h)
  refine ⟨_, _, ?_, hrun, hended, _, _, rfl, ?_, ⟨_, rfl⟩, hW, hsame.mono (by decide) (by decide)⟩
  · exact retN X0 hx (t := .boolean) Bd.returns (by simp) (hb hby d4_53) hr
  · show Q_rtail0 Z _ _ _ _ h0 n0 _ s₁.heap _
    rw [e0]
    exact ⟨rfl, N0, rfl⟩
def Q_rtail1 (Z : State) (a1 : Addr) (q2 : Int64) (p3 : Int32) (kB : ClassId) (h0 : Heap) (n0 : Nat) (v : Option Value) (h : Heap) (L : List Loc) : Prop := v = some (.int (1 : Int32)) ∧ Fr n0 L ∧ h = h0
theorem d4_5 : decode method_5_code 5 = .ok (.aload_n 0, 1) := by decide +kernel
theorem d4_6 : decode method_5_code 6 = .ok (.bipush 8, 2) := by decide +kernel
theorem d4_8 : decode method_5_code 8 = .ok (.baload, 1) := by decide +kernel
theorem d4_9 : decode method_5_code 9 = .ok (.iload_n 2, 1) := by decide +kernel
theorem d4_10 : decode method_5_code 10 = .ok (.i2b, 1) := by decide +kernel
theorem d4_11 : decode method_5_code 11 = .ok (.if_icmp .ne 41, 3) := by decide +kernel
set_option maxRecDepth 65536 in
set_option maxHeartbeats 40000000 in
theorem rtail1 (l : Launch) (Z : State) (a0 : Array Value) (hw : ∀ d ∈ tables_1, d.before a0 Z = true) (ws : List Jvm.Cond) (a1 : Addr) (q2 : Int64) (p3 : Int32) (kB : ClassId) (h0 : Heap) (n0 : Nat) (Z0 : n0 ≤ h0.size) (V1 : Arv Z h0 a1 kB .byte (9 : Int32) [(.int (own_by q2 56)), (.int (own_by q2 48)), (.int (own_by q2 40)), (.int (own_by q2 32)), (.int (own_by q2 24)), (.int (own_by q2 16)), (.int (own_by q2 8)), (.int (own_b0 q2)), (.int (nar .byte (p3.toInt8.toInt32)))] (.int (0 : Int32))) :
    MetFree l (⟨"com/example/thin_table/thintable/model/KeyOrderNewestValuePinLaw", "tail", "([BII)Z"⟩ : MethodName) (head1 (Jvm.Cond.code (⟨"com/example/thin_table/thintable/model/KeyOrderNewestValuePinLaw", "tail", "([BII)Z"⟩ : MethodName) method_5_code 3 (some .boolean) :: ws) ({ frames := 0, cells := 0, slots := 0, locals := 0 } : Room)) (fun a U => a = #[(.ref a1), (.int (1 : Int32)), (.int p3)] ∧ Z.Warmed39 U.vm ∧ U.heap = h0) (fun _ _ _ _ _ => True) (fun _ U o U' => ∃ v L, o = .returned v ∧ Q_rtail1 Z a1 q2 p3 kB h0 n0 v U'.heap L ∧ FrameEnd U o U' L ({ frames := 0, cells := 0, slots := 0, locals := 0 } : Room).cells ({ frames := 0, cells := 0, slots := 0, locals := 0 } : Room).slots) := by
  refine MetFree.of_bodySF (plainFor_of_name pn_4) hisR ?_
  intro p e s m args below meth c s₁ Bd hml0 hP hK
  obtain ⟨rfl, hZ, hh⟩ := hP
  have hx := Bd.exec
  have hby := Bd.bytes
  have hml : c.maxLocals = 3 := hml0
  have hown : s.vm.findClass "com/example/thin_table/thintable/model/KeyOrderNewestValuePinLaw" = some m.cls := findClass_of_methodNamed Bd.named
  have hnm := (name_of_methodNamed Bd.named Bd.method).1
  have X0 : Stand p l e ({ frames := 0, cells := 0, slots := 0, locals := 0 } : Room) s m #[(.ref a1), (.int (1 : Int32)), (.int p3)] below meth c s₁ [] 0 0 := Stand.of_body Bd
  have e0 : s₁.heap = h0 := by rw [← hh, Bd.state]; rfl
  have N0 := Fr.nil n0
  refine own_go (g' := (mkF m 0 #[.val (.ref a1), .val (.int (1 : Int32)), .val (.int p3)] [])) (fun t k => castTop (ef_4 m (a1) ((1 : Int32)) (p3)) k) ?_
  refine own_go (T' := s₁) (g' := (mkF m 8 #[.val (.ref a1), .val (.int (1 : Int32)), .val (.int p3)] [(.int (8 : Int32)), (.ref a1)])) (fun t kt => ?_) ?_
  · show Steps p.tables e below (s₁.setTop (mkF m 0 #[.val (.ref a1), .val (.int (1 : Int32)), .val (.int p3)] [])) t
    refine XS.iloadN X0.here hx rfl (hb hby d4_0) rfl ?_
    show Steps p.tables e below (s₁.setTop (mkF m 1 #[.val (.ref a1), .val (.int (1 : Int32)), .val (.int p3)] [(.int (1 : Int32))])) t
    refine XS.iconst X0.here hx rfl (hb hby d4_1) ?_
    show Steps p.tables e below (s₁.setTop (mkF m 2 #[.val (.ref a1), .val (.int (1 : Int32)), .val (.int p3)] [(.int (1 : Int32)), (.int (1 : Int32))])) t
    refine XS.icmpNo X0.here hx rfl (hb hby d4_2) rfl (flt (by decide : ¬ ((1 : Int32) < (1 : Int32)))).1 ?_
    show Steps p.tables e below (s₁.setTop (mkF m 5 #[.val (.ref a1), .val (.int (1 : Int32)), .val (.int p3)] [])) t
    refine XS.aloadN X0.here hx rfl (hb hby d4_5) rfl rfl ?_
    show Steps p.tables e below (s₁.setTop (mkF m 6 #[.val (.ref a1), .val (.int (1 : Int32)), .val (.int p3)] [(.ref a1)])) t
    refine XS.bipush X0.here hx rfl (hb hby d4_6) ?_
    exact kt
  have vq_1 := V1
  obtain ⟨c_1, a_1, q_1, s_1, m_1, H_1, G_1⟩ := vq_1
  have hin_1 : ¬ ((8 : Int32) < 0 ∨ c_1.slots.size ≤ ((8 : Int32)).toNatClampNeg) := inb_of s_1 ⟨by decide, by decide⟩
  have hat_1 : c_1.slots[((8 : Int32)).toNatClampNeg]? = some (.int (nar .byte (p3.toInt8.toInt32))) := H_1.at hin_1 rfl
  refine own_go (T' := s₁) (g' := (mkF m 9 #[.val (.ref a1), .val (.int (1 : Int32)), .val (.int p3)] [(.int (nar .byte (p3.toInt8.toInt32)))])) (fun t kt => ?_) ?_
  · refine X0.baloadBytes hx (j := (8 : Int32)) (v := (.int (nar .byte (p3.toInt8.toInt32)))) (by rw [e0]; exact a_1.1) (State.isArrayOf_alike hZ.alike a_1.2.1) a_1.2.2 hin_1 hat_1 (g := (mkF m 8 #[.val (.ref a1), .val (.int (1 : Int32)), .val (.int p3)] [(.int (8 : Int32)), (.ref a1)])) rfl rfl (hb hby d4_8) _ ?_
    exact kt
  refine own_go (T' := s₁) (g' := (mkF m 53 #[.val (.ref a1), .val (.int (1 : Int32)), .val (.int p3)] [(.int (1 : Int32))])) (fun t kt => ?_) ?_
  · show Steps p.tables e below (s₁.setTop (mkF m 9 #[.val (.ref a1), .val (.int (1 : Int32)), .val (.int p3)] [(.int (nar .byte (p3.toInt8.toInt32)))])) t
    refine XS.iloadN X0.here hx rfl (hb hby d4_9) rfl ?_
    show Steps p.tables e below (s₁.setTop (mkF m 10 #[.val (.ref a1), .val (.int (1 : Int32)), .val (.int p3)] [(.int p3), (.int (nar .byte (p3.toInt8.toInt32)))])) t
    refine XS.i2b X0.here hx rfl (hb hby d4_10) rfl ?_
    show Steps p.tables e below (s₁.setTop (mkF m 11 #[.val (.ref a1), .val (.int (1 : Int32)), .val (.int p3)] [(.int (p3.toInt8.toInt32)), (.int (nar .byte (p3.toInt8.toInt32)))])) t
    refine XS.icmpNo X0.here hx rfl (hb hby d4_11) rfl (teq (own_nar _ : (nar .byte (p3.toInt8.toInt32)) = (p3.toInt8.toInt32))).2 ?_
    show Steps p.tables e below (s₁.setTop (mkF m 14 #[.val (.ref a1), .val (.int (1 : Int32)), .val (.int p3)] [])) t
    refine XS.iloadN X0.here hx rfl (hb hby d4_14) rfl ?_
    show Steps p.tables e below (s₁.setTop (mkF m 15 #[.val (.ref a1), .val (.int (1 : Int32)), .val (.int p3)] [(.int (1 : Int32))])) t
    refine XS.iconst X0.here hx rfl (hb hby d4_15) ?_
    show Steps p.tables e below (s₁.setTop (mkF m 16 #[.val (.ref a1), .val (.int (1 : Int32)), .val (.int p3)] [(.int (2 : Int32)), (.int (1 : Int32))])) t
    refine XS.icmpYes X0.here hx rfl (pc0 := 16) (pc' := 31) rfl (hb hby d4_16) rfl (tlt (by decide : (1 : Int32) < (2 : Int32))).1 (by decide) (by decide) ?_
    show Steps p.tables e below (s₁.setTop (mkF m 31 #[.val (.ref a1), .val (.int (1 : Int32)), .val (.int p3)] [])) t
    refine XS.iloadN X0.here hx rfl (hb hby d4_31) rfl ?_
    show Steps p.tables e below (s₁.setTop (mkF m 32 #[.val (.ref a1), .val (.int (1 : Int32)), .val (.int p3)] [(.int (1 : Int32))])) t
    refine XS.iconst X0.here hx rfl (hb hby d4_32) ?_
    show Steps p.tables e below (s₁.setTop (mkF m 33 #[.val (.ref a1), .val (.int (1 : Int32)), .val (.int p3)] [(.int (3 : Int32)), (.int (1 : Int32))])) t
    refine XS.icmpYes X0.here hx rfl (pc0 := 33) (pc' := 48) rfl (hb hby d4_33) rfl (tlt (by decide : (1 : Int32) < (3 : Int32))).1 (by decide) (by decide) ?_
    show Steps p.tables e below (s₁.setTop (mkF m 48 #[.val (.ref a1), .val (.int (1 : Int32)), .val (.int p3)] [])) t
    refine XS.iconst X0.here hx rfl (hb hby d4_48) ?_
    show Steps p.tables e below (s₁.setTop (mkF m 49 #[.val (.ref a1), .val (.int (1 : Int32)), .val (.int p3)] [(.int (1 : Int32))])) t
    refine XS.goto X0.here hx rfl (pc0 := 49) (pc' := 53) rfl (hb hby d4_49) (by decide) (by decide) ?_
    exact kt
  obtain ⟨fs, hr, hrun, hended, hW, hsame⟩ := X0.leave (v := some (.int (1 : Int32))) (fun h => by rw [Bd.returns] at h; cases h)
  refine ⟨_, _, ?_, hrun, hended, _, _, rfl, ?_, ⟨_, rfl⟩, hW, hsame.mono (by decide) (by decide)⟩
  · exact retN X0 hx (t := .boolean) Bd.returns (by simp) (hb hby d4_53) hr
  · show Q_rtail1 Z _ _ _ _ h0 n0 _ s₁.heap _
    rw [e0]
    exact ⟨rfl, N0, rfl⟩
def Q_rtail2 (Z : State) (a1 : Addr) (q2 : Int64) (p3 : Int32) (kB : ClassId) (h0 : Heap) (n0 : Nat) (v : Option Value) (h : Heap) (L : List Loc) : Prop := v = some (.int (1 : Int32)) ∧ Fr n0 L ∧ h = h0
theorem d4_19 : decode method_5_code 19 = .ok (.aload_n 0, 1) := by decide +kernel
theorem d4_20 : decode method_5_code 20 = .ok (.bipush 9, 2) := by decide +kernel
theorem d4_22 : decode method_5_code 22 = .ok (.baload, 1) := by decide +kernel
theorem d4_23 : decode method_5_code 23 = .ok (.iload_n 2, 1) := by decide +kernel
theorem d4_24 : decode method_5_code 24 = .ok (.bipush 8, 2) := by decide +kernel
theorem d4_26 : decode method_5_code 26 = .ok (.iushr, 1) := by decide +kernel
theorem d4_27 : decode method_5_code 27 = .ok (.i2b, 1) := by decide +kernel
theorem d4_28 : decode method_5_code 28 = .ok (.if_icmp .ne 24, 3) := by decide +kernel
set_option maxRecDepth 65536 in
set_option maxHeartbeats 40000000 in
theorem rtail2 (l : Launch) (Z : State) (a0 : Array Value) (hw : ∀ d ∈ tables_1, d.before a0 Z = true) (ws : List Jvm.Cond) (a1 : Addr) (q2 : Int64) (p3 : Int32) (kB : ClassId) (h0 : Heap) (n0 : Nat) (Z0 : n0 ≤ h0.size) (V1 : Arv Z h0 a1 kB .byte (10 : Int32) [(.int (own_by q2 56)), (.int (own_by q2 48)), (.int (own_by q2 40)), (.int (own_by q2 32)), (.int (own_by q2 24)), (.int (own_by q2 16)), (.int (own_by q2 8)), (.int (own_b0 q2)), (.int (nar .byte (p3.toInt8.toInt32))), (.int (nar .byte (((p3.toUInt32 >>> ((8 : Int32) &&& 31).toUInt32).toInt32).toInt8.toInt32)))] (.int (0 : Int32))) :
    MetFree l (⟨"com/example/thin_table/thintable/model/KeyOrderNewestValuePinLaw", "tail", "([BII)Z"⟩ : MethodName) (head1 (Jvm.Cond.code (⟨"com/example/thin_table/thintable/model/KeyOrderNewestValuePinLaw", "tail", "([BII)Z"⟩ : MethodName) method_5_code 3 (some .boolean) :: ws) ({ frames := 0, cells := 0, slots := 0, locals := 0 } : Room)) (fun a U => a = #[(.ref a1), (.int (2 : Int32)), (.int p3)] ∧ Z.Warmed39 U.vm ∧ U.heap = h0) (fun _ _ _ _ _ => True) (fun _ U o U' => ∃ v L, o = .returned v ∧ Q_rtail2 Z a1 q2 p3 kB h0 n0 v U'.heap L ∧ FrameEnd U o U' L ({ frames := 0, cells := 0, slots := 0, locals := 0 } : Room).cells ({ frames := 0, cells := 0, slots := 0, locals := 0 } : Room).slots) := by
  refine MetFree.of_bodySF (plainFor_of_name pn_4) hisR ?_
  intro p e s m args below meth c s₁ Bd hml0 hP hK
  obtain ⟨rfl, hZ, hh⟩ := hP
  have hx := Bd.exec
  have hby := Bd.bytes
  have hml : c.maxLocals = 3 := hml0
  have hown : s.vm.findClass "com/example/thin_table/thintable/model/KeyOrderNewestValuePinLaw" = some m.cls := findClass_of_methodNamed Bd.named
  have hnm := (name_of_methodNamed Bd.named Bd.method).1
  have X0 : Stand p l e ({ frames := 0, cells := 0, slots := 0, locals := 0 } : Room) s m #[(.ref a1), (.int (2 : Int32)), (.int p3)] below meth c s₁ [] 0 0 := Stand.of_body Bd
  have e0 : s₁.heap = h0 := by rw [← hh, Bd.state]; rfl
  have N0 := Fr.nil n0
  refine own_go (g' := (mkF m 0 #[.val (.ref a1), .val (.int (2 : Int32)), .val (.int p3)] [])) (fun t k => castTop (ef_4 m (a1) ((2 : Int32)) (p3)) k) ?_
  refine own_go (T' := s₁) (g' := (mkF m 8 #[.val (.ref a1), .val (.int (2 : Int32)), .val (.int p3)] [(.int (8 : Int32)), (.ref a1)])) (fun t kt => ?_) ?_
  · show Steps p.tables e below (s₁.setTop (mkF m 0 #[.val (.ref a1), .val (.int (2 : Int32)), .val (.int p3)] [])) t
    refine XS.iloadN X0.here hx rfl (hb hby d4_0) rfl ?_
    show Steps p.tables e below (s₁.setTop (mkF m 1 #[.val (.ref a1), .val (.int (2 : Int32)), .val (.int p3)] [(.int (2 : Int32))])) t
    refine XS.iconst X0.here hx rfl (hb hby d4_1) ?_
    show Steps p.tables e below (s₁.setTop (mkF m 2 #[.val (.ref a1), .val (.int (2 : Int32)), .val (.int p3)] [(.int (1 : Int32)), (.int (2 : Int32))])) t
    refine XS.icmpNo X0.here hx rfl (hb hby d4_2) rfl (flt (by decide : ¬ ((2 : Int32) < (1 : Int32)))).1 ?_
    show Steps p.tables e below (s₁.setTop (mkF m 5 #[.val (.ref a1), .val (.int (2 : Int32)), .val (.int p3)] [])) t
    refine XS.aloadN X0.here hx rfl (hb hby d4_5) rfl rfl ?_
    show Steps p.tables e below (s₁.setTop (mkF m 6 #[.val (.ref a1), .val (.int (2 : Int32)), .val (.int p3)] [(.ref a1)])) t
    refine XS.bipush X0.here hx rfl (hb hby d4_6) ?_
    exact kt
  have vq_1 := V1
  obtain ⟨c_1, a_1, q_1, s_1, m_1, H_1, G_1⟩ := vq_1
  have hin_1 : ¬ ((8 : Int32) < 0 ∨ c_1.slots.size ≤ ((8 : Int32)).toNatClampNeg) := inb_of s_1 ⟨by decide, by decide⟩
  have hat_1 : c_1.slots[((8 : Int32)).toNatClampNeg]? = some (.int (nar .byte (p3.toInt8.toInt32))) := H_1.at hin_1 rfl
  refine own_go (T' := s₁) (g' := (mkF m 9 #[.val (.ref a1), .val (.int (2 : Int32)), .val (.int p3)] [(.int (nar .byte (p3.toInt8.toInt32)))])) (fun t kt => ?_) ?_
  · refine X0.baloadBytes hx (j := (8 : Int32)) (v := (.int (nar .byte (p3.toInt8.toInt32)))) (by rw [e0]; exact a_1.1) (State.isArrayOf_alike hZ.alike a_1.2.1) a_1.2.2 hin_1 hat_1 (g := (mkF m 8 #[.val (.ref a1), .val (.int (2 : Int32)), .val (.int p3)] [(.int (8 : Int32)), (.ref a1)])) rfl rfl (hb hby d4_8) _ ?_
    exact kt
  refine own_go (T' := s₁) (g' := (mkF m 22 #[.val (.ref a1), .val (.int (2 : Int32)), .val (.int p3)] [(.int (9 : Int32)), (.ref a1)])) (fun t kt => ?_) ?_
  · show Steps p.tables e below (s₁.setTop (mkF m 9 #[.val (.ref a1), .val (.int (2 : Int32)), .val (.int p3)] [(.int (nar .byte (p3.toInt8.toInt32)))])) t
    refine XS.iloadN X0.here hx rfl (hb hby d4_9) rfl ?_
    show Steps p.tables e below (s₁.setTop (mkF m 10 #[.val (.ref a1), .val (.int (2 : Int32)), .val (.int p3)] [(.int p3), (.int (nar .byte (p3.toInt8.toInt32)))])) t
    refine XS.i2b X0.here hx rfl (hb hby d4_10) rfl ?_
    show Steps p.tables e below (s₁.setTop (mkF m 11 #[.val (.ref a1), .val (.int (2 : Int32)), .val (.int p3)] [(.int (p3.toInt8.toInt32)), (.int (nar .byte (p3.toInt8.toInt32)))])) t
    refine XS.icmpNo X0.here hx rfl (hb hby d4_11) rfl (teq (own_nar _ : (nar .byte (p3.toInt8.toInt32)) = (p3.toInt8.toInt32))).2 ?_
    show Steps p.tables e below (s₁.setTop (mkF m 14 #[.val (.ref a1), .val (.int (2 : Int32)), .val (.int p3)] [])) t
    refine XS.iloadN X0.here hx rfl (hb hby d4_14) rfl ?_
    show Steps p.tables e below (s₁.setTop (mkF m 15 #[.val (.ref a1), .val (.int (2 : Int32)), .val (.int p3)] [(.int (2 : Int32))])) t
    refine XS.iconst X0.here hx rfl (hb hby d4_15) ?_
    show Steps p.tables e below (s₁.setTop (mkF m 16 #[.val (.ref a1), .val (.int (2 : Int32)), .val (.int p3)] [(.int (2 : Int32)), (.int (2 : Int32))])) t
    refine XS.icmpNo X0.here hx rfl (hb hby d4_16) rfl (flt (by decide : ¬ ((2 : Int32) < (2 : Int32)))).1 ?_
    show Steps p.tables e below (s₁.setTop (mkF m 19 #[.val (.ref a1), .val (.int (2 : Int32)), .val (.int p3)] [])) t
    refine XS.aloadN X0.here hx rfl (hb hby d4_19) rfl rfl ?_
    show Steps p.tables e below (s₁.setTop (mkF m 20 #[.val (.ref a1), .val (.int (2 : Int32)), .val (.int p3)] [(.ref a1)])) t
    refine XS.bipush X0.here hx rfl (hb hby d4_20) ?_
    exact kt
  have vq_2 := V1
  obtain ⟨c_2, a_2, q_2, s_2, m_2, H_2, G_2⟩ := vq_2
  have hin_2 : ¬ ((9 : Int32) < 0 ∨ c_2.slots.size ≤ ((9 : Int32)).toNatClampNeg) := inb_of s_2 ⟨by decide, by decide⟩
  have hat_2 : c_2.slots[((9 : Int32)).toNatClampNeg]? = some (.int (nar .byte (((p3.toUInt32 >>> ((8 : Int32) &&& 31).toUInt32).toInt32).toInt8.toInt32))) := H_2.at hin_2 rfl
  refine own_go (T' := s₁) (g' := (mkF m 23 #[.val (.ref a1), .val (.int (2 : Int32)), .val (.int p3)] [(.int (nar .byte (((p3.toUInt32 >>> ((8 : Int32) &&& 31).toUInt32).toInt32).toInt8.toInt32)))])) (fun t kt => ?_) ?_
  · refine X0.baloadBytes hx (j := (9 : Int32)) (v := (.int (nar .byte (((p3.toUInt32 >>> ((8 : Int32) &&& 31).toUInt32).toInt32).toInt8.toInt32)))) (by rw [e0]; exact a_2.1) (State.isArrayOf_alike hZ.alike a_2.2.1) a_2.2.2 hin_2 hat_2 (g := (mkF m 22 #[.val (.ref a1), .val (.int (2 : Int32)), .val (.int p3)] [(.int (9 : Int32)), (.ref a1)])) rfl rfl (hb hby d4_22) _ ?_
    exact kt
  refine own_go (T' := s₁) (g' := (mkF m 53 #[.val (.ref a1), .val (.int (2 : Int32)), .val (.int p3)] [(.int (1 : Int32))])) (fun t kt => ?_) ?_
  · show Steps p.tables e below (s₁.setTop (mkF m 23 #[.val (.ref a1), .val (.int (2 : Int32)), .val (.int p3)] [(.int (nar .byte (((p3.toUInt32 >>> ((8 : Int32) &&& 31).toUInt32).toInt32).toInt8.toInt32)))])) t
    refine XS.iloadN X0.here hx rfl (hb hby d4_23) rfl ?_
    show Steps p.tables e below (s₁.setTop (mkF m 24 #[.val (.ref a1), .val (.int (2 : Int32)), .val (.int p3)] [(.int p3), (.int (nar .byte (((p3.toUInt32 >>> ((8 : Int32) &&& 31).toUInt32).toInt32).toInt8.toInt32)))])) t
    refine XS.bipush X0.here hx rfl (hb hby d4_24) ?_
    show Steps p.tables e below (s₁.setTop (mkF m 26 #[.val (.ref a1), .val (.int (2 : Int32)), .val (.int p3)] [(.int (8 : Int32)), (.int p3), (.int (nar .byte (((p3.toUInt32 >>> ((8 : Int32) &&& 31).toUInt32).toInt32).toInt8.toInt32)))])) t
    refine XS.iushr X0.here hx rfl (hb hby d4_26) rfl ?_
    show Steps p.tables e below (s₁.setTop (mkF m 27 #[.val (.ref a1), .val (.int (2 : Int32)), .val (.int p3)] [(.int ((p3.toUInt32 >>> ((8 : Int32) &&& 31).toUInt32).toInt32)), (.int (nar .byte (((p3.toUInt32 >>> ((8 : Int32) &&& 31).toUInt32).toInt32).toInt8.toInt32)))])) t
    refine XS.i2b X0.here hx rfl (hb hby d4_27) rfl ?_
    show Steps p.tables e below (s₁.setTop (mkF m 28 #[.val (.ref a1), .val (.int (2 : Int32)), .val (.int p3)] [(.int (((p3.toUInt32 >>> ((8 : Int32) &&& 31).toUInt32).toInt32).toInt8.toInt32)), (.int (nar .byte (((p3.toUInt32 >>> ((8 : Int32) &&& 31).toUInt32).toInt32).toInt8.toInt32)))])) t
    refine XS.icmpNo X0.here hx rfl (hb hby d4_28) rfl (teq (own_nar _ : (nar .byte (((p3.toUInt32 >>> ((8 : Int32) &&& 31).toUInt32).toInt32).toInt8.toInt32)) = (((p3.toUInt32 >>> ((8 : Int32) &&& 31).toUInt32).toInt32).toInt8.toInt32))).2 ?_
    show Steps p.tables e below (s₁.setTop (mkF m 31 #[.val (.ref a1), .val (.int (2 : Int32)), .val (.int p3)] [])) t
    refine XS.iloadN X0.here hx rfl (hb hby d4_31) rfl ?_
    show Steps p.tables e below (s₁.setTop (mkF m 32 #[.val (.ref a1), .val (.int (2 : Int32)), .val (.int p3)] [(.int (2 : Int32))])) t
    refine XS.iconst X0.here hx rfl (hb hby d4_32) ?_
    show Steps p.tables e below (s₁.setTop (mkF m 33 #[.val (.ref a1), .val (.int (2 : Int32)), .val (.int p3)] [(.int (3 : Int32)), (.int (2 : Int32))])) t
    refine XS.icmpYes X0.here hx rfl (pc0 := 33) (pc' := 48) rfl (hb hby d4_33) rfl (tlt (by decide : (2 : Int32) < (3 : Int32))).1 (by decide) (by decide) ?_
    show Steps p.tables e below (s₁.setTop (mkF m 48 #[.val (.ref a1), .val (.int (2 : Int32)), .val (.int p3)] [])) t
    refine XS.iconst X0.here hx rfl (hb hby d4_48) ?_
    show Steps p.tables e below (s₁.setTop (mkF m 49 #[.val (.ref a1), .val (.int (2 : Int32)), .val (.int p3)] [(.int (1 : Int32))])) t
    refine XS.goto X0.here hx rfl (pc0 := 49) (pc' := 53) rfl (hb hby d4_49) (by decide) (by decide) ?_
    exact kt
  obtain ⟨fs, hr, hrun, hended, hW, hsame⟩ := X0.leave (v := some (.int (1 : Int32))) (fun h => by rw [Bd.returns] at h; cases h)
  refine ⟨_, _, ?_, hrun, hended, _, _, rfl, ?_, ⟨_, rfl⟩, hW, hsame.mono (by decide) (by decide)⟩
  · exact retN X0 hx (t := .boolean) Bd.returns (by simp) (hb hby d4_53) hr
  · show Q_rtail2 Z _ _ _ _ h0 n0 _ s₁.heap _
    rw [e0]
    exact ⟨rfl, N0, rfl⟩
def Q_rtail3 (Z : State) (a1 : Addr) (q2 : Int64) (p3 : Int32) (kB : ClassId) (h0 : Heap) (n0 : Nat) (v : Option Value) (h : Heap) (L : List Loc) : Prop := v = some (.int (1 : Int32)) ∧ Fr n0 L ∧ h = h0
theorem d4_36 : decode method_5_code 36 = .ok (.aload_n 0, 1) := by decide +kernel
theorem d4_37 : decode method_5_code 37 = .ok (.bipush 10, 2) := by decide +kernel
theorem d4_39 : decode method_5_code 39 = .ok (.baload, 1) := by decide +kernel
theorem d4_40 : decode method_5_code 40 = .ok (.iload_n 2, 1) := by decide +kernel
theorem d4_41 : decode method_5_code 41 = .ok (.bipush 16, 2) := by decide +kernel
theorem d4_43 : decode method_5_code 43 = .ok (.iushr, 1) := by decide +kernel
theorem d4_44 : decode method_5_code 44 = .ok (.i2b, 1) := by decide +kernel
theorem d4_45 : decode method_5_code 45 = .ok (.if_icmp .ne 7, 3) := by decide +kernel
set_option maxRecDepth 65536 in
set_option maxHeartbeats 40000000 in
theorem rtail3 (l : Launch) (Z : State) (a0 : Array Value) (hw : ∀ d ∈ tables_1, d.before a0 Z = true) (ws : List Jvm.Cond) (a1 : Addr) (q2 : Int64) (p3 : Int32) (kB : ClassId) (h0 : Heap) (n0 : Nat) (Z0 : n0 ≤ h0.size) (V1 : Arv Z h0 a1 kB .byte (11 : Int32) [(.int (own_by q2 56)), (.int (own_by q2 48)), (.int (own_by q2 40)), (.int (own_by q2 32)), (.int (own_by q2 24)), (.int (own_by q2 16)), (.int (own_by q2 8)), (.int (own_b0 q2)), (.int (nar .byte (p3.toInt8.toInt32))), (.int (nar .byte (((p3.toUInt32 >>> ((8 : Int32) &&& 31).toUInt32).toInt32).toInt8.toInt32))), (.int (nar .byte (((p3.toUInt32 >>> ((16 : Int32) &&& 31).toUInt32).toInt32).toInt8.toInt32)))] (.int (0 : Int32))) :
    MetFree l (⟨"com/example/thin_table/thintable/model/KeyOrderNewestValuePinLaw", "tail", "([BII)Z"⟩ : MethodName) (head1 (Jvm.Cond.code (⟨"com/example/thin_table/thintable/model/KeyOrderNewestValuePinLaw", "tail", "([BII)Z"⟩ : MethodName) method_5_code 3 (some .boolean) :: ws) ({ frames := 0, cells := 0, slots := 0, locals := 0 } : Room)) (fun a U => a = #[(.ref a1), (.int (3 : Int32)), (.int p3)] ∧ Z.Warmed39 U.vm ∧ U.heap = h0) (fun _ _ _ _ _ => True) (fun _ U o U' => ∃ v L, o = .returned v ∧ Q_rtail3 Z a1 q2 p3 kB h0 n0 v U'.heap L ∧ FrameEnd U o U' L ({ frames := 0, cells := 0, slots := 0, locals := 0 } : Room).cells ({ frames := 0, cells := 0, slots := 0, locals := 0 } : Room).slots) := by
  refine MetFree.of_bodySF (plainFor_of_name pn_4) hisR ?_
  intro p e s m args below meth c s₁ Bd hml0 hP hK
  obtain ⟨rfl, hZ, hh⟩ := hP
  have hx := Bd.exec
  have hby := Bd.bytes
  have hml : c.maxLocals = 3 := hml0
  have hown : s.vm.findClass "com/example/thin_table/thintable/model/KeyOrderNewestValuePinLaw" = some m.cls := findClass_of_methodNamed Bd.named
  have hnm := (name_of_methodNamed Bd.named Bd.method).1
  have X0 : Stand p l e ({ frames := 0, cells := 0, slots := 0, locals := 0 } : Room) s m #[(.ref a1), (.int (3 : Int32)), (.int p3)] below meth c s₁ [] 0 0 := Stand.of_body Bd
  have e0 : s₁.heap = h0 := by rw [← hh, Bd.state]; rfl
  have N0 := Fr.nil n0
  refine own_go (g' := (mkF m 0 #[.val (.ref a1), .val (.int (3 : Int32)), .val (.int p3)] [])) (fun t k => castTop (ef_4 m (a1) ((3 : Int32)) (p3)) k) ?_
  refine own_go (T' := s₁) (g' := (mkF m 8 #[.val (.ref a1), .val (.int (3 : Int32)), .val (.int p3)] [(.int (8 : Int32)), (.ref a1)])) (fun t kt => ?_) ?_
  · show Steps p.tables e below (s₁.setTop (mkF m 0 #[.val (.ref a1), .val (.int (3 : Int32)), .val (.int p3)] [])) t
    refine XS.iloadN X0.here hx rfl (hb hby d4_0) rfl ?_
    show Steps p.tables e below (s₁.setTop (mkF m 1 #[.val (.ref a1), .val (.int (3 : Int32)), .val (.int p3)] [(.int (3 : Int32))])) t
    refine XS.iconst X0.here hx rfl (hb hby d4_1) ?_
    show Steps p.tables e below (s₁.setTop (mkF m 2 #[.val (.ref a1), .val (.int (3 : Int32)), .val (.int p3)] [(.int (1 : Int32)), (.int (3 : Int32))])) t
    refine XS.icmpNo X0.here hx rfl (hb hby d4_2) rfl (flt (by decide : ¬ ((3 : Int32) < (1 : Int32)))).1 ?_
    show Steps p.tables e below (s₁.setTop (mkF m 5 #[.val (.ref a1), .val (.int (3 : Int32)), .val (.int p3)] [])) t
    refine XS.aloadN X0.here hx rfl (hb hby d4_5) rfl rfl ?_
    show Steps p.tables e below (s₁.setTop (mkF m 6 #[.val (.ref a1), .val (.int (3 : Int32)), .val (.int p3)] [(.ref a1)])) t
    refine XS.bipush X0.here hx rfl (hb hby d4_6) ?_
    exact kt
  have vq_1 := V1
  obtain ⟨c_1, a_1, q_1, s_1, m_1, H_1, G_1⟩ := vq_1
  have hin_1 : ¬ ((8 : Int32) < 0 ∨ c_1.slots.size ≤ ((8 : Int32)).toNatClampNeg) := inb_of s_1 ⟨by decide, by decide⟩
  have hat_1 : c_1.slots[((8 : Int32)).toNatClampNeg]? = some (.int (nar .byte (p3.toInt8.toInt32))) := H_1.at hin_1 rfl
  refine own_go (T' := s₁) (g' := (mkF m 9 #[.val (.ref a1), .val (.int (3 : Int32)), .val (.int p3)] [(.int (nar .byte (p3.toInt8.toInt32)))])) (fun t kt => ?_) ?_
  · refine X0.baloadBytes hx (j := (8 : Int32)) (v := (.int (nar .byte (p3.toInt8.toInt32)))) (by rw [e0]; exact a_1.1) (State.isArrayOf_alike hZ.alike a_1.2.1) a_1.2.2 hin_1 hat_1 (g := (mkF m 8 #[.val (.ref a1), .val (.int (3 : Int32)), .val (.int p3)] [(.int (8 : Int32)), (.ref a1)])) rfl rfl (hb hby d4_8) _ ?_
    exact kt
  refine own_go (T' := s₁) (g' := (mkF m 22 #[.val (.ref a1), .val (.int (3 : Int32)), .val (.int p3)] [(.int (9 : Int32)), (.ref a1)])) (fun t kt => ?_) ?_
  · show Steps p.tables e below (s₁.setTop (mkF m 9 #[.val (.ref a1), .val (.int (3 : Int32)), .val (.int p3)] [(.int (nar .byte (p3.toInt8.toInt32)))])) t
    refine XS.iloadN X0.here hx rfl (hb hby d4_9) rfl ?_
    show Steps p.tables e below (s₁.setTop (mkF m 10 #[.val (.ref a1), .val (.int (3 : Int32)), .val (.int p3)] [(.int p3), (.int (nar .byte (p3.toInt8.toInt32)))])) t
    refine XS.i2b X0.here hx rfl (hb hby d4_10) rfl ?_
    show Steps p.tables e below (s₁.setTop (mkF m 11 #[.val (.ref a1), .val (.int (3 : Int32)), .val (.int p3)] [(.int (p3.toInt8.toInt32)), (.int (nar .byte (p3.toInt8.toInt32)))])) t
    refine XS.icmpNo X0.here hx rfl (hb hby d4_11) rfl (teq (own_nar _ : (nar .byte (p3.toInt8.toInt32)) = (p3.toInt8.toInt32))).2 ?_
    show Steps p.tables e below (s₁.setTop (mkF m 14 #[.val (.ref a1), .val (.int (3 : Int32)), .val (.int p3)] [])) t
    refine XS.iloadN X0.here hx rfl (hb hby d4_14) rfl ?_
    show Steps p.tables e below (s₁.setTop (mkF m 15 #[.val (.ref a1), .val (.int (3 : Int32)), .val (.int p3)] [(.int (3 : Int32))])) t
    refine XS.iconst X0.here hx rfl (hb hby d4_15) ?_
    show Steps p.tables e below (s₁.setTop (mkF m 16 #[.val (.ref a1), .val (.int (3 : Int32)), .val (.int p3)] [(.int (2 : Int32)), (.int (3 : Int32))])) t
    refine XS.icmpNo X0.here hx rfl (hb hby d4_16) rfl (flt (by decide : ¬ ((3 : Int32) < (2 : Int32)))).1 ?_
    show Steps p.tables e below (s₁.setTop (mkF m 19 #[.val (.ref a1), .val (.int (3 : Int32)), .val (.int p3)] [])) t
    refine XS.aloadN X0.here hx rfl (hb hby d4_19) rfl rfl ?_
    show Steps p.tables e below (s₁.setTop (mkF m 20 #[.val (.ref a1), .val (.int (3 : Int32)), .val (.int p3)] [(.ref a1)])) t
    refine XS.bipush X0.here hx rfl (hb hby d4_20) ?_
    exact kt
  have vq_2 := V1
  obtain ⟨c_2, a_2, q_2, s_2, m_2, H_2, G_2⟩ := vq_2
  have hin_2 : ¬ ((9 : Int32) < 0 ∨ c_2.slots.size ≤ ((9 : Int32)).toNatClampNeg) := inb_of s_2 ⟨by decide, by decide⟩
  have hat_2 : c_2.slots[((9 : Int32)).toNatClampNeg]? = some (.int (nar .byte (((p3.toUInt32 >>> ((8 : Int32) &&& 31).toUInt32).toInt32).toInt8.toInt32))) := H_2.at hin_2 rfl
  refine own_go (T' := s₁) (g' := (mkF m 23 #[.val (.ref a1), .val (.int (3 : Int32)), .val (.int p3)] [(.int (nar .byte (((p3.toUInt32 >>> ((8 : Int32) &&& 31).toUInt32).toInt32).toInt8.toInt32)))])) (fun t kt => ?_) ?_
  · refine X0.baloadBytes hx (j := (9 : Int32)) (v := (.int (nar .byte (((p3.toUInt32 >>> ((8 : Int32) &&& 31).toUInt32).toInt32).toInt8.toInt32)))) (by rw [e0]; exact a_2.1) (State.isArrayOf_alike hZ.alike a_2.2.1) a_2.2.2 hin_2 hat_2 (g := (mkF m 22 #[.val (.ref a1), .val (.int (3 : Int32)), .val (.int p3)] [(.int (9 : Int32)), (.ref a1)])) rfl rfl (hb hby d4_22) _ ?_
    exact kt
  refine own_go (T' := s₁) (g' := (mkF m 39 #[.val (.ref a1), .val (.int (3 : Int32)), .val (.int p3)] [(.int (10 : Int32)), (.ref a1)])) (fun t kt => ?_) ?_
  · show Steps p.tables e below (s₁.setTop (mkF m 23 #[.val (.ref a1), .val (.int (3 : Int32)), .val (.int p3)] [(.int (nar .byte (((p3.toUInt32 >>> ((8 : Int32) &&& 31).toUInt32).toInt32).toInt8.toInt32)))])) t
    refine XS.iloadN X0.here hx rfl (hb hby d4_23) rfl ?_
    show Steps p.tables e below (s₁.setTop (mkF m 24 #[.val (.ref a1), .val (.int (3 : Int32)), .val (.int p3)] [(.int p3), (.int (nar .byte (((p3.toUInt32 >>> ((8 : Int32) &&& 31).toUInt32).toInt32).toInt8.toInt32)))])) t
    refine XS.bipush X0.here hx rfl (hb hby d4_24) ?_
    show Steps p.tables e below (s₁.setTop (mkF m 26 #[.val (.ref a1), .val (.int (3 : Int32)), .val (.int p3)] [(.int (8 : Int32)), (.int p3), (.int (nar .byte (((p3.toUInt32 >>> ((8 : Int32) &&& 31).toUInt32).toInt32).toInt8.toInt32)))])) t
    refine XS.iushr X0.here hx rfl (hb hby d4_26) rfl ?_
    show Steps p.tables e below (s₁.setTop (mkF m 27 #[.val (.ref a1), .val (.int (3 : Int32)), .val (.int p3)] [(.int ((p3.toUInt32 >>> ((8 : Int32) &&& 31).toUInt32).toInt32)), (.int (nar .byte (((p3.toUInt32 >>> ((8 : Int32) &&& 31).toUInt32).toInt32).toInt8.toInt32)))])) t
    refine XS.i2b X0.here hx rfl (hb hby d4_27) rfl ?_
    show Steps p.tables e below (s₁.setTop (mkF m 28 #[.val (.ref a1), .val (.int (3 : Int32)), .val (.int p3)] [(.int (((p3.toUInt32 >>> ((8 : Int32) &&& 31).toUInt32).toInt32).toInt8.toInt32)), (.int (nar .byte (((p3.toUInt32 >>> ((8 : Int32) &&& 31).toUInt32).toInt32).toInt8.toInt32)))])) t
    refine XS.icmpNo X0.here hx rfl (hb hby d4_28) rfl (teq (own_nar _ : (nar .byte (((p3.toUInt32 >>> ((8 : Int32) &&& 31).toUInt32).toInt32).toInt8.toInt32)) = (((p3.toUInt32 >>> ((8 : Int32) &&& 31).toUInt32).toInt32).toInt8.toInt32))).2 ?_
    show Steps p.tables e below (s₁.setTop (mkF m 31 #[.val (.ref a1), .val (.int (3 : Int32)), .val (.int p3)] [])) t
    refine XS.iloadN X0.here hx rfl (hb hby d4_31) rfl ?_
    show Steps p.tables e below (s₁.setTop (mkF m 32 #[.val (.ref a1), .val (.int (3 : Int32)), .val (.int p3)] [(.int (3 : Int32))])) t
    refine XS.iconst X0.here hx rfl (hb hby d4_32) ?_
    show Steps p.tables e below (s₁.setTop (mkF m 33 #[.val (.ref a1), .val (.int (3 : Int32)), .val (.int p3)] [(.int (3 : Int32)), (.int (3 : Int32))])) t
    refine XS.icmpNo X0.here hx rfl (hb hby d4_33) rfl (flt (by decide : ¬ ((3 : Int32) < (3 : Int32)))).1 ?_
    show Steps p.tables e below (s₁.setTop (mkF m 36 #[.val (.ref a1), .val (.int (3 : Int32)), .val (.int p3)] [])) t
    refine XS.aloadN X0.here hx rfl (hb hby d4_36) rfl rfl ?_
    show Steps p.tables e below (s₁.setTop (mkF m 37 #[.val (.ref a1), .val (.int (3 : Int32)), .val (.int p3)] [(.ref a1)])) t
    refine XS.bipush X0.here hx rfl (hb hby d4_37) ?_
    exact kt
  have vq_3 := V1
  obtain ⟨c_3, a_3, q_3, s_3, m_3, H_3, G_3⟩ := vq_3
  have hin_3 : ¬ ((10 : Int32) < 0 ∨ c_3.slots.size ≤ ((10 : Int32)).toNatClampNeg) := inb_of s_3 ⟨by decide, by decide⟩
  have hat_3 : c_3.slots[((10 : Int32)).toNatClampNeg]? = some (.int (nar .byte (((p3.toUInt32 >>> ((16 : Int32) &&& 31).toUInt32).toInt32).toInt8.toInt32))) := H_3.at hin_3 rfl
  refine own_go (T' := s₁) (g' := (mkF m 40 #[.val (.ref a1), .val (.int (3 : Int32)), .val (.int p3)] [(.int (nar .byte (((p3.toUInt32 >>> ((16 : Int32) &&& 31).toUInt32).toInt32).toInt8.toInt32)))])) (fun t kt => ?_) ?_
  · refine X0.baloadBytes hx (j := (10 : Int32)) (v := (.int (nar .byte (((p3.toUInt32 >>> ((16 : Int32) &&& 31).toUInt32).toInt32).toInt8.toInt32)))) (by rw [e0]; exact a_3.1) (State.isArrayOf_alike hZ.alike a_3.2.1) a_3.2.2 hin_3 hat_3 (g := (mkF m 39 #[.val (.ref a1), .val (.int (3 : Int32)), .val (.int p3)] [(.int (10 : Int32)), (.ref a1)])) rfl rfl (hb hby d4_39) _ ?_
    exact kt
  refine own_go (T' := s₁) (g' := (mkF m 53 #[.val (.ref a1), .val (.int (3 : Int32)), .val (.int p3)] [(.int (1 : Int32))])) (fun t kt => ?_) ?_
  · show Steps p.tables e below (s₁.setTop (mkF m 40 #[.val (.ref a1), .val (.int (3 : Int32)), .val (.int p3)] [(.int (nar .byte (((p3.toUInt32 >>> ((16 : Int32) &&& 31).toUInt32).toInt32).toInt8.toInt32)))])) t
    refine XS.iloadN X0.here hx rfl (hb hby d4_40) rfl ?_
    show Steps p.tables e below (s₁.setTop (mkF m 41 #[.val (.ref a1), .val (.int (3 : Int32)), .val (.int p3)] [(.int p3), (.int (nar .byte (((p3.toUInt32 >>> ((16 : Int32) &&& 31).toUInt32).toInt32).toInt8.toInt32)))])) t
    refine XS.bipush X0.here hx rfl (hb hby d4_41) ?_
    show Steps p.tables e below (s₁.setTop (mkF m 43 #[.val (.ref a1), .val (.int (3 : Int32)), .val (.int p3)] [(.int (16 : Int32)), (.int p3), (.int (nar .byte (((p3.toUInt32 >>> ((16 : Int32) &&& 31).toUInt32).toInt32).toInt8.toInt32)))])) t
    refine XS.iushr X0.here hx rfl (hb hby d4_43) rfl ?_
    show Steps p.tables e below (s₁.setTop (mkF m 44 #[.val (.ref a1), .val (.int (3 : Int32)), .val (.int p3)] [(.int ((p3.toUInt32 >>> ((16 : Int32) &&& 31).toUInt32).toInt32)), (.int (nar .byte (((p3.toUInt32 >>> ((16 : Int32) &&& 31).toUInt32).toInt32).toInt8.toInt32)))])) t
    refine XS.i2b X0.here hx rfl (hb hby d4_44) rfl ?_
    show Steps p.tables e below (s₁.setTop (mkF m 45 #[.val (.ref a1), .val (.int (3 : Int32)), .val (.int p3)] [(.int (((p3.toUInt32 >>> ((16 : Int32) &&& 31).toUInt32).toInt32).toInt8.toInt32)), (.int (nar .byte (((p3.toUInt32 >>> ((16 : Int32) &&& 31).toUInt32).toInt32).toInt8.toInt32)))])) t
    refine XS.icmpNo X0.here hx rfl (hb hby d4_45) rfl (teq (own_nar _ : (nar .byte (((p3.toUInt32 >>> ((16 : Int32) &&& 31).toUInt32).toInt32).toInt8.toInt32)) = (((p3.toUInt32 >>> ((16 : Int32) &&& 31).toUInt32).toInt32).toInt8.toInt32))).2 ?_
    show Steps p.tables e below (s₁.setTop (mkF m 48 #[.val (.ref a1), .val (.int (3 : Int32)), .val (.int p3)] [])) t
    refine XS.iconst X0.here hx rfl (hb hby d4_48) ?_
    show Steps p.tables e below (s₁.setTop (mkF m 49 #[.val (.ref a1), .val (.int (3 : Int32)), .val (.int p3)] [(.int (1 : Int32))])) t
    refine XS.goto X0.here hx rfl (pc0 := 49) (pc' := 53) rfl (hb hby d4_49) (by decide) (by decide) ?_
    exact kt
  obtain ⟨fs, hr, hrun, hended, hW, hsame⟩ := X0.leave (v := some (.int (1 : Int32))) (fun h => by rw [Bd.returns] at h; cases h)
  refine ⟨_, _, ?_, hrun, hended, _, _, rfl, ?_, ⟨_, rfl⟩, hW, hsame.mono (by decide) (by decide)⟩
  · exact retN X0 hx (t := .boolean) Bd.returns (by simp) (hb hby d4_53) hr
  · show Q_rtail3 Z _ _ _ _ h0 n0 _ s₁.heap _
    rw [e0]
    exact ⟨rfl, N0, rfl⟩
theorem pn_0 : plainName "com/example/thin_table/thintable/model/KeyOrderNewestValuePinLaw" = true := by first | (simp [plainName, overriddenIn]; done) | decide +kernel
theorem ef_0 (m : MethodId) (x0 : Int64) (x1 : Int32) (x2 : Int32) (x3 : Int32) : entryFrame m #[(.long x0), (.int x1), (.int x2), (.int x3)] maxLocals = mkF m 0 #[.val (.long x0), .second, .val (.int x1), .val (.int x2), .val (.int x3), .unset, .unset, .unset, .unset, .unset, .unset, .unset, .unset, .unset, .unset, .unset, .unset] [] := by first | (simp [entryFrame, mkF, argsToLocals, Value.category, maxLocals]; done) | rfl
def Q_rm0 (Z : State) (q1 : Int64) (p2 : Int32) (p3 : Int32) (p4 : Int32) (h0 : Heap) (n0 : Nat) (v : Option Value) (h : Heap) (L : List Loc) : Prop := v = some (.int (1 : Int32)) ∧ Fr n0 L
theorem pd_0 : parseMethodDescriptor "([BIJ)V" = some ⟨[(.array .byte), .int, .long], none⟩ := by decide +kernel
theorem pd_1 : parseMethodDescriptor "([B[B)[B" = some ⟨[(.array .byte), (.array .byte)], some (.array .byte)⟩ := by decide +kernel
theorem pd_3 : parseMethodDescriptor "([BJ)Z" = some ⟨[(.array .byte), .long], some .boolean⟩ := by decide +kernel
theorem pd_4 : parseMethodDescriptor "([BII)Z" = some ⟨[(.array .byte), .int, .int], some .boolean⟩ := by decide +kernel
set_option maxRecDepth 65536 in
set_option maxHeartbeats 40000000 in
theorem rm0 (l : Launch) (Z : State) (a0 : Array Value) (hw : ∀ d ∈ tables_1, d.before a0 Z = true) (ws : List Jvm.Cond) (q1 : Int64) (p2 : Int32) (p3 : Int32) (p4 : Int32) (h0 : Heap) (n0 : Nat) (Z0 : n0 ≤ h0.size)  :
    MetFree l x (head1 (Jvm.Cond.code x code maxLocals ret :: ws) room_1) (fun a U => a = #[(.long q1), (.int p2), (.int p3), (.int p4)] ∧ Z.Warmed39 U.vm ∧ U.heap = h0) (fun _ _ _ _ _ => True) (fun _ U o U' => ∃ v L, o = .returned v ∧ Q_rm0 Z q1 p2 p3 p4 h0 n0 v U'.heap L ∧ FrameEnd U o U' L room_1.cells room_1.slots) := by
  refine MetFree.of_bodySF (plainFor_of_name pn_0) hisR ?_
  intro p e s m args below meth c s₁ Bd hml0 hP hK
  obtain ⟨rfl, hZ, hh⟩ := hP
  have hx := Bd.exec
  have hby := Bd.bytes
  have hml : c.maxLocals = 17 := hml0
  have hown : s.vm.findClass "com/example/thin_table/thintable/model/KeyOrderNewestValuePinLaw" = some m.cls := findClass_of_methodNamed Bd.named
  have hnm := (name_of_methodNamed Bd.named Bd.method).1
  have X0 : Stand p l e room_1 s m #[(.long q1), (.int p2), (.int p3), (.int p4)] below meth c s₁ [] 0 0 := Stand.of_body Bd
  have e0 : s₁.heap = h0 := by rw [← hh, Bd.state]; rfl
  have N0 := Fr.nil n0
  refine own_go (g' := (mkF m 0 #[.val (.long q1), .second, .val (.int p2), .val (.int p3), .val (.int p4), .unset, .unset, .unset, .unset, .unset, .unset, .unset, .unset, .unset, .unset, .unset, .unset] [])) (fun t k => castTop (ef_0 m (q1) (p2) (p3) (p4)) k) ?_
  obtain ⟨lk, hlk⟩ : ∃ z : Int32, z = own_lk p4 := ⟨_, rfl⟩
  refine own_go (T' := s₁) (g' := (mkF m 12 #[.val (.long q1), .second, .val (.int p2), .val (.int p3), .val (.int p4), .unset, .unset, .unset, .unset, .unset, .unset, .unset, .unset, .unset, .unset, .unset, .unset] [(.int lk)])) (fun t kt => ?_) ?_
  · show Steps p.tables e below (s₁.setTop (mkF m 0 #[.val (.long q1), .second, .val (.int p2), .val (.int p3), .val (.int p4), .unset, .unset, .unset, .unset, .unset, .unset, .unset, .unset, .unset, .unset, .unset, .unset] [])) t
    refine XS.iload X0.here hx rfl (hb hby at_0) rfl ?_
    show Steps p.tables e below (s₁.setTop (mkF m 2 #[.val (.long q1), .second, .val (.int p2), .val (.int p3), .val (.int p4), .unset, .unset, .unset, .unset, .unset, .unset, .unset, .unset, .unset, .unset, .unset, .unset] [(.int p4)])) t
    refine XS.iconst X0.here hx rfl (hb hby at_2) ?_
    show Steps p.tables e below (s₁.setTop (mkF m 3 #[.val (.long q1), .second, .val (.int p2), .val (.int p3), .val (.int p4), .unset, .unset, .unset, .unset, .unset, .unset, .unset, .unset, .unset, .unset, .unset, .unset] [(.int (4 : Int32)), (.int p4)])) t
    refine XS.iand X0.here hx rfl (hb hby at_3) rfl ?_
    by_cases hc4 : (p4 &&& (4 : Int32)) = (0 : Int32)
    · show Steps p.tables e below (s₁.setTop (mkF m 4 #[.val (.long q1), .second, .val (.int p2), .val (.int p3), .val (.int p4), .unset, .unset, .unset, .unset, .unset, .unset, .unset, .unset, .unset, .unset, .unset, .unset] [(.int (p4 &&& (4 : Int32)))])) t
      refine XS.ifYes X0.here hx rfl (pc0 := 4) (pc' := 11) rfl (hb hby at_4) rfl ((if0 _ _).trans (teq hc4).1) (by decide) (by decide) ?_
      show Steps p.tables e below (s₁.setTop (mkF m 11 #[.val (.long q1), .second, .val (.int p2), .val (.int p3), .val (.int p4), .unset, .unset, .unset, .unset, .unset, .unset, .unset, .unset, .unset, .unset, .unset, .unset] [])) t
      refine XS.iconst X0.here hx rfl (hb hby at_11) ?_
      have hz : lk = (0 : Int32) := hlk.trans (if_pos hc4)
      rw [hz] at kt
      exact kt
    · show Steps p.tables e below (s₁.setTop (mkF m 4 #[.val (.long q1), .second, .val (.int p2), .val (.int p3), .val (.int p4), .unset, .unset, .unset, .unset, .unset, .unset, .unset, .unset, .unset, .unset, .unset, .unset] [(.int (p4 &&& (4 : Int32)))])) t
      refine XS.ifNo X0.here hx rfl (hb hby at_4) rfl ((if0 _ _).trans (feq hc4).1) ?_
      show Steps p.tables e below (s₁.setTop (mkF m 7 #[.val (.long q1), .second, .val (.int p2), .val (.int p3), .val (.int p4), .unset, .unset, .unset, .unset, .unset, .unset, .unset, .unset, .unset, .unset, .unset, .unset] [])) t
      refine XS.iconst X0.here hx rfl (hb hby at_7) ?_
      show Steps p.tables e below (s₁.setTop (mkF m 8 #[.val (.long q1), .second, .val (.int p2), .val (.int p3), .val (.int p4), .unset, .unset, .unset, .unset, .unset, .unset, .unset, .unset, .unset, .unset, .unset, .unset] [(.int (1 : Int32))])) t
      refine XS.goto X0.here hx rfl (pc0 := 8) (pc' := 12) rfl (hb hby at_8) (by decide) (by decide) ?_
      have hz : lk = (1 : Int32) := hlk.trans (if_neg hc4)
      rw [hz] at kt
      exact kt
  refine own_go (T' := s₁) (g' := (mkF m 18 #[.val (.long q1), .second, .val (.int p2), .val (.int p3), .val (.int p4), .val (.int lk), .unset, .unset, .unset, .unset, .unset, .unset, .unset, .unset, .unset, .unset, .unset] [(.int (p4 &&& (3 : Int32)))])) (fun t kt => ?_) ?_
  · show Steps p.tables e below (s₁.setTop (mkF m 12 #[.val (.long q1), .second, .val (.int p2), .val (.int p3), .val (.int p4), .unset, .unset, .unset, .unset, .unset, .unset, .unset, .unset, .unset, .unset, .unset, .unset] [(.int lk)])) t
    refine XS.istore X0.here hx rfl (hb hby at_12) rfl (l' := #[.val (.long q1), .second, .val (.int p2), .val (.int p3), .val (.int p4), .val (.int lk), .unset, .unset, .unset, .unset, .unset, .unset, .unset, .unset, .unset, .unset, .unset]) rfl ?_
    show Steps p.tables e below (s₁.setTop (mkF m 14 #[.val (.long q1), .second, .val (.int p2), .val (.int p3), .val (.int p4), .val (.int lk), .unset, .unset, .unset, .unset, .unset, .unset, .unset, .unset, .unset, .unset, .unset] [])) t
    refine XS.iload X0.here hx rfl (hb hby at_14) rfl ?_
    show Steps p.tables e below (s₁.setTop (mkF m 16 #[.val (.long q1), .second, .val (.int p2), .val (.int p3), .val (.int p4), .val (.int lk), .unset, .unset, .unset, .unset, .unset, .unset, .unset, .unset, .unset, .unset, .unset] [(.int p4)])) t
    refine XS.iconst X0.here hx rfl (hb hby at_16) ?_
    show Steps p.tables e below (s₁.setTop (mkF m 17 #[.val (.long q1), .second, .val (.int p2), .val (.int p3), .val (.int p4), .val (.int lk), .unset, .unset, .unset, .unset, .unset, .unset, .unset, .unset, .unset, .unset, .unset] [(.int (3 : Int32)), (.int p4)])) t
    refine XS.iand X0.here hx rfl (hb hby at_17) rfl ?_
    exact kt
  obtain ⟨nn, hnn⟩ : ∃ z : Int32, z = (p4 &&& (3 : Int32)) := ⟨_, rfl⟩
  rw [← hnn]
  refine own_go (T' := s₁) (g' := (mkF m 22 #[.val (.long q1), .second, .val (.int p2), .val (.int p3), .val (.int p4), .val (.int lk), .val (.int nn), .unset, .unset, .unset, .unset, .unset, .unset, .unset, .unset, .unset, .unset] [(.int (8 : Int32))])) (fun t kt => ?_) ?_
  · show Steps p.tables e below (s₁.setTop (mkF m 18 #[.val (.long q1), .second, .val (.int p2), .val (.int p3), .val (.int p4), .val (.int lk), .unset, .unset, .unset, .unset, .unset, .unset, .unset, .unset, .unset, .unset, .unset] [(.int nn)])) t
    refine XS.istore X0.here hx rfl (hb hby at_18) rfl (l' := #[.val (.long q1), .second, .val (.int p2), .val (.int p3), .val (.int p4), .val (.int lk), .val (.int nn), .unset, .unset, .unset, .unset, .unset, .unset, .unset, .unset, .unset, .unset]) rfl ?_
    show Steps p.tables e below (s₁.setTop (mkF m 20 #[.val (.long q1), .second, .val (.int p2), .val (.int p3), .val (.int p4), .val (.int lk), .val (.int nn), .unset, .unset, .unset, .unset, .unset, .unset, .unset, .unset, .unset, .unset] [])) t
    refine XS.bipush X0.here hx rfl (hb hby at_20) ?_
    exact kt
  obtain ⟨T_1, h_1, k_1, X_1, e_1, E_1, A_1, B_1, st_1⟩ := newPE X0 hx hZ (hw _ (List.mem_of_getElem? (i := 0) rfl)) e0 (g := (mkF m 22 #[.val (.long q1), .second, .val (.int p2), .val (.int p3), .val (.int p4), .val (.int lk), .val (.int nn), .unset, .unset, .unset, .unset, .unset, .unset, .unset, .unset, .unset, .unset] [(.int (8 : Int32))])) rfl (hb hby at_22) rfl (by decide) (cap := 8) (by decide) (by decide) (by decide) (by decide) (ad := "[B") (by decide)
  obtain ⟨b_1, g_1⟩ : ∃ z, z = h0.size := ⟨_, rfl⟩
  rw [← g_1] at A_1 B_1 st_1
  have g_b_1 : n0 ≤ b_1 := Nat.le_trans Z0 (Nat.le_of_eq g_1.symm)
  have Z_1 : n0 ≤ h_1.size := Nat.le_trans Z0 E_1.1
  have V_1 : Arv Z h_1 b_1 k_1 .byte (8 : Int32) [(.int (0 : Int32)), (.int (0 : Int32)), (.int (0 : Int32)), (.int (0 : Int32)), (.int (0 : Int32)), (.int (0 : Int32)), (.int (0 : Int32)), (.int (0 : Int32))] (.int (0 : Int32)) := (Arv.new A_1 (by decide)).pad (pad_rep [] (.int (0 : Int32)) 8)
  refine own_go (g' := (mkF m 24 #[.val (.long q1), .second, .val (.int p2), .val (.int p3), .val (.int p4), .val (.int lk), .val (.int nn), .unset, .unset, .unset, .unset, .unset, .unset, .unset, .unset, .unset, .unset] [(.ref b_1)])) st_1 ?_
  refine own_go (T' := T_1) (g' := (mkF m 28 #[.val (.long q1), .second, .val (.int p2), .val (.int p3), .val (.int p4), .val (.int lk), .val (.int nn), .val (.ref b_1), .unset, .unset, .unset, .unset, .unset, .unset, .unset, .unset, .unset] [(.int (11 : Int32))])) (fun t kt => ?_) ?_
  · show Steps p.tables e below (T_1.setTop (mkF m 24 #[.val (.long q1), .second, .val (.int p2), .val (.int p3), .val (.int p4), .val (.int lk), .val (.int nn), .unset, .unset, .unset, .unset, .unset, .unset, .unset, .unset, .unset, .unset] [(.ref b_1)])) t
    refine XS.astore X_1.here hx rfl (hb hby at_24) rfl rfl (l' := #[.val (.long q1), .second, .val (.int p2), .val (.int p3), .val (.int p4), .val (.int lk), .val (.int nn), .val (.ref b_1), .unset, .unset, .unset, .unset, .unset, .unset, .unset, .unset, .unset]) rfl ?_
    show Steps p.tables e below (T_1.setTop (mkF m 26 #[.val (.long q1), .second, .val (.int p2), .val (.int p3), .val (.int p4), .val (.int lk), .val (.int nn), .val (.ref b_1), .unset, .unset, .unset, .unset, .unset, .unset, .unset, .unset, .unset] [])) t
    refine XS.bipush X_1.here hx rfl (hb hby at_26) ?_
    exact kt
  obtain ⟨T_2, h_2, k_2, X_2, e_2, E_2, A_2, B_2, st_2⟩ := newPE X_1 hx hZ (hw _ (List.mem_of_getElem? (i := 0) rfl)) e_1 (g := (mkF m 28 #[.val (.long q1), .second, .val (.int p2), .val (.int p3), .val (.int p4), .val (.int lk), .val (.int nn), .val (.ref b_1), .unset, .unset, .unset, .unset, .unset, .unset, .unset, .unset, .unset] [(.int (11 : Int32))])) rfl (hb hby at_28) rfl (by decide) (cap := 11) (by decide) (by decide) (by decide) (by decide) (ad := "[B") (by decide)
  obtain ⟨b_2, g_2⟩ : ∃ z, z = h_1.size := ⟨_, rfl⟩
  rw [← g_2] at A_2 B_2 st_2
  have ne_b_1_b_2 : b_1 ≠ b_2 := Nat.ne_of_lt (Nat.lt_of_lt_of_le B_1.lt (Nat.le_of_eq g_2.symm))
  have g_b_2 : n0 ≤ b_2 := Nat.le_trans Z_1 (Nat.le_of_eq g_2.symm)
  have Z_2 : n0 ≤ h_2.size := Nat.le_trans Z_1 E_2.1
  have V_2 : Arv Z h_2 b_2 k_2 .byte (11 : Int32) [(.int (0 : Int32)), (.int (0 : Int32)), (.int (0 : Int32)), (.int (0 : Int32)), (.int (0 : Int32)), (.int (0 : Int32)), (.int (0 : Int32)), (.int (0 : Int32)), (.int (0 : Int32)), (.int (0 : Int32)), (.int (0 : Int32))] (.int (0 : Int32)) := (Arv.new A_2 (by decide)).pad (pad_rep [] (.int (0 : Int32)) 11)
  refine own_go (g' := (mkF m 30 #[.val (.long q1), .second, .val (.int p2), .val (.int p3), .val (.int p4), .val (.int lk), .val (.int nn), .val (.ref b_1), .unset, .unset, .unset, .unset, .unset, .unset, .unset, .unset, .unset] [(.ref b_2)])) st_2 ?_
  refine own_go (T' := T_2) (g' := (mkF m 36 #[.val (.long q1), .second, .val (.int p2), .val (.int p3), .val (.int p4), .val (.int lk), .val (.int nn), .val (.ref b_1), .val (.ref b_2), .unset, .unset, .unset, .unset, .unset, .unset, .unset, .unset] [(.long q1), (.int (0 : Int32)), (.ref b_1)])) (fun t kt => ?_) ?_
  · show Steps p.tables e below (T_2.setTop (mkF m 30 #[.val (.long q1), .second, .val (.int p2), .val (.int p3), .val (.int p4), .val (.int lk), .val (.int nn), .val (.ref b_1), .unset, .unset, .unset, .unset, .unset, .unset, .unset, .unset, .unset] [(.ref b_2)])) t
    refine XS.astore X_2.here hx rfl (hb hby at_30) rfl rfl (l' := #[.val (.long q1), .second, .val (.int p2), .val (.int p3), .val (.int p4), .val (.int lk), .val (.int nn), .val (.ref b_1), .val (.ref b_2), .unset, .unset, .unset, .unset, .unset, .unset, .unset, .unset]) rfl ?_
    show Steps p.tables e below (T_2.setTop (mkF m 32 #[.val (.long q1), .second, .val (.int p2), .val (.int p3), .val (.int p4), .val (.int lk), .val (.int nn), .val (.ref b_1), .val (.ref b_2), .unset, .unset, .unset, .unset, .unset, .unset, .unset, .unset] [])) t
    refine XS.aload X_2.here hx rfl (hb hby at_32) rfl rfl ?_
    show Steps p.tables e below (T_2.setTop (mkF m 34 #[.val (.long q1), .second, .val (.int p2), .val (.int p3), .val (.int p4), .val (.int lk), .val (.int nn), .val (.ref b_1), .val (.ref b_2), .unset, .unset, .unset, .unset, .unset, .unset, .unset, .unset] [(.ref b_1)])) t
    refine XS.iconst X_2.here hx rfl (hb hby at_34) ?_
    show Steps p.tables e below (T_2.setTop (mkF m 35 #[.val (.long q1), .second, .val (.int p2), .val (.int p3), .val (.int p4), .val (.int lk), .val (.int nn), .val (.ref b_1), .val (.ref b_2), .unset, .unset, .unset, .unset, .unset, .unset, .unset, .unset] [(.int (0 : Int32)), (.ref b_1)])) t
    refine XS.lloadN X_2.here hx rfl (hb hby at_35) rfl ?_
    exact kt
  have f_3 := (V_1.ext E_2)
  obtain ⟨_, _, ⟨T_4, L_4, k_4, n_4⟩, -, X_4, ⟨Lc_4, hQ_4, l_4, y_4, z_4⟩, st_4⟩ := Jvm.LawKit.callS X_2 hx (y := (⟨"com/example/thin_table/thintable/model/KeyOrderNewestValuePinLaw", "put", "([BIJ)V"⟩ : MethodName)) hown (mvT hZ (hw _ (List.mem_of_getElem? (i := 1) rfl))) (mvT hZ (hw _ (List.mem_of_getElem? (i := 2) rfl))) (mvT hZ (hw _ (List.mem_of_getElem? (i := 3) rfl))) (mvT hZ (hw _ (List.mem_of_getElem? (i := 4) rfl))) (by decide) (backOf (W := 0) (rput l Z a0 hw [] (b_1) ((0 : Int32)) (q1) k_1 (8 : Int32) [(.int (0 : Int32)), (.int (0 : Int32)), (.int (0 : Int32)), (.int (0 : Int32)), (.int (0 : Int32)), (.int (0 : Int32)), (.int (0 : Int32)), (.int (0 : Int32))] 0 h_2 n0 Z_2 f_3 g_b_1 rfl (Nat.le_of_ble_eq_true rfl) rfl (Nat.le_of_ble_eq_true rfl)) hZ (hw _ (List.mem_of_getElem? (i := 4) rfl)) (hw _ (List.mem_of_getElem? (i := 3) rfl)) (by decide) (by decide)) (g := (mkF m 36 #[.val (.long q1), .second, .val (.int p2), .val (.int p3), .val (.int p4), .val (.int lk), .val (.int nn), .val (.ref b_1), .val (.ref b_2), .unset, .unset, .unset, .unset, .unset, .unset, .unset, .unset] [(.long q1), (.int (0 : Int32)), (.ref b_1)])) rfl (by rw [hml]; rfl) (argsL := [(.ref b_1), (.int (0 : Int32)), (.long q1)]) (rest := []) (lenOf pd_0 rfl) rfl (by show 2 * 0 + _ ≤ _; exact Nat.le_of_eq rfl) (hb hby at_36) (fun _ _ => ⟨rfl, e_2, (by decide : 2 + 0 ≤ _), (by decide : 19 + 0 ≤ _)⟩)
  dsimp only [Pt.U, Pt.locs, Pt.cells, Pt.slots] at X_4 l_4 y_4 z_4 st_4 hQ_4
  subst l_4 y_4 z_4
  obtain ⟨rfl, N_4q, K_4, V_4⟩ := hQ_4
  have N_4 := Fr.app N0 N_4q
  have Z_4 : n0 ≤ T_4.heap.size := Nat.le_trans Z_2 K_4.1
  refine own_go (g' := (mkF m 39 #[.val (.long q1), .second, .val (.int p2), .val (.int p3), .val (.int p4), .val (.int lk), .val (.int nn), .val (.ref b_1), .val (.ref b_2), .unset, .unset, .unset, .unset, .unset, .unset, .unset, .unset] [])) st_4 ?_
  replace V_4 : Arv Z T_4.heap b_1 k_1 .byte (8 : Int32) [(.int (own_by q1 56)), (.int (own_by q1 48)), (.int (own_by q1 40)), (.int (own_by q1 32)), (.int (own_by q1 24)), (.int (own_by q1 16)), (.int (own_by q1 8)), (.int (own_b0 q1))] (.int (0 : Int32)) := V_4
  refine own_go (T' := T_4) (g' := (mkF m 44 #[.val (.long q1), .second, .val (.int p2), .val (.int p3), .val (.int p4), .val (.int lk), .val (.int nn), .val (.ref b_1), .val (.ref b_2), .unset, .unset, .unset, .unset, .unset, .unset, .unset, .unset] [(.int (p2.toInt8.toInt32)), (.int (0 : Int32)), (.ref b_2)])) (fun t kt => ?_) ?_
  · show Steps p.tables e below (T_4.setTop (mkF m 39 #[.val (.long q1), .second, .val (.int p2), .val (.int p3), .val (.int p4), .val (.int lk), .val (.int nn), .val (.ref b_1), .val (.ref b_2), .unset, .unset, .unset, .unset, .unset, .unset, .unset, .unset] [])) t
    refine XS.aload X_4.here hx rfl (hb hby at_39) rfl rfl ?_
    show Steps p.tables e below (T_4.setTop (mkF m 41 #[.val (.long q1), .second, .val (.int p2), .val (.int p3), .val (.int p4), .val (.int lk), .val (.int nn), .val (.ref b_1), .val (.ref b_2), .unset, .unset, .unset, .unset, .unset, .unset, .unset, .unset] [(.ref b_2)])) t
    refine XS.iconst X_4.here hx rfl (hb hby at_41) ?_
    show Steps p.tables e below (T_4.setTop (mkF m 42 #[.val (.long q1), .second, .val (.int p2), .val (.int p3), .val (.int p4), .val (.int lk), .val (.int nn), .val (.ref b_1), .val (.ref b_2), .unset, .unset, .unset, .unset, .unset, .unset, .unset, .unset] [(.int (0 : Int32)), (.ref b_2)])) t
    refine XS.iloadN X_4.here hx rfl (hb hby at_42) rfl ?_
    show Steps p.tables e below (T_4.setTop (mkF m 43 #[.val (.long q1), .second, .val (.int p2), .val (.int p3), .val (.int p4), .val (.int lk), .val (.int nn), .val (.ref b_1), .val (.ref b_2), .unset, .unset, .unset, .unset, .unset, .unset, .unset, .unset] [(.int p2), (.int (0 : Int32)), (.ref b_2)])) t
    refine XS.i2b X_4.here hx rfl (hb hby at_43) rfl ?_
    exact kt
  have f_6 := (V_2.keep K_4 (ninS (Ne.symm ne_b_1_b_2) nin0))
  have vq_5 := f_6
  obtain ⟨c_5, a_5, q_5, s_5, m_5, H_5, G_5⟩ := vq_5
  have hin_5 : ¬ ((0 : Int32) < 0 ∨ c_5.slots.size ≤ ((0 : Int32)).toNatClampNeg) := inb_of s_5 ⟨by decide, by decide⟩
  obtain ⟨T_5, h_5, X_5, e_5, W_5, st_5⟩ := stB X_4 hx hZ rfl a_5 (j := (0 : Int32)) hin_5 (g := (mkF m 44 #[.val (.long q1), .second, .val (.int p2), .val (.int p3), .val (.int p4), .val (.int lk), .val (.int nn), .val (.ref b_1), .val (.ref b_2), .unset, .unset, .unset, .unset, .unset, .unset, .unset, .unset] [(.int (p2.toInt8.toInt32)), (.int (0 : Int32)), (.ref b_2)])) rfl rfl (hb hby at_44)
  have V_5 : Arv Z h_5 b_2 k_2 .byte (11 : Int32) [(.int (nar .byte (p2.toInt8.toInt32))), (.int (0 : Int32)), (.int (0 : Int32)), (.int (0 : Int32)), (.int (0 : Int32)), (.int (0 : Int32)), (.int (0 : Int32)), (.int (0 : Int32)), (.int (0 : Int32)), (.int (0 : Int32)), (.int (0 : Int32))] (.int (0 : Int32)) := Arv.set a_5 q_5 s_5 m_5 H_5 G_5 (fits_nar_byte _) W_5 0 rfl (Nat.le_of_ble_eq_true rfl)
  have Z_5 : n0 ≤ h_5.size := Nat.le_trans Z_4 (Keep.of_wr W_5).1
  have N_5 := Fr.snoc X_5 N_4 g_b_2
  refine own_go (g' := (mkF m 45 #[.val (.long q1), .second, .val (.int p2), .val (.int p3), .val (.int p4), .val (.int lk), .val (.int nn), .val (.ref b_1), .val (.ref b_2), .unset, .unset, .unset, .unset, .unset, .unset, .unset, .unset] [])) st_5 ?_
  refine own_go (T' := T_5) (g' := (mkF m 53 #[.val (.long q1), .second, .val (.int p2), .val (.int p3), .val (.int p4), .val (.int lk), .val (.int nn), .val (.ref b_1), .val (.ref b_2), .unset, .unset, .unset, .unset, .unset, .unset, .unset, .unset] [(.int (((p2.toUInt32 >>> ((8 : Int32) &&& 31).toUInt32).toInt32).toInt8.toInt32)), (.int (1 : Int32)), (.ref b_2)])) (fun t kt => ?_) ?_
  · show Steps p.tables e below (T_5.setTop (mkF m 45 #[.val (.long q1), .second, .val (.int p2), .val (.int p3), .val (.int p4), .val (.int lk), .val (.int nn), .val (.ref b_1), .val (.ref b_2), .unset, .unset, .unset, .unset, .unset, .unset, .unset, .unset] [])) t
    refine XS.aload X_5.here hx rfl (hb hby at_45) rfl rfl ?_
    show Steps p.tables e below (T_5.setTop (mkF m 47 #[.val (.long q1), .second, .val (.int p2), .val (.int p3), .val (.int p4), .val (.int lk), .val (.int nn), .val (.ref b_1), .val (.ref b_2), .unset, .unset, .unset, .unset, .unset, .unset, .unset, .unset] [(.ref b_2)])) t
    refine XS.iconst X_5.here hx rfl (hb hby at_47) ?_
    show Steps p.tables e below (T_5.setTop (mkF m 48 #[.val (.long q1), .second, .val (.int p2), .val (.int p3), .val (.int p4), .val (.int lk), .val (.int nn), .val (.ref b_1), .val (.ref b_2), .unset, .unset, .unset, .unset, .unset, .unset, .unset, .unset] [(.int (1 : Int32)), (.ref b_2)])) t
    refine XS.iloadN X_5.here hx rfl (hb hby at_48) rfl ?_
    show Steps p.tables e below (T_5.setTop (mkF m 49 #[.val (.long q1), .second, .val (.int p2), .val (.int p3), .val (.int p4), .val (.int lk), .val (.int nn), .val (.ref b_1), .val (.ref b_2), .unset, .unset, .unset, .unset, .unset, .unset, .unset, .unset] [(.int p2), (.int (1 : Int32)), (.ref b_2)])) t
    refine XS.bipush X_5.here hx rfl (hb hby at_49) ?_
    show Steps p.tables e below (T_5.setTop (mkF m 51 #[.val (.long q1), .second, .val (.int p2), .val (.int p3), .val (.int p4), .val (.int lk), .val (.int nn), .val (.ref b_1), .val (.ref b_2), .unset, .unset, .unset, .unset, .unset, .unset, .unset, .unset] [(.int (8 : Int32)), (.int p2), (.int (1 : Int32)), (.ref b_2)])) t
    refine XS.iushr X_5.here hx rfl (hb hby at_51) rfl ?_
    show Steps p.tables e below (T_5.setTop (mkF m 52 #[.val (.long q1), .second, .val (.int p2), .val (.int p3), .val (.int p4), .val (.int lk), .val (.int nn), .val (.ref b_1), .val (.ref b_2), .unset, .unset, .unset, .unset, .unset, .unset, .unset, .unset] [(.int ((p2.toUInt32 >>> ((8 : Int32) &&& 31).toUInt32).toInt32)), (.int (1 : Int32)), (.ref b_2)])) t
    refine XS.i2b X_5.here hx rfl (hb hby at_52) rfl ?_
    exact kt
  have vq_7 := V_5
  obtain ⟨c_7, a_7, q_7, s_7, m_7, H_7, G_7⟩ := vq_7
  have hin_7 : ¬ ((1 : Int32) < 0 ∨ c_7.slots.size ≤ ((1 : Int32)).toNatClampNeg) := inb_of s_7 ⟨by decide, by decide⟩
  obtain ⟨T_7, h_7, X_7, e_7, W_7, st_7⟩ := stB X_5 hx hZ e_5 a_7 (j := (1 : Int32)) hin_7 (g := (mkF m 53 #[.val (.long q1), .second, .val (.int p2), .val (.int p3), .val (.int p4), .val (.int lk), .val (.int nn), .val (.ref b_1), .val (.ref b_2), .unset, .unset, .unset, .unset, .unset, .unset, .unset, .unset] [(.int (((p2.toUInt32 >>> ((8 : Int32) &&& 31).toUInt32).toInt32).toInt8.toInt32)), (.int (1 : Int32)), (.ref b_2)])) rfl rfl (hb hby at_53)
  have V_7 : Arv Z h_7 b_2 k_2 .byte (11 : Int32) [(.int (nar .byte (p2.toInt8.toInt32))), (.int (nar .byte (((p2.toUInt32 >>> ((8 : Int32) &&& 31).toUInt32).toInt32).toInt8.toInt32))), (.int (0 : Int32)), (.int (0 : Int32)), (.int (0 : Int32)), (.int (0 : Int32)), (.int (0 : Int32)), (.int (0 : Int32)), (.int (0 : Int32)), (.int (0 : Int32)), (.int (0 : Int32))] (.int (0 : Int32)) := Arv.set a_7 q_7 s_7 m_7 H_7 G_7 (fits_nar_byte _) W_7 1 rfl (Nat.le_of_ble_eq_true rfl)
  have Z_7 : n0 ≤ h_7.size := Nat.le_trans Z_5 (Keep.of_wr W_7).1
  have N_7 := Fr.snoc X_7 N_5 g_b_2
  refine own_go (g' := (mkF m 54 #[.val (.long q1), .second, .val (.int p2), .val (.int p3), .val (.int p4), .val (.int lk), .val (.int nn), .val (.ref b_1), .val (.ref b_2), .unset, .unset, .unset, .unset, .unset, .unset, .unset, .unset] [])) st_7 ?_
  refine own_go (T' := T_7) (g' := (mkF m 62 #[.val (.long q1), .second, .val (.int p2), .val (.int p3), .val (.int p4), .val (.int lk), .val (.int nn), .val (.ref b_1), .val (.ref b_2), .unset, .unset, .unset, .unset, .unset, .unset, .unset, .unset] [(.int (((p2.toUInt32 >>> ((16 : Int32) &&& 31).toUInt32).toInt32).toInt8.toInt32)), (.int (2 : Int32)), (.ref b_2)])) (fun t kt => ?_) ?_
  · show Steps p.tables e below (T_7.setTop (mkF m 54 #[.val (.long q1), .second, .val (.int p2), .val (.int p3), .val (.int p4), .val (.int lk), .val (.int nn), .val (.ref b_1), .val (.ref b_2), .unset, .unset, .unset, .unset, .unset, .unset, .unset, .unset] [])) t
    refine XS.aload X_7.here hx rfl (hb hby at_54) rfl rfl ?_
    show Steps p.tables e below (T_7.setTop (mkF m 56 #[.val (.long q1), .second, .val (.int p2), .val (.int p3), .val (.int p4), .val (.int lk), .val (.int nn), .val (.ref b_1), .val (.ref b_2), .unset, .unset, .unset, .unset, .unset, .unset, .unset, .unset] [(.ref b_2)])) t
    refine XS.iconst X_7.here hx rfl (hb hby at_56) ?_
    show Steps p.tables e below (T_7.setTop (mkF m 57 #[.val (.long q1), .second, .val (.int p2), .val (.int p3), .val (.int p4), .val (.int lk), .val (.int nn), .val (.ref b_1), .val (.ref b_2), .unset, .unset, .unset, .unset, .unset, .unset, .unset, .unset] [(.int (2 : Int32)), (.ref b_2)])) t
    refine XS.iloadN X_7.here hx rfl (hb hby at_57) rfl ?_
    show Steps p.tables e below (T_7.setTop (mkF m 58 #[.val (.long q1), .second, .val (.int p2), .val (.int p3), .val (.int p4), .val (.int lk), .val (.int nn), .val (.ref b_1), .val (.ref b_2), .unset, .unset, .unset, .unset, .unset, .unset, .unset, .unset] [(.int p2), (.int (2 : Int32)), (.ref b_2)])) t
    refine XS.bipush X_7.here hx rfl (hb hby at_58) ?_
    show Steps p.tables e below (T_7.setTop (mkF m 60 #[.val (.long q1), .second, .val (.int p2), .val (.int p3), .val (.int p4), .val (.int lk), .val (.int nn), .val (.ref b_1), .val (.ref b_2), .unset, .unset, .unset, .unset, .unset, .unset, .unset, .unset] [(.int (16 : Int32)), (.int p2), (.int (2 : Int32)), (.ref b_2)])) t
    refine XS.iushr X_7.here hx rfl (hb hby at_60) rfl ?_
    show Steps p.tables e below (T_7.setTop (mkF m 61 #[.val (.long q1), .second, .val (.int p2), .val (.int p3), .val (.int p4), .val (.int lk), .val (.int nn), .val (.ref b_1), .val (.ref b_2), .unset, .unset, .unset, .unset, .unset, .unset, .unset, .unset] [(.int ((p2.toUInt32 >>> ((16 : Int32) &&& 31).toUInt32).toInt32)), (.int (2 : Int32)), (.ref b_2)])) t
    refine XS.i2b X_7.here hx rfl (hb hby at_61) rfl ?_
    exact kt
  have vq_8 := V_7
  obtain ⟨c_8, a_8, q_8, s_8, m_8, H_8, G_8⟩ := vq_8
  have hin_8 : ¬ ((2 : Int32) < 0 ∨ c_8.slots.size ≤ ((2 : Int32)).toNatClampNeg) := inb_of s_8 ⟨by decide, by decide⟩
  obtain ⟨T_8, h_8, X_8, e_8, W_8, st_8⟩ := stB X_7 hx hZ e_7 a_8 (j := (2 : Int32)) hin_8 (g := (mkF m 62 #[.val (.long q1), .second, .val (.int p2), .val (.int p3), .val (.int p4), .val (.int lk), .val (.int nn), .val (.ref b_1), .val (.ref b_2), .unset, .unset, .unset, .unset, .unset, .unset, .unset, .unset] [(.int (((p2.toUInt32 >>> ((16 : Int32) &&& 31).toUInt32).toInt32).toInt8.toInt32)), (.int (2 : Int32)), (.ref b_2)])) rfl rfl (hb hby at_62)
  have V_8 : Arv Z h_8 b_2 k_2 .byte (11 : Int32) [(.int (nar .byte (p2.toInt8.toInt32))), (.int (nar .byte (((p2.toUInt32 >>> ((8 : Int32) &&& 31).toUInt32).toInt32).toInt8.toInt32))), (.int (nar .byte (((p2.toUInt32 >>> ((16 : Int32) &&& 31).toUInt32).toInt32).toInt8.toInt32))), (.int (0 : Int32)), (.int (0 : Int32)), (.int (0 : Int32)), (.int (0 : Int32)), (.int (0 : Int32)), (.int (0 : Int32)), (.int (0 : Int32)), (.int (0 : Int32))] (.int (0 : Int32)) := Arv.set a_8 q_8 s_8 m_8 H_8 G_8 (fits_nar_byte _) W_8 2 rfl (Nat.le_of_ble_eq_true rfl)
  have Z_8 : n0 ≤ h_8.size := Nat.le_trans Z_7 (Keep.of_wr W_8).1
  have N_8 := Fr.snoc X_8 N_7 g_b_2
  refine own_go (g' := (mkF m 63 #[.val (.long q1), .second, .val (.int p2), .val (.int p3), .val (.int p4), .val (.int lk), .val (.int nn), .val (.ref b_1), .val (.ref b_2), .unset, .unset, .unset, .unset, .unset, .unset, .unset, .unset] [])) st_8 ?_
  refine own_go (T' := T_8) (g' := (mkF m 67 #[.val (.long q1), .second, .val (.int p2), .val (.int p3), .val (.int p4), .val (.int lk), .val (.int nn), .val (.ref b_1), .val (.ref b_2), .unset, .unset, .unset, .unset, .unset, .unset, .unset, .unset] [(.long q1), (.int (3 : Int32)), (.ref b_2)])) (fun t kt => ?_) ?_
  · show Steps p.tables e below (T_8.setTop (mkF m 63 #[.val (.long q1), .second, .val (.int p2), .val (.int p3), .val (.int p4), .val (.int lk), .val (.int nn), .val (.ref b_1), .val (.ref b_2), .unset, .unset, .unset, .unset, .unset, .unset, .unset, .unset] [])) t
    refine XS.aload X_8.here hx rfl (hb hby at_63) rfl rfl ?_
    show Steps p.tables e below (T_8.setTop (mkF m 65 #[.val (.long q1), .second, .val (.int p2), .val (.int p3), .val (.int p4), .val (.int lk), .val (.int nn), .val (.ref b_1), .val (.ref b_2), .unset, .unset, .unset, .unset, .unset, .unset, .unset, .unset] [(.ref b_2)])) t
    refine XS.iconst X_8.here hx rfl (hb hby at_65) ?_
    show Steps p.tables e below (T_8.setTop (mkF m 66 #[.val (.long q1), .second, .val (.int p2), .val (.int p3), .val (.int p4), .val (.int lk), .val (.int nn), .val (.ref b_1), .val (.ref b_2), .unset, .unset, .unset, .unset, .unset, .unset, .unset, .unset] [(.int (3 : Int32)), (.ref b_2)])) t
    refine XS.lloadN X_8.here hx rfl (hb hby at_66) rfl ?_
    exact kt
  obtain ⟨_, _, ⟨T_9, L_9, k_9, n_9⟩, -, X_9, ⟨Lc_9, hQ_9, l_9, y_9, z_9⟩, st_9⟩ := Jvm.LawKit.callS X_8 hx (y := (⟨"com/example/thin_table/thintable/model/KeyOrderNewestValuePinLaw", "put", "([BIJ)V"⟩ : MethodName)) hown (mvT hZ (hw _ (List.mem_of_getElem? (i := 1) rfl))) (mvT hZ (hw _ (List.mem_of_getElem? (i := 2) rfl))) (mvT hZ (hw _ (List.mem_of_getElem? (i := 3) rfl))) (mvT hZ (hw _ (List.mem_of_getElem? (i := 4) rfl))) (by decide) (backOf (W := 0) (rput l Z a0 hw [] (b_2) ((3 : Int32)) (q1) k_2 (11 : Int32) [(.int (nar .byte (p2.toInt8.toInt32))), (.int (nar .byte (((p2.toUInt32 >>> ((8 : Int32) &&& 31).toUInt32).toInt32).toInt8.toInt32))), (.int (nar .byte (((p2.toUInt32 >>> ((16 : Int32) &&& 31).toUInt32).toInt32).toInt8.toInt32))), (.int (0 : Int32)), (.int (0 : Int32)), (.int (0 : Int32)), (.int (0 : Int32)), (.int (0 : Int32)), (.int (0 : Int32)), (.int (0 : Int32)), (.int (0 : Int32))] 3 h_8 n0 Z_8 V_8 g_b_2 rfl (Nat.le_of_ble_eq_true rfl) rfl (Nat.le_of_ble_eq_true rfl)) hZ (hw _ (List.mem_of_getElem? (i := 4) rfl)) (hw _ (List.mem_of_getElem? (i := 3) rfl)) (by decide) (by decide)) (g := (mkF m 67 #[.val (.long q1), .second, .val (.int p2), .val (.int p3), .val (.int p4), .val (.int lk), .val (.int nn), .val (.ref b_1), .val (.ref b_2), .unset, .unset, .unset, .unset, .unset, .unset, .unset, .unset] [(.long q1), (.int (3 : Int32)), (.ref b_2)])) rfl (by rw [hml]; rfl) (argsL := [(.ref b_2), (.int (3 : Int32)), (.long q1)]) (rest := []) (lenOf pd_0 rfl) rfl (by show 2 * 0 + _ ≤ _; exact Nat.le_of_eq rfl) (hb hby at_67) (fun _ _ => ⟨rfl, e_8, (by decide : 2 + 0 ≤ _), (by decide : 19 + 0 ≤ _)⟩)
  dsimp only [Pt.U, Pt.locs, Pt.cells, Pt.slots] at X_9 l_9 y_9 z_9 st_9 hQ_9
  subst l_9 y_9 z_9
  obtain ⟨rfl, N_9q, K_9, V_9⟩ := hQ_9
  have N_9 := Fr.app N_8 N_9q
  have Z_9 : n0 ≤ T_9.heap.size := Nat.le_trans Z_8 K_9.1
  refine own_go (g' := (mkF m 70 #[.val (.long q1), .second, .val (.int p2), .val (.int p3), .val (.int p4), .val (.int lk), .val (.int nn), .val (.ref b_1), .val (.ref b_2), .unset, .unset, .unset, .unset, .unset, .unset, .unset, .unset] [])) st_9 ?_
  replace V_9 : Arv Z T_9.heap b_2 k_2 .byte (11 : Int32) [(.int (nar .byte (p2.toInt8.toInt32))), (.int (nar .byte (((p2.toUInt32 >>> ((8 : Int32) &&& 31).toUInt32).toInt32).toInt8.toInt32))), (.int (nar .byte (((p2.toUInt32 >>> ((16 : Int32) &&& 31).toUInt32).toInt32).toInt8.toInt32))), (.int (own_by q1 56)), (.int (own_by q1 48)), (.int (own_by q1 40)), (.int (own_by q1 32)), (.int (own_by q1 24)), (.int (own_by q1 16)), (.int (own_by q1 8)), (.int (own_b0 q1))] (.int (0 : Int32)) := V_9
  refine own_go (T' := T_9) (g' := (mkF m 71 #[.val (.long q1), .second, .val (.int p2), .val (.int p3), .val (.int p4), .val (.int lk), .val (.int nn), .val (.ref b_1), .val (.ref b_2), .unset, .unset, .unset, .unset, .unset, .unset, .unset, .unset] [(.int (0 : Int32))])) (fun t kt => ?_) ?_
  · show Steps p.tables e below (T_9.setTop (mkF m 70 #[.val (.long q1), .second, .val (.int p2), .val (.int p3), .val (.int p4), .val (.int lk), .val (.int nn), .val (.ref b_1), .val (.ref b_2), .unset, .unset, .unset, .unset, .unset, .unset, .unset, .unset] [])) t
    refine XS.iconst X_9.here hx rfl (hb hby at_70) ?_
    exact kt
  obtain ⟨T_10, h_10, k_10, X_10, e_10, E_10, A_10, B_10, st_10⟩ := newPE X_9 hx hZ (hw _ (List.mem_of_getElem? (i := 0) rfl)) rfl (g := (mkF m 71 #[.val (.long q1), .second, .val (.int p2), .val (.int p3), .val (.int p4), .val (.int lk), .val (.int nn), .val (.ref b_1), .val (.ref b_2), .unset, .unset, .unset, .unset, .unset, .unset, .unset, .unset] [(.int (0 : Int32))])) rfl (hb hby at_71) rfl (by decide) (cap := 0) (by decide) (by decide) (by decide) (by decide) (ad := "[B") (by decide)
  obtain ⟨b_10, g_10⟩ : ∃ z, z = T_9.heap.size := ⟨_, rfl⟩
  rw [← g_10] at A_10 B_10 st_10
  have f_11 := ((((((B_1.ext E_2).keep K_4).wr W_5).wr W_7).wr W_8).keep K_9)
  have ne_b_1_b_10 : b_1 ≠ b_10 := Nat.ne_of_lt (Nat.lt_of_lt_of_le f_11.lt (Nat.le_of_eq g_10.symm))
  have f_12 := (((((B_2.keep K_4).wr W_5).wr W_7).wr W_8).keep K_9)
  have ne_b_2_b_10 : b_2 ≠ b_10 := Nat.ne_of_lt (Nat.lt_of_lt_of_le f_12.lt (Nat.le_of_eq g_10.symm))
  have g_b_10 : n0 ≤ b_10 := Nat.le_trans Z_9 (Nat.le_of_eq g_10.symm)
  have Z_10 : n0 ≤ h_10.size := Nat.le_trans Z_9 E_10.1
  have V_10 : Arv Z h_10 b_10 k_10 .byte (0 : Int32) [] (.int (0 : Int32)) := (Arv.new A_10 (by decide)).pad (pad_rep [] (.int (0 : Int32)) 0)
  refine own_go (g' := (mkF m 73 #[.val (.long q1), .second, .val (.int p2), .val (.int p3), .val (.int p4), .val (.int lk), .val (.int nn), .val (.ref b_1), .val (.ref b_2), .unset, .unset, .unset, .unset, .unset, .unset, .unset, .unset] [(.ref b_10)])) st_10 ?_
  refine own_go (T' := T_10) (g' := (mkF m 76 #[.val (.long q1), .second, .val (.int p2), .val (.int p3), .val (.int p4), .val (.int lk), .val (.int nn), .val (.ref b_1), .val (.ref b_2), .val (.ref b_10), .unset, .unset, .unset, .unset, .unset, .unset, .unset] [(.int (1 : Int32))])) (fun t kt => ?_) ?_
  · show Steps p.tables e below (T_10.setTop (mkF m 73 #[.val (.long q1), .second, .val (.int p2), .val (.int p3), .val (.int p4), .val (.int lk), .val (.int nn), .val (.ref b_1), .val (.ref b_2), .unset, .unset, .unset, .unset, .unset, .unset, .unset, .unset] [(.ref b_10)])) t
    refine XS.astore X_10.here hx rfl (hb hby at_73) rfl rfl (l' := #[.val (.long q1), .second, .val (.int p2), .val (.int p3), .val (.int p4), .val (.int lk), .val (.int nn), .val (.ref b_1), .val (.ref b_2), .val (.ref b_10), .unset, .unset, .unset, .unset, .unset, .unset, .unset]) rfl ?_
    show Steps p.tables e below (T_10.setTop (mkF m 75 #[.val (.long q1), .second, .val (.int p2), .val (.int p3), .val (.int p4), .val (.int lk), .val (.int nn), .val (.ref b_1), .val (.ref b_2), .val (.ref b_10), .unset, .unset, .unset, .unset, .unset, .unset, .unset] [])) t
    refine XS.iconst X_10.here hx rfl (hb hby at_75) ?_
    exact kt
  obtain ⟨T_13, h_13, k_13, X_13, e_13, E_13, A_13, B_13, st_13⟩ := newPE X_10 hx hZ (hw _ (List.mem_of_getElem? (i := 0) rfl)) e_10 (g := (mkF m 76 #[.val (.long q1), .second, .val (.int p2), .val (.int p3), .val (.int p4), .val (.int lk), .val (.int nn), .val (.ref b_1), .val (.ref b_2), .val (.ref b_10), .unset, .unset, .unset, .unset, .unset, .unset, .unset] [(.int (1 : Int32))])) rfl (hb hby at_76) rfl (by decide) (cap := 1) (by decide) (by decide) (by decide) (by decide) (ad := "[B") (by decide)
  obtain ⟨b_13, g_13⟩ : ∃ z, z = h_10.size := ⟨_, rfl⟩
  rw [← g_13] at A_13 B_13 st_13
  have f_14 := (f_11.ext E_10)
  have ne_b_1_b_13 : b_1 ≠ b_13 := Nat.ne_of_lt (Nat.lt_of_lt_of_le f_14.lt (Nat.le_of_eq g_13.symm))
  have f_15 := (f_12.ext E_10)
  have ne_b_2_b_13 : b_2 ≠ b_13 := Nat.ne_of_lt (Nat.lt_of_lt_of_le f_15.lt (Nat.le_of_eq g_13.symm))
  have ne_b_10_b_13 : b_10 ≠ b_13 := Nat.ne_of_lt (Nat.lt_of_lt_of_le B_10.lt (Nat.le_of_eq g_13.symm))
  have g_b_13 : n0 ≤ b_13 := Nat.le_trans Z_10 (Nat.le_of_eq g_13.symm)
  have Z_13 : n0 ≤ h_13.size := Nat.le_trans Z_10 E_13.1
  have V_13 : Arv Z h_13 b_13 k_13 .byte (1 : Int32) [(.int (0 : Int32))] (.int (0 : Int32)) := (Arv.new A_13 (by decide)).pad (pad_rep [] (.int (0 : Int32)) 1)
  refine own_go (g' := (mkF m 78 #[.val (.long q1), .second, .val (.int p2), .val (.int p3), .val (.int p4), .val (.int lk), .val (.int nn), .val (.ref b_1), .val (.ref b_2), .val (.ref b_10), .unset, .unset, .unset, .unset, .unset, .unset, .unset] [(.ref b_13)])) st_13 ?_
  refine own_go (T' := T_13) (g' := (mkF m 81 #[.val (.long q1), .second, .val (.int p2), .val (.int p3), .val (.int p4), .val (.int lk), .val (.int nn), .val (.ref b_1), .val (.ref b_2), .val (.ref b_10), .val (.ref b_13), .unset, .unset, .unset, .unset, .unset, .unset] [(.int (2 : Int32))])) (fun t kt => ?_) ?_
  · show Steps p.tables e below (T_13.setTop (mkF m 78 #[.val (.long q1), .second, .val (.int p2), .val (.int p3), .val (.int p4), .val (.int lk), .val (.int nn), .val (.ref b_1), .val (.ref b_2), .val (.ref b_10), .unset, .unset, .unset, .unset, .unset, .unset, .unset] [(.ref b_13)])) t
    refine XS.astore X_13.here hx rfl (hb hby at_78) rfl rfl (l' := #[.val (.long q1), .second, .val (.int p2), .val (.int p3), .val (.int p4), .val (.int lk), .val (.int nn), .val (.ref b_1), .val (.ref b_2), .val (.ref b_10), .val (.ref b_13), .unset, .unset, .unset, .unset, .unset, .unset]) rfl ?_
    show Steps p.tables e below (T_13.setTop (mkF m 80 #[.val (.long q1), .second, .val (.int p2), .val (.int p3), .val (.int p4), .val (.int lk), .val (.int nn), .val (.ref b_1), .val (.ref b_2), .val (.ref b_10), .val (.ref b_13), .unset, .unset, .unset, .unset, .unset, .unset] [])) t
    refine XS.iconst X_13.here hx rfl (hb hby at_80) ?_
    exact kt
  obtain ⟨T_16, h_16, k_16, X_16, e_16, E_16, A_16, B_16, st_16⟩ := newPE X_13 hx hZ (hw _ (List.mem_of_getElem? (i := 0) rfl)) e_13 (g := (mkF m 81 #[.val (.long q1), .second, .val (.int p2), .val (.int p3), .val (.int p4), .val (.int lk), .val (.int nn), .val (.ref b_1), .val (.ref b_2), .val (.ref b_10), .val (.ref b_13), .unset, .unset, .unset, .unset, .unset, .unset] [(.int (2 : Int32))])) rfl (hb hby at_81) rfl (by decide) (cap := 2) (by decide) (by decide) (by decide) (by decide) (ad := "[B") (by decide)
  obtain ⟨b_16, g_16⟩ : ∃ z, z = h_13.size := ⟨_, rfl⟩
  rw [← g_16] at A_16 B_16 st_16
  have f_17 := (f_14.ext E_13)
  have ne_b_1_b_16 : b_1 ≠ b_16 := Nat.ne_of_lt (Nat.lt_of_lt_of_le f_17.lt (Nat.le_of_eq g_16.symm))
  have f_18 := (f_15.ext E_13)
  have ne_b_2_b_16 : b_2 ≠ b_16 := Nat.ne_of_lt (Nat.lt_of_lt_of_le f_18.lt (Nat.le_of_eq g_16.symm))
  have f_19 := (B_10.ext E_13)
  have ne_b_10_b_16 : b_10 ≠ b_16 := Nat.ne_of_lt (Nat.lt_of_lt_of_le f_19.lt (Nat.le_of_eq g_16.symm))
  have ne_b_13_b_16 : b_13 ≠ b_16 := Nat.ne_of_lt (Nat.lt_of_lt_of_le B_13.lt (Nat.le_of_eq g_16.symm))
  have g_b_16 : n0 ≤ b_16 := Nat.le_trans Z_13 (Nat.le_of_eq g_16.symm)
  have Z_16 : n0 ≤ h_16.size := Nat.le_trans Z_13 E_16.1
  have V_16 : Arv Z h_16 b_16 k_16 .byte (2 : Int32) [(.int (0 : Int32)), (.int (0 : Int32))] (.int (0 : Int32)) := (Arv.new A_16 (by decide)).pad (pad_rep [] (.int (0 : Int32)) 2)
  refine own_go (g' := (mkF m 83 #[.val (.long q1), .second, .val (.int p2), .val (.int p3), .val (.int p4), .val (.int lk), .val (.int nn), .val (.ref b_1), .val (.ref b_2), .val (.ref b_10), .val (.ref b_13), .unset, .unset, .unset, .unset, .unset, .unset] [(.ref b_16)])) st_16 ?_
  refine own_go (T' := T_16) (g' := (mkF m 86 #[.val (.long q1), .second, .val (.int p2), .val (.int p3), .val (.int p4), .val (.int lk), .val (.int nn), .val (.ref b_1), .val (.ref b_2), .val (.ref b_10), .val (.ref b_13), .val (.ref b_16), .unset, .unset, .unset, .unset, .unset] [(.int (3 : Int32))])) (fun t kt => ?_) ?_
  · show Steps p.tables e below (T_16.setTop (mkF m 83 #[.val (.long q1), .second, .val (.int p2), .val (.int p3), .val (.int p4), .val (.int lk), .val (.int nn), .val (.ref b_1), .val (.ref b_2), .val (.ref b_10), .val (.ref b_13), .unset, .unset, .unset, .unset, .unset, .unset] [(.ref b_16)])) t
    refine XS.astore X_16.here hx rfl (hb hby at_83) rfl rfl (l' := #[.val (.long q1), .second, .val (.int p2), .val (.int p3), .val (.int p4), .val (.int lk), .val (.int nn), .val (.ref b_1), .val (.ref b_2), .val (.ref b_10), .val (.ref b_13), .val (.ref b_16), .unset, .unset, .unset, .unset, .unset]) rfl ?_
    show Steps p.tables e below (T_16.setTop (mkF m 85 #[.val (.long q1), .second, .val (.int p2), .val (.int p3), .val (.int p4), .val (.int lk), .val (.int nn), .val (.ref b_1), .val (.ref b_2), .val (.ref b_10), .val (.ref b_13), .val (.ref b_16), .unset, .unset, .unset, .unset, .unset] [])) t
    refine XS.iconst X_16.here hx rfl (hb hby at_85) ?_
    exact kt
  obtain ⟨T_20, h_20, k_20, X_20, e_20, E_20, A_20, B_20, st_20⟩ := newPE X_16 hx hZ (hw _ (List.mem_of_getElem? (i := 0) rfl)) e_16 (g := (mkF m 86 #[.val (.long q1), .second, .val (.int p2), .val (.int p3), .val (.int p4), .val (.int lk), .val (.int nn), .val (.ref b_1), .val (.ref b_2), .val (.ref b_10), .val (.ref b_13), .val (.ref b_16), .unset, .unset, .unset, .unset, .unset] [(.int (3 : Int32))])) rfl (hb hby at_86) rfl (by decide) (cap := 3) (by decide) (by decide) (by decide) (by decide) (ad := "[B") (by decide)
  obtain ⟨b_20, g_20⟩ : ∃ z, z = h_16.size := ⟨_, rfl⟩
  rw [← g_20] at A_20 B_20 st_20
  have f_21 := (f_17.ext E_16)
  have ne_b_1_b_20 : b_1 ≠ b_20 := Nat.ne_of_lt (Nat.lt_of_lt_of_le f_21.lt (Nat.le_of_eq g_20.symm))
  have f_22 := (f_18.ext E_16)
  have ne_b_2_b_20 : b_2 ≠ b_20 := Nat.ne_of_lt (Nat.lt_of_lt_of_le f_22.lt (Nat.le_of_eq g_20.symm))
  have f_23 := (f_19.ext E_16)
  have ne_b_10_b_20 : b_10 ≠ b_20 := Nat.ne_of_lt (Nat.lt_of_lt_of_le f_23.lt (Nat.le_of_eq g_20.symm))
  have f_24 := (B_13.ext E_16)
  have ne_b_13_b_20 : b_13 ≠ b_20 := Nat.ne_of_lt (Nat.lt_of_lt_of_le f_24.lt (Nat.le_of_eq g_20.symm))
  have ne_b_16_b_20 : b_16 ≠ b_20 := Nat.ne_of_lt (Nat.lt_of_lt_of_le B_16.lt (Nat.le_of_eq g_20.symm))
  have g_b_20 : n0 ≤ b_20 := Nat.le_trans Z_16 (Nat.le_of_eq g_20.symm)
  have Z_20 : n0 ≤ h_20.size := Nat.le_trans Z_16 E_20.1
  have V_20 : Arv Z h_20 b_20 k_20 .byte (3 : Int32) [(.int (0 : Int32)), (.int (0 : Int32)), (.int (0 : Int32))] (.int (0 : Int32)) := (Arv.new A_20 (by decide)).pad (pad_rep [] (.int (0 : Int32)) 3)
  refine own_go (g' := (mkF m 88 #[.val (.long q1), .second, .val (.int p2), .val (.int p3), .val (.int p4), .val (.int lk), .val (.int nn), .val (.ref b_1), .val (.ref b_2), .val (.ref b_10), .val (.ref b_13), .val (.ref b_16), .unset, .unset, .unset, .unset, .unset] [(.ref b_20)])) st_20 ?_
  refine own_go (T' := T_20) (g' := (mkF m 95 #[.val (.long q1), .second, .val (.int p2), .val (.int p3), .val (.int p4), .val (.int lk), .val (.int nn), .val (.ref b_1), .val (.ref b_2), .val (.ref b_10), .val (.ref b_13), .val (.ref b_16), .val (.ref b_20), .unset, .unset, .unset, .unset] [(.int (p3.toInt8.toInt32)), (.int (0 : Int32)), (.ref b_13)])) (fun t kt => ?_) ?_
  · show Steps p.tables e below (T_20.setTop (mkF m 88 #[.val (.long q1), .second, .val (.int p2), .val (.int p3), .val (.int p4), .val (.int lk), .val (.int nn), .val (.ref b_1), .val (.ref b_2), .val (.ref b_10), .val (.ref b_13), .val (.ref b_16), .unset, .unset, .unset, .unset, .unset] [(.ref b_20)])) t
    refine XS.astore X_20.here hx rfl (hb hby at_88) rfl rfl (l' := #[.val (.long q1), .second, .val (.int p2), .val (.int p3), .val (.int p4), .val (.int lk), .val (.int nn), .val (.ref b_1), .val (.ref b_2), .val (.ref b_10), .val (.ref b_13), .val (.ref b_16), .val (.ref b_20), .unset, .unset, .unset, .unset]) rfl ?_
    show Steps p.tables e below (T_20.setTop (mkF m 90 #[.val (.long q1), .second, .val (.int p2), .val (.int p3), .val (.int p4), .val (.int lk), .val (.int nn), .val (.ref b_1), .val (.ref b_2), .val (.ref b_10), .val (.ref b_13), .val (.ref b_16), .val (.ref b_20), .unset, .unset, .unset, .unset] [])) t
    refine XS.aload X_20.here hx rfl (hb hby at_90) rfl rfl ?_
    show Steps p.tables e below (T_20.setTop (mkF m 92 #[.val (.long q1), .second, .val (.int p2), .val (.int p3), .val (.int p4), .val (.int lk), .val (.int nn), .val (.ref b_1), .val (.ref b_2), .val (.ref b_10), .val (.ref b_13), .val (.ref b_16), .val (.ref b_20), .unset, .unset, .unset, .unset] [(.ref b_13)])) t
    refine XS.iconst X_20.here hx rfl (hb hby at_92) ?_
    show Steps p.tables e below (T_20.setTop (mkF m 93 #[.val (.long q1), .second, .val (.int p2), .val (.int p3), .val (.int p4), .val (.int lk), .val (.int nn), .val (.ref b_1), .val (.ref b_2), .val (.ref b_10), .val (.ref b_13), .val (.ref b_16), .val (.ref b_20), .unset, .unset, .unset, .unset] [(.int (0 : Int32)), (.ref b_13)])) t
    refine XS.iloadN X_20.here hx rfl (hb hby at_93) rfl ?_
    show Steps p.tables e below (T_20.setTop (mkF m 94 #[.val (.long q1), .second, .val (.int p2), .val (.int p3), .val (.int p4), .val (.int lk), .val (.int nn), .val (.ref b_1), .val (.ref b_2), .val (.ref b_10), .val (.ref b_13), .val (.ref b_16), .val (.ref b_20), .unset, .unset, .unset, .unset] [(.int p3), (.int (0 : Int32)), (.ref b_13)])) t
    refine XS.i2b X_20.here hx rfl (hb hby at_94) rfl ?_
    exact kt
  have f_26 := ((V_13.ext E_16).ext E_20)
  have vq_25 := f_26
  obtain ⟨c_25, a_25, q_25, s_25, m_25, H_25, G_25⟩ := vq_25
  have hin_25 : ¬ ((0 : Int32) < 0 ∨ c_25.slots.size ≤ ((0 : Int32)).toNatClampNeg) := inb_of s_25 ⟨by decide, by decide⟩
  obtain ⟨T_25, h_25, X_25, e_25, W_25, st_25⟩ := stB X_20 hx hZ e_20 a_25 (j := (0 : Int32)) hin_25 (g := (mkF m 95 #[.val (.long q1), .second, .val (.int p2), .val (.int p3), .val (.int p4), .val (.int lk), .val (.int nn), .val (.ref b_1), .val (.ref b_2), .val (.ref b_10), .val (.ref b_13), .val (.ref b_16), .val (.ref b_20), .unset, .unset, .unset, .unset] [(.int (p3.toInt8.toInt32)), (.int (0 : Int32)), (.ref b_13)])) rfl rfl (hb hby at_95)
  have V_25 : Arv Z h_25 b_13 k_13 .byte (1 : Int32) [(.int (nar .byte (p3.toInt8.toInt32)))] (.int (0 : Int32)) := Arv.set a_25 q_25 s_25 m_25 H_25 G_25 (fits_nar_byte _) W_25 0 rfl (Nat.le_of_ble_eq_true rfl)
  have Z_25 : n0 ≤ h_25.size := Nat.le_trans Z_20 (Keep.of_wr W_25).1
  have N_25 := Fr.snoc X_25 N_9 g_b_13
  refine own_go (g' := (mkF m 96 #[.val (.long q1), .second, .val (.int p2), .val (.int p3), .val (.int p4), .val (.int lk), .val (.int nn), .val (.ref b_1), .val (.ref b_2), .val (.ref b_10), .val (.ref b_13), .val (.ref b_16), .val (.ref b_20), .unset, .unset, .unset, .unset] [])) st_25 ?_
  refine own_go (T' := T_25) (g' := (mkF m 101 #[.val (.long q1), .second, .val (.int p2), .val (.int p3), .val (.int p4), .val (.int lk), .val (.int nn), .val (.ref b_1), .val (.ref b_2), .val (.ref b_10), .val (.ref b_13), .val (.ref b_16), .val (.ref b_20), .unset, .unset, .unset, .unset] [(.int (p3.toInt8.toInt32)), (.int (0 : Int32)), (.ref b_16)])) (fun t kt => ?_) ?_
  · show Steps p.tables e below (T_25.setTop (mkF m 96 #[.val (.long q1), .second, .val (.int p2), .val (.int p3), .val (.int p4), .val (.int lk), .val (.int nn), .val (.ref b_1), .val (.ref b_2), .val (.ref b_10), .val (.ref b_13), .val (.ref b_16), .val (.ref b_20), .unset, .unset, .unset, .unset] [])) t
    refine XS.aload X_25.here hx rfl (hb hby at_96) rfl rfl ?_
    show Steps p.tables e below (T_25.setTop (mkF m 98 #[.val (.long q1), .second, .val (.int p2), .val (.int p3), .val (.int p4), .val (.int lk), .val (.int nn), .val (.ref b_1), .val (.ref b_2), .val (.ref b_10), .val (.ref b_13), .val (.ref b_16), .val (.ref b_20), .unset, .unset, .unset, .unset] [(.ref b_16)])) t
    refine XS.iconst X_25.here hx rfl (hb hby at_98) ?_
    show Steps p.tables e below (T_25.setTop (mkF m 99 #[.val (.long q1), .second, .val (.int p2), .val (.int p3), .val (.int p4), .val (.int lk), .val (.int nn), .val (.ref b_1), .val (.ref b_2), .val (.ref b_10), .val (.ref b_13), .val (.ref b_16), .val (.ref b_20), .unset, .unset, .unset, .unset] [(.int (0 : Int32)), (.ref b_16)])) t
    refine XS.iloadN X_25.here hx rfl (hb hby at_99) rfl ?_
    show Steps p.tables e below (T_25.setTop (mkF m 100 #[.val (.long q1), .second, .val (.int p2), .val (.int p3), .val (.int p4), .val (.int lk), .val (.int nn), .val (.ref b_1), .val (.ref b_2), .val (.ref b_10), .val (.ref b_13), .val (.ref b_16), .val (.ref b_20), .unset, .unset, .unset, .unset] [(.int p3), (.int (0 : Int32)), (.ref b_16)])) t
    refine XS.i2b X_25.here hx rfl (hb hby at_100) rfl ?_
    exact kt
  have f_28 := ((V_16.ext E_20).other W_25 (Ne.symm ne_b_13_b_16))
  have vq_27 := f_28
  obtain ⟨c_27, a_27, q_27, s_27, m_27, H_27, G_27⟩ := vq_27
  have hin_27 : ¬ ((0 : Int32) < 0 ∨ c_27.slots.size ≤ ((0 : Int32)).toNatClampNeg) := inb_of s_27 ⟨by decide, by decide⟩
  obtain ⟨T_27, h_27, X_27, e_27, W_27, st_27⟩ := stB X_25 hx hZ e_25 a_27 (j := (0 : Int32)) hin_27 (g := (mkF m 101 #[.val (.long q1), .second, .val (.int p2), .val (.int p3), .val (.int p4), .val (.int lk), .val (.int nn), .val (.ref b_1), .val (.ref b_2), .val (.ref b_10), .val (.ref b_13), .val (.ref b_16), .val (.ref b_20), .unset, .unset, .unset, .unset] [(.int (p3.toInt8.toInt32)), (.int (0 : Int32)), (.ref b_16)])) rfl rfl (hb hby at_101)
  have V_27 : Arv Z h_27 b_16 k_16 .byte (2 : Int32) [(.int (nar .byte (p3.toInt8.toInt32))), (.int (0 : Int32))] (.int (0 : Int32)) := Arv.set a_27 q_27 s_27 m_27 H_27 G_27 (fits_nar_byte _) W_27 0 rfl (Nat.le_of_ble_eq_true rfl)
  have Z_27 : n0 ≤ h_27.size := Nat.le_trans Z_25 (Keep.of_wr W_27).1
  have N_27 := Fr.snoc X_27 N_25 g_b_16
  refine own_go (g' := (mkF m 102 #[.val (.long q1), .second, .val (.int p2), .val (.int p3), .val (.int p4), .val (.int lk), .val (.int nn), .val (.ref b_1), .val (.ref b_2), .val (.ref b_10), .val (.ref b_13), .val (.ref b_16), .val (.ref b_20), .unset, .unset, .unset, .unset] [])) st_27 ?_
  refine own_go (T' := T_27) (g' := (mkF m 110 #[.val (.long q1), .second, .val (.int p2), .val (.int p3), .val (.int p4), .val (.int lk), .val (.int nn), .val (.ref b_1), .val (.ref b_2), .val (.ref b_10), .val (.ref b_13), .val (.ref b_16), .val (.ref b_20), .unset, .unset, .unset, .unset] [(.int (((p3.toUInt32 >>> ((8 : Int32) &&& 31).toUInt32).toInt32).toInt8.toInt32)), (.int (1 : Int32)), (.ref b_16)])) (fun t kt => ?_) ?_
  · show Steps p.tables e below (T_27.setTop (mkF m 102 #[.val (.long q1), .second, .val (.int p2), .val (.int p3), .val (.int p4), .val (.int lk), .val (.int nn), .val (.ref b_1), .val (.ref b_2), .val (.ref b_10), .val (.ref b_13), .val (.ref b_16), .val (.ref b_20), .unset, .unset, .unset, .unset] [])) t
    refine XS.aload X_27.here hx rfl (hb hby at_102) rfl rfl ?_
    show Steps p.tables e below (T_27.setTop (mkF m 104 #[.val (.long q1), .second, .val (.int p2), .val (.int p3), .val (.int p4), .val (.int lk), .val (.int nn), .val (.ref b_1), .val (.ref b_2), .val (.ref b_10), .val (.ref b_13), .val (.ref b_16), .val (.ref b_20), .unset, .unset, .unset, .unset] [(.ref b_16)])) t
    refine XS.iconst X_27.here hx rfl (hb hby at_104) ?_
    show Steps p.tables e below (T_27.setTop (mkF m 105 #[.val (.long q1), .second, .val (.int p2), .val (.int p3), .val (.int p4), .val (.int lk), .val (.int nn), .val (.ref b_1), .val (.ref b_2), .val (.ref b_10), .val (.ref b_13), .val (.ref b_16), .val (.ref b_20), .unset, .unset, .unset, .unset] [(.int (1 : Int32)), (.ref b_16)])) t
    refine XS.iloadN X_27.here hx rfl (hb hby at_105) rfl ?_
    show Steps p.tables e below (T_27.setTop (mkF m 106 #[.val (.long q1), .second, .val (.int p2), .val (.int p3), .val (.int p4), .val (.int lk), .val (.int nn), .val (.ref b_1), .val (.ref b_2), .val (.ref b_10), .val (.ref b_13), .val (.ref b_16), .val (.ref b_20), .unset, .unset, .unset, .unset] [(.int p3), (.int (1 : Int32)), (.ref b_16)])) t
    refine XS.bipush X_27.here hx rfl (hb hby at_106) ?_
    show Steps p.tables e below (T_27.setTop (mkF m 108 #[.val (.long q1), .second, .val (.int p2), .val (.int p3), .val (.int p4), .val (.int lk), .val (.int nn), .val (.ref b_1), .val (.ref b_2), .val (.ref b_10), .val (.ref b_13), .val (.ref b_16), .val (.ref b_20), .unset, .unset, .unset, .unset] [(.int (8 : Int32)), (.int p3), (.int (1 : Int32)), (.ref b_16)])) t
    refine XS.iushr X_27.here hx rfl (hb hby at_108) rfl ?_
    show Steps p.tables e below (T_27.setTop (mkF m 109 #[.val (.long q1), .second, .val (.int p2), .val (.int p3), .val (.int p4), .val (.int lk), .val (.int nn), .val (.ref b_1), .val (.ref b_2), .val (.ref b_10), .val (.ref b_13), .val (.ref b_16), .val (.ref b_20), .unset, .unset, .unset, .unset] [(.int ((p3.toUInt32 >>> ((8 : Int32) &&& 31).toUInt32).toInt32)), (.int (1 : Int32)), (.ref b_16)])) t
    refine XS.i2b X_27.here hx rfl (hb hby at_109) rfl ?_
    exact kt
  have vq_29 := V_27
  obtain ⟨c_29, a_29, q_29, s_29, m_29, H_29, G_29⟩ := vq_29
  have hin_29 : ¬ ((1 : Int32) < 0 ∨ c_29.slots.size ≤ ((1 : Int32)).toNatClampNeg) := inb_of s_29 ⟨by decide, by decide⟩
  obtain ⟨T_29, h_29, X_29, e_29, W_29, st_29⟩ := stB X_27 hx hZ e_27 a_29 (j := (1 : Int32)) hin_29 (g := (mkF m 110 #[.val (.long q1), .second, .val (.int p2), .val (.int p3), .val (.int p4), .val (.int lk), .val (.int nn), .val (.ref b_1), .val (.ref b_2), .val (.ref b_10), .val (.ref b_13), .val (.ref b_16), .val (.ref b_20), .unset, .unset, .unset, .unset] [(.int (((p3.toUInt32 >>> ((8 : Int32) &&& 31).toUInt32).toInt32).toInt8.toInt32)), (.int (1 : Int32)), (.ref b_16)])) rfl rfl (hb hby at_110)
  have V_29 : Arv Z h_29 b_16 k_16 .byte (2 : Int32) [(.int (nar .byte (p3.toInt8.toInt32))), (.int (nar .byte (((p3.toUInt32 >>> ((8 : Int32) &&& 31).toUInt32).toInt32).toInt8.toInt32)))] (.int (0 : Int32)) := Arv.set a_29 q_29 s_29 m_29 H_29 G_29 (fits_nar_byte _) W_29 1 rfl (Nat.le_of_ble_eq_true rfl)
  have Z_29 : n0 ≤ h_29.size := Nat.le_trans Z_27 (Keep.of_wr W_29).1
  have N_29 := Fr.snoc X_29 N_27 g_b_16
  refine own_go (g' := (mkF m 111 #[.val (.long q1), .second, .val (.int p2), .val (.int p3), .val (.int p4), .val (.int lk), .val (.int nn), .val (.ref b_1), .val (.ref b_2), .val (.ref b_10), .val (.ref b_13), .val (.ref b_16), .val (.ref b_20), .unset, .unset, .unset, .unset] [])) st_29 ?_
  refine own_go (T' := T_29) (g' := (mkF m 116 #[.val (.long q1), .second, .val (.int p2), .val (.int p3), .val (.int p4), .val (.int lk), .val (.int nn), .val (.ref b_1), .val (.ref b_2), .val (.ref b_10), .val (.ref b_13), .val (.ref b_16), .val (.ref b_20), .unset, .unset, .unset, .unset] [(.int (p3.toInt8.toInt32)), (.int (0 : Int32)), (.ref b_20)])) (fun t kt => ?_) ?_
  · show Steps p.tables e below (T_29.setTop (mkF m 111 #[.val (.long q1), .second, .val (.int p2), .val (.int p3), .val (.int p4), .val (.int lk), .val (.int nn), .val (.ref b_1), .val (.ref b_2), .val (.ref b_10), .val (.ref b_13), .val (.ref b_16), .val (.ref b_20), .unset, .unset, .unset, .unset] [])) t
    refine XS.aload X_29.here hx rfl (hb hby at_111) rfl rfl ?_
    show Steps p.tables e below (T_29.setTop (mkF m 113 #[.val (.long q1), .second, .val (.int p2), .val (.int p3), .val (.int p4), .val (.int lk), .val (.int nn), .val (.ref b_1), .val (.ref b_2), .val (.ref b_10), .val (.ref b_13), .val (.ref b_16), .val (.ref b_20), .unset, .unset, .unset, .unset] [(.ref b_20)])) t
    refine XS.iconst X_29.here hx rfl (hb hby at_113) ?_
    show Steps p.tables e below (T_29.setTop (mkF m 114 #[.val (.long q1), .second, .val (.int p2), .val (.int p3), .val (.int p4), .val (.int lk), .val (.int nn), .val (.ref b_1), .val (.ref b_2), .val (.ref b_10), .val (.ref b_13), .val (.ref b_16), .val (.ref b_20), .unset, .unset, .unset, .unset] [(.int (0 : Int32)), (.ref b_20)])) t
    refine XS.iloadN X_29.here hx rfl (hb hby at_114) rfl ?_
    show Steps p.tables e below (T_29.setTop (mkF m 115 #[.val (.long q1), .second, .val (.int p2), .val (.int p3), .val (.int p4), .val (.int lk), .val (.int nn), .val (.ref b_1), .val (.ref b_2), .val (.ref b_10), .val (.ref b_13), .val (.ref b_16), .val (.ref b_20), .unset, .unset, .unset, .unset] [(.int p3), (.int (0 : Int32)), (.ref b_20)])) t
    refine XS.i2b X_29.here hx rfl (hb hby at_115) rfl ?_
    exact kt
  have f_31 := (((V_20.other W_25 (Ne.symm ne_b_13_b_20)).other W_27 (Ne.symm ne_b_16_b_20)).other W_29 (Ne.symm ne_b_16_b_20))
  have vq_30 := f_31
  obtain ⟨c_30, a_30, q_30, s_30, m_30, H_30, G_30⟩ := vq_30
  have hin_30 : ¬ ((0 : Int32) < 0 ∨ c_30.slots.size ≤ ((0 : Int32)).toNatClampNeg) := inb_of s_30 ⟨by decide, by decide⟩
  obtain ⟨T_30, h_30, X_30, e_30, W_30, st_30⟩ := stB X_29 hx hZ e_29 a_30 (j := (0 : Int32)) hin_30 (g := (mkF m 116 #[.val (.long q1), .second, .val (.int p2), .val (.int p3), .val (.int p4), .val (.int lk), .val (.int nn), .val (.ref b_1), .val (.ref b_2), .val (.ref b_10), .val (.ref b_13), .val (.ref b_16), .val (.ref b_20), .unset, .unset, .unset, .unset] [(.int (p3.toInt8.toInt32)), (.int (0 : Int32)), (.ref b_20)])) rfl rfl (hb hby at_116)
  have V_30 : Arv Z h_30 b_20 k_20 .byte (3 : Int32) [(.int (nar .byte (p3.toInt8.toInt32))), (.int (0 : Int32)), (.int (0 : Int32))] (.int (0 : Int32)) := Arv.set a_30 q_30 s_30 m_30 H_30 G_30 (fits_nar_byte _) W_30 0 rfl (Nat.le_of_ble_eq_true rfl)
  have Z_30 : n0 ≤ h_30.size := Nat.le_trans Z_29 (Keep.of_wr W_30).1
  have N_30 := Fr.snoc X_30 N_29 g_b_20
  refine own_go (g' := (mkF m 117 #[.val (.long q1), .second, .val (.int p2), .val (.int p3), .val (.int p4), .val (.int lk), .val (.int nn), .val (.ref b_1), .val (.ref b_2), .val (.ref b_10), .val (.ref b_13), .val (.ref b_16), .val (.ref b_20), .unset, .unset, .unset, .unset] [])) st_30 ?_
  refine own_go (T' := T_30) (g' := (mkF m 125 #[.val (.long q1), .second, .val (.int p2), .val (.int p3), .val (.int p4), .val (.int lk), .val (.int nn), .val (.ref b_1), .val (.ref b_2), .val (.ref b_10), .val (.ref b_13), .val (.ref b_16), .val (.ref b_20), .unset, .unset, .unset, .unset] [(.int (((p3.toUInt32 >>> ((8 : Int32) &&& 31).toUInt32).toInt32).toInt8.toInt32)), (.int (1 : Int32)), (.ref b_20)])) (fun t kt => ?_) ?_
  · show Steps p.tables e below (T_30.setTop (mkF m 117 #[.val (.long q1), .second, .val (.int p2), .val (.int p3), .val (.int p4), .val (.int lk), .val (.int nn), .val (.ref b_1), .val (.ref b_2), .val (.ref b_10), .val (.ref b_13), .val (.ref b_16), .val (.ref b_20), .unset, .unset, .unset, .unset] [])) t
    refine XS.aload X_30.here hx rfl (hb hby at_117) rfl rfl ?_
    show Steps p.tables e below (T_30.setTop (mkF m 119 #[.val (.long q1), .second, .val (.int p2), .val (.int p3), .val (.int p4), .val (.int lk), .val (.int nn), .val (.ref b_1), .val (.ref b_2), .val (.ref b_10), .val (.ref b_13), .val (.ref b_16), .val (.ref b_20), .unset, .unset, .unset, .unset] [(.ref b_20)])) t
    refine XS.iconst X_30.here hx rfl (hb hby at_119) ?_
    show Steps p.tables e below (T_30.setTop (mkF m 120 #[.val (.long q1), .second, .val (.int p2), .val (.int p3), .val (.int p4), .val (.int lk), .val (.int nn), .val (.ref b_1), .val (.ref b_2), .val (.ref b_10), .val (.ref b_13), .val (.ref b_16), .val (.ref b_20), .unset, .unset, .unset, .unset] [(.int (1 : Int32)), (.ref b_20)])) t
    refine XS.iloadN X_30.here hx rfl (hb hby at_120) rfl ?_
    show Steps p.tables e below (T_30.setTop (mkF m 121 #[.val (.long q1), .second, .val (.int p2), .val (.int p3), .val (.int p4), .val (.int lk), .val (.int nn), .val (.ref b_1), .val (.ref b_2), .val (.ref b_10), .val (.ref b_13), .val (.ref b_16), .val (.ref b_20), .unset, .unset, .unset, .unset] [(.int p3), (.int (1 : Int32)), (.ref b_20)])) t
    refine XS.bipush X_30.here hx rfl (hb hby at_121) ?_
    show Steps p.tables e below (T_30.setTop (mkF m 123 #[.val (.long q1), .second, .val (.int p2), .val (.int p3), .val (.int p4), .val (.int lk), .val (.int nn), .val (.ref b_1), .val (.ref b_2), .val (.ref b_10), .val (.ref b_13), .val (.ref b_16), .val (.ref b_20), .unset, .unset, .unset, .unset] [(.int (8 : Int32)), (.int p3), (.int (1 : Int32)), (.ref b_20)])) t
    refine XS.iushr X_30.here hx rfl (hb hby at_123) rfl ?_
    show Steps p.tables e below (T_30.setTop (mkF m 124 #[.val (.long q1), .second, .val (.int p2), .val (.int p3), .val (.int p4), .val (.int lk), .val (.int nn), .val (.ref b_1), .val (.ref b_2), .val (.ref b_10), .val (.ref b_13), .val (.ref b_16), .val (.ref b_20), .unset, .unset, .unset, .unset] [(.int ((p3.toUInt32 >>> ((8 : Int32) &&& 31).toUInt32).toInt32)), (.int (1 : Int32)), (.ref b_20)])) t
    refine XS.i2b X_30.here hx rfl (hb hby at_124) rfl ?_
    exact kt
  have vq_32 := V_30
  obtain ⟨c_32, a_32, q_32, s_32, m_32, H_32, G_32⟩ := vq_32
  have hin_32 : ¬ ((1 : Int32) < 0 ∨ c_32.slots.size ≤ ((1 : Int32)).toNatClampNeg) := inb_of s_32 ⟨by decide, by decide⟩
  obtain ⟨T_32, h_32, X_32, e_32, W_32, st_32⟩ := stB X_30 hx hZ e_30 a_32 (j := (1 : Int32)) hin_32 (g := (mkF m 125 #[.val (.long q1), .second, .val (.int p2), .val (.int p3), .val (.int p4), .val (.int lk), .val (.int nn), .val (.ref b_1), .val (.ref b_2), .val (.ref b_10), .val (.ref b_13), .val (.ref b_16), .val (.ref b_20), .unset, .unset, .unset, .unset] [(.int (((p3.toUInt32 >>> ((8 : Int32) &&& 31).toUInt32).toInt32).toInt8.toInt32)), (.int (1 : Int32)), (.ref b_20)])) rfl rfl (hb hby at_125)
  have V_32 : Arv Z h_32 b_20 k_20 .byte (3 : Int32) [(.int (nar .byte (p3.toInt8.toInt32))), (.int (nar .byte (((p3.toUInt32 >>> ((8 : Int32) &&& 31).toUInt32).toInt32).toInt8.toInt32))), (.int (0 : Int32))] (.int (0 : Int32)) := Arv.set a_32 q_32 s_32 m_32 H_32 G_32 (fits_nar_byte _) W_32 1 rfl (Nat.le_of_ble_eq_true rfl)
  have Z_32 : n0 ≤ h_32.size := Nat.le_trans Z_30 (Keep.of_wr W_32).1
  have N_32 := Fr.snoc X_32 N_30 g_b_20
  refine own_go (g' := (mkF m 126 #[.val (.long q1), .second, .val (.int p2), .val (.int p3), .val (.int p4), .val (.int lk), .val (.int nn), .val (.ref b_1), .val (.ref b_2), .val (.ref b_10), .val (.ref b_13), .val (.ref b_16), .val (.ref b_20), .unset, .unset, .unset, .unset] [])) st_32 ?_
  refine own_go (T' := T_32) (g' := (mkF m 134 #[.val (.long q1), .second, .val (.int p2), .val (.int p3), .val (.int p4), .val (.int lk), .val (.int nn), .val (.ref b_1), .val (.ref b_2), .val (.ref b_10), .val (.ref b_13), .val (.ref b_16), .val (.ref b_20), .unset, .unset, .unset, .unset] [(.int (((p3.toUInt32 >>> ((16 : Int32) &&& 31).toUInt32).toInt32).toInt8.toInt32)), (.int (2 : Int32)), (.ref b_20)])) (fun t kt => ?_) ?_
  · show Steps p.tables e below (T_32.setTop (mkF m 126 #[.val (.long q1), .second, .val (.int p2), .val (.int p3), .val (.int p4), .val (.int lk), .val (.int nn), .val (.ref b_1), .val (.ref b_2), .val (.ref b_10), .val (.ref b_13), .val (.ref b_16), .val (.ref b_20), .unset, .unset, .unset, .unset] [])) t
    refine XS.aload X_32.here hx rfl (hb hby at_126) rfl rfl ?_
    show Steps p.tables e below (T_32.setTop (mkF m 128 #[.val (.long q1), .second, .val (.int p2), .val (.int p3), .val (.int p4), .val (.int lk), .val (.int nn), .val (.ref b_1), .val (.ref b_2), .val (.ref b_10), .val (.ref b_13), .val (.ref b_16), .val (.ref b_20), .unset, .unset, .unset, .unset] [(.ref b_20)])) t
    refine XS.iconst X_32.here hx rfl (hb hby at_128) ?_
    show Steps p.tables e below (T_32.setTop (mkF m 129 #[.val (.long q1), .second, .val (.int p2), .val (.int p3), .val (.int p4), .val (.int lk), .val (.int nn), .val (.ref b_1), .val (.ref b_2), .val (.ref b_10), .val (.ref b_13), .val (.ref b_16), .val (.ref b_20), .unset, .unset, .unset, .unset] [(.int (2 : Int32)), (.ref b_20)])) t
    refine XS.iloadN X_32.here hx rfl (hb hby at_129) rfl ?_
    show Steps p.tables e below (T_32.setTop (mkF m 130 #[.val (.long q1), .second, .val (.int p2), .val (.int p3), .val (.int p4), .val (.int lk), .val (.int nn), .val (.ref b_1), .val (.ref b_2), .val (.ref b_10), .val (.ref b_13), .val (.ref b_16), .val (.ref b_20), .unset, .unset, .unset, .unset] [(.int p3), (.int (2 : Int32)), (.ref b_20)])) t
    refine XS.bipush X_32.here hx rfl (hb hby at_130) ?_
    show Steps p.tables e below (T_32.setTop (mkF m 132 #[.val (.long q1), .second, .val (.int p2), .val (.int p3), .val (.int p4), .val (.int lk), .val (.int nn), .val (.ref b_1), .val (.ref b_2), .val (.ref b_10), .val (.ref b_13), .val (.ref b_16), .val (.ref b_20), .unset, .unset, .unset, .unset] [(.int (16 : Int32)), (.int p3), (.int (2 : Int32)), (.ref b_20)])) t
    refine XS.iushr X_32.here hx rfl (hb hby at_132) rfl ?_
    show Steps p.tables e below (T_32.setTop (mkF m 133 #[.val (.long q1), .second, .val (.int p2), .val (.int p3), .val (.int p4), .val (.int lk), .val (.int nn), .val (.ref b_1), .val (.ref b_2), .val (.ref b_10), .val (.ref b_13), .val (.ref b_16), .val (.ref b_20), .unset, .unset, .unset, .unset] [(.int ((p3.toUInt32 >>> ((16 : Int32) &&& 31).toUInt32).toInt32)), (.int (2 : Int32)), (.ref b_20)])) t
    refine XS.i2b X_32.here hx rfl (hb hby at_133) rfl ?_
    exact kt
  have vq_33 := V_32
  obtain ⟨c_33, a_33, q_33, s_33, m_33, H_33, G_33⟩ := vq_33
  have hin_33 : ¬ ((2 : Int32) < 0 ∨ c_33.slots.size ≤ ((2 : Int32)).toNatClampNeg) := inb_of s_33 ⟨by decide, by decide⟩
  obtain ⟨T_33, h_33, X_33, e_33, W_33, st_33⟩ := stB X_32 hx hZ e_32 a_33 (j := (2 : Int32)) hin_33 (g := (mkF m 134 #[.val (.long q1), .second, .val (.int p2), .val (.int p3), .val (.int p4), .val (.int lk), .val (.int nn), .val (.ref b_1), .val (.ref b_2), .val (.ref b_10), .val (.ref b_13), .val (.ref b_16), .val (.ref b_20), .unset, .unset, .unset, .unset] [(.int (((p3.toUInt32 >>> ((16 : Int32) &&& 31).toUInt32).toInt32).toInt8.toInt32)), (.int (2 : Int32)), (.ref b_20)])) rfl rfl (hb hby at_134)
  have V_33 : Arv Z h_33 b_20 k_20 .byte (3 : Int32) [(.int (nar .byte (p3.toInt8.toInt32))), (.int (nar .byte (((p3.toUInt32 >>> ((8 : Int32) &&& 31).toUInt32).toInt32).toInt8.toInt32))), (.int (nar .byte (((p3.toUInt32 >>> ((16 : Int32) &&& 31).toUInt32).toInt32).toInt8.toInt32)))] (.int (0 : Int32)) := Arv.set a_33 q_33 s_33 m_33 H_33 G_33 (fits_nar_byte _) W_33 2 rfl (Nat.le_of_ble_eq_true rfl)
  have Z_33 : n0 ≤ h_33.size := Nat.le_trans Z_32 (Keep.of_wr W_33).1
  have N_33 := Fr.snoc X_33 N_32 g_b_20
  refine own_go (g' := (mkF m 135 #[.val (.long q1), .second, .val (.int p2), .val (.int p3), .val (.int p4), .val (.int lk), .val (.int nn), .val (.ref b_1), .val (.ref b_2), .val (.ref b_10), .val (.ref b_13), .val (.ref b_16), .val (.ref b_20), .unset, .unset, .unset, .unset] [])) st_33 ?_
  have hl2 : lk = (0 : Int32) ∨ lk = (1 : Int32) := hlk ▸ own_lk2 p4
  have hn4 : nn = (0 : Int32) ∨ nn = (1 : Int32) ∨ nn = (2 : Int32) ∨ nn = (3 : Int32) := hnn ▸ own_n4 p4
  clear hlk hnn
  rcases hl2 with rfl | rfl
  · rcases hn4 with rfl | rfl | rfl | rfl
    · refine own_go (T' := T_33) (g' := (mkF m 189 #[.val (.long q1), .second, .val (.int p2), .val (.int p3), .val (.int p4), .val (.int (0 : Int32)), .val (.int (0 : Int32)), .val (.ref b_1), .val (.ref b_2), .val (.ref b_10), .val (.ref b_13), .val (.ref b_16), .val (.ref b_20), .val (.ref b_1), .val (.ref b_10), .unset, .unset] [(.ref b_10), (.ref b_1)])) (fun t kt => ?_) ?_
      · show Steps p.tables e below (T_33.setTop (mkF m 135 #[.val (.long q1), .second, .val (.int p2), .val (.int p3), .val (.int p4), .val (.int (0 : Int32)), .val (.int (0 : Int32)), .val (.ref b_1), .val (.ref b_2), .val (.ref b_10), .val (.ref b_13), .val (.ref b_16), .val (.ref b_20), .unset, .unset, .unset, .unset] [])) t
        refine XS.iload X_33.here hx rfl (hb hby at_135) rfl ?_
        show Steps p.tables e below (T_33.setTop (mkF m 137 #[.val (.long q1), .second, .val (.int p2), .val (.int p3), .val (.int p4), .val (.int (0 : Int32)), .val (.int (0 : Int32)), .val (.ref b_1), .val (.ref b_2), .val (.ref b_10), .val (.ref b_13), .val (.ref b_16), .val (.ref b_20), .unset, .unset, .unset, .unset] [(.int (0 : Int32))])) t
        refine XS.ifYes X_33.here hx rfl (pc0 := 137) (pc' := 145) rfl (hb hby at_137) rfl ((if0 _ _).trans (teq (by decide : (0 : Int32) = (0 : Int32))).1) (by decide) (by decide) ?_
        show Steps p.tables e below (T_33.setTop (mkF m 145 #[.val (.long q1), .second, .val (.int p2), .val (.int p3), .val (.int p4), .val (.int (0 : Int32)), .val (.int (0 : Int32)), .val (.ref b_1), .val (.ref b_2), .val (.ref b_10), .val (.ref b_13), .val (.ref b_16), .val (.ref b_20), .unset, .unset, .unset, .unset] [])) t
        refine XS.aload X_33.here hx rfl (hb hby at_145) rfl rfl ?_
        show Steps p.tables e below (T_33.setTop (mkF m 147 #[.val (.long q1), .second, .val (.int p2), .val (.int p3), .val (.int p4), .val (.int (0 : Int32)), .val (.int (0 : Int32)), .val (.ref b_1), .val (.ref b_2), .val (.ref b_10), .val (.ref b_13), .val (.ref b_16), .val (.ref b_20), .unset, .unset, .unset, .unset] [(.ref b_1)])) t
        refine XS.astore X_33.here hx rfl (hb hby at_147) rfl rfl (l' := #[.val (.long q1), .second, .val (.int p2), .val (.int p3), .val (.int p4), .val (.int (0 : Int32)), .val (.int (0 : Int32)), .val (.ref b_1), .val (.ref b_2), .val (.ref b_10), .val (.ref b_13), .val (.ref b_16), .val (.ref b_20), .val (.ref b_1), .unset, .unset, .unset]) rfl ?_
        show Steps p.tables e below (T_33.setTop (mkF m 149 #[.val (.long q1), .second, .val (.int p2), .val (.int p3), .val (.int p4), .val (.int (0 : Int32)), .val (.int (0 : Int32)), .val (.ref b_1), .val (.ref b_2), .val (.ref b_10), .val (.ref b_13), .val (.ref b_16), .val (.ref b_20), .val (.ref b_1), .unset, .unset, .unset] [])) t
        refine XS.iload X_33.here hx rfl (hb hby at_149) rfl ?_
        show Steps p.tables e below (T_33.setTop (mkF m 151 #[.val (.long q1), .second, .val (.int p2), .val (.int p3), .val (.int p4), .val (.int (0 : Int32)), .val (.int (0 : Int32)), .val (.ref b_1), .val (.ref b_2), .val (.ref b_10), .val (.ref b_13), .val (.ref b_16), .val (.ref b_20), .val (.ref b_1), .unset, .unset, .unset] [(.int (0 : Int32))])) t
        refine XS.ifNo X_33.here hx rfl (hb hby at_151) rfl ((if0 _ _).trans (teq (by decide : (0 : Int32) = (0 : Int32))).2) ?_
        show Steps p.tables e below (T_33.setTop (mkF m 154 #[.val (.long q1), .second, .val (.int p2), .val (.int p3), .val (.int p4), .val (.int (0 : Int32)), .val (.int (0 : Int32)), .val (.ref b_1), .val (.ref b_2), .val (.ref b_10), .val (.ref b_13), .val (.ref b_16), .val (.ref b_20), .val (.ref b_1), .unset, .unset, .unset] [])) t
        refine XS.aload X_33.here hx rfl (hb hby at_154) rfl rfl ?_
        show Steps p.tables e below (T_33.setTop (mkF m 156 #[.val (.long q1), .second, .val (.int p2), .val (.int p3), .val (.int p4), .val (.int (0 : Int32)), .val (.int (0 : Int32)), .val (.ref b_1), .val (.ref b_2), .val (.ref b_10), .val (.ref b_13), .val (.ref b_16), .val (.ref b_20), .val (.ref b_1), .unset, .unset, .unset] [(.ref b_10)])) t
        refine XS.goto X_33.here hx rfl (pc0 := 156) (pc' := 183) rfl (hb hby at_156) (by decide) (by decide) ?_
        show Steps p.tables e below (T_33.setTop (mkF m 183 #[.val (.long q1), .second, .val (.int p2), .val (.int p3), .val (.int p4), .val (.int (0 : Int32)), .val (.int (0 : Int32)), .val (.ref b_1), .val (.ref b_2), .val (.ref b_10), .val (.ref b_13), .val (.ref b_16), .val (.ref b_20), .val (.ref b_1), .unset, .unset, .unset] [(.ref b_10)])) t
        refine XS.astore X_33.here hx rfl (hb hby at_183) rfl rfl (l' := #[.val (.long q1), .second, .val (.int p2), .val (.int p3), .val (.int p4), .val (.int (0 : Int32)), .val (.int (0 : Int32)), .val (.ref b_1), .val (.ref b_2), .val (.ref b_10), .val (.ref b_13), .val (.ref b_16), .val (.ref b_20), .val (.ref b_1), .val (.ref b_10), .unset, .unset]) rfl ?_
        show Steps p.tables e below (T_33.setTop (mkF m 185 #[.val (.long q1), .second, .val (.int p2), .val (.int p3), .val (.int p4), .val (.int (0 : Int32)), .val (.int (0 : Int32)), .val (.ref b_1), .val (.ref b_2), .val (.ref b_10), .val (.ref b_13), .val (.ref b_16), .val (.ref b_20), .val (.ref b_1), .val (.ref b_10), .unset, .unset] [])) t
        refine XS.aload X_33.here hx rfl (hb hby at_185) rfl rfl ?_
        show Steps p.tables e below (T_33.setTop (mkF m 187 #[.val (.long q1), .second, .val (.int p2), .val (.int p3), .val (.int p4), .val (.int (0 : Int32)), .val (.int (0 : Int32)), .val (.ref b_1), .val (.ref b_2), .val (.ref b_10), .val (.ref b_13), .val (.ref b_16), .val (.ref b_20), .val (.ref b_1), .val (.ref b_10), .unset, .unset] [(.ref b_1)])) t
        refine XS.aload X_33.here hx rfl (hb hby at_187) rfl rfl ?_
        exact kt
      have f_34 := ((((((((((((((V_4.other W_5 ne_b_1_b_2).other W_7 ne_b_1_b_2).other W_8 ne_b_1_b_2).keep K_9 (ninS ne_b_1_b_2 nin0)).ext E_10).ext E_13).ext E_16).ext E_20).other W_25 ne_b_1_b_13).other W_27 ne_b_1_b_16).other W_29 ne_b_1_b_16).other W_30 ne_b_1_b_20).other W_32 ne_b_1_b_20).other W_33 ne_b_1_b_20)
      have f_35 := (((((((((V_10.ext E_13).ext E_16).ext E_20).other W_25 ne_b_10_b_13).other W_27 ne_b_10_b_16).other W_29 ne_b_10_b_16).other W_30 ne_b_10_b_20).other W_32 ne_b_10_b_20).other W_33 ne_b_10_b_20)
      obtain ⟨_, _, ⟨T_36, L_36, k_36, n_36⟩, -, X_36, ⟨Lc_36, hQ_36, l_36, y_36, z_36⟩, st_36⟩ := Jvm.LawKit.callS X_33 hx (y := (⟨"com/example/thin_table/thintable/model/KeyOrder", "newestValue", "([B[B)[B"⟩ : MethodName)) hown (mvT hZ (hw _ (List.mem_of_getElem? (i := 5) rfl))) (mvT hZ (hw _ (List.mem_of_getElem? (i := 6) rfl))) (mvT hZ (hw _ (List.mem_of_getElem? (i := 7) rfl))) (mvT hZ (hw _ (List.mem_of_getElem? (i := 8) rfl))) (by decide) (backOf (W := 0) (rnew8_0 l Z a0 hw [] (b_1) (b_10) k_1 k_10 [(.int (own_by q1 56)), (.int (own_by q1 48)), (.int (own_by q1 40)), (.int (own_by q1 32)), (.int (own_by q1 24)), (.int (own_by q1 16)), (.int (own_by q1 8)), (.int (own_b0 q1))] [] h_33 n0 Z_33 f_34 f_35) hZ (hw _ (List.mem_of_getElem? (i := 8) rfl)) (hw _ (List.mem_of_getElem? (i := 7) rfl)) (by decide) (by decide)) (g := (mkF m 189 #[.val (.long q1), .second, .val (.int p2), .val (.int p3), .val (.int p4), .val (.int (0 : Int32)), .val (.int (0 : Int32)), .val (.ref b_1), .val (.ref b_2), .val (.ref b_10), .val (.ref b_13), .val (.ref b_16), .val (.ref b_20), .val (.ref b_1), .val (.ref b_10), .unset, .unset] [(.ref b_10), (.ref b_1)])) rfl (by rw [hml]; rfl) (argsL := [(.ref b_1), (.ref b_10)]) (rest := []) (lenOf pd_1 rfl) rfl (by show 2 * 0 + _ ≤ _; exact Nat.le_of_eq rfl) (hb hby at_189) (fun _ _ => ⟨rfl, e_33, (by decide : 6 + 1 ≤ _), (by decide : 25 + 8 ≤ _)⟩)
      dsimp only [Pt.U, Pt.locs, Pt.cells, Pt.slots] at X_36 l_36 y_36 z_36 st_36 hQ_36
      subst l_36 y_36 z_36
      obtain ⟨r_36, kB_36, rfl, N_36q, K_36, sr_36, V_36⟩ := hQ_36
      have N_36 := Fr.app N_33 N_36q
      have f_37 := (((((((f_21.ext E_20).wr W_25).wr W_27).wr W_29).wr W_30).wr W_32).wr W_33)
      have ne_b_1_r_36 : b_1 ≠ r_36 := Nat.ne_of_lt (Nat.lt_of_lt_of_le f_37.lt sr_36)
      have f_38 := (((((((f_22.ext E_20).wr W_25).wr W_27).wr W_29).wr W_30).wr W_32).wr W_33)
      have ne_b_2_r_36 : b_2 ≠ r_36 := Nat.ne_of_lt (Nat.lt_of_lt_of_le f_38.lt sr_36)
      have f_39 := (((((((f_23.ext E_20).wr W_25).wr W_27).wr W_29).wr W_30).wr W_32).wr W_33)
      have ne_b_10_r_36 : b_10 ≠ r_36 := Nat.ne_of_lt (Nat.lt_of_lt_of_le f_39.lt sr_36)
      have f_40 := (((((((f_24.ext E_20).wr W_25).wr W_27).wr W_29).wr W_30).wr W_32).wr W_33)
      have ne_b_13_r_36 : b_13 ≠ r_36 := Nat.ne_of_lt (Nat.lt_of_lt_of_le f_40.lt sr_36)
      have f_41 := (((((((B_16.ext E_20).wr W_25).wr W_27).wr W_29).wr W_30).wr W_32).wr W_33)
      have ne_b_16_r_36 : b_16 ≠ r_36 := Nat.ne_of_lt (Nat.lt_of_lt_of_le f_41.lt sr_36)
      have f_42 := ((((((B_20.wr W_25).wr W_27).wr W_29).wr W_30).wr W_32).wr W_33)
      have ne_b_20_r_36 : b_20 ≠ r_36 := Nat.ne_of_lt (Nat.lt_of_lt_of_le f_42.lt sr_36)
      have g_r_36 : n0 ≤ r_36 := Nat.le_trans Z_33 sr_36
      have Z_36 : n0 ≤ T_36.heap.size := Nat.le_trans Z_33 K_36.1
      refine own_go (g' := (mkF m 192 #[.val (.long q1), .second, .val (.int p2), .val (.int p3), .val (.int p4), .val (.int (0 : Int32)), .val (.int (0 : Int32)), .val (.ref b_1), .val (.ref b_2), .val (.ref b_10), .val (.ref b_13), .val (.ref b_16), .val (.ref b_20), .val (.ref b_1), .val (.ref b_10), .unset, .unset] [(.ref r_36)])) st_36 ?_
      replace V_36 : Arv Z T_36.heap r_36 kB_36 .byte (8 : Int32) [(.int (own_by q1 56)), (.int (own_by q1 48)), (.int (own_by q1 40)), (.int (own_by q1 32)), (.int (own_by q1 24)), (.int (own_by q1 16)), (.int (own_by q1 8)), (.int (own_b0 q1))] (.int (0 : Int32)) := V_36
      refine own_go (T' := T_36) (g' := (mkF m 201 #[.val (.long q1), .second, .val (.int p2), .val (.int p3), .val (.int p4), .val (.int (0 : Int32)), .val (.int (0 : Int32)), .val (.ref b_1), .val (.ref b_2), .val (.ref b_10), .val (.ref b_13), .val (.ref b_16), .val (.ref b_20), .val (.ref b_1), .val (.ref b_10), .val (.ref r_36), .unset] [(.ref r_36)])) (fun t kt => ?_) ?_
      · show Steps p.tables e below (T_36.setTop (mkF m 192 #[.val (.long q1), .second, .val (.int p2), .val (.int p3), .val (.int p4), .val (.int (0 : Int32)), .val (.int (0 : Int32)), .val (.ref b_1), .val (.ref b_2), .val (.ref b_10), .val (.ref b_13), .val (.ref b_16), .val (.ref b_20), .val (.ref b_1), .val (.ref b_10), .unset, .unset] [(.ref r_36)])) t
        refine XS.astore X_36.here hx rfl (hb hby at_192) rfl rfl (l' := #[.val (.long q1), .second, .val (.int p2), .val (.int p3), .val (.int p4), .val (.int (0 : Int32)), .val (.int (0 : Int32)), .val (.ref b_1), .val (.ref b_2), .val (.ref b_10), .val (.ref b_13), .val (.ref b_16), .val (.ref b_20), .val (.ref b_1), .val (.ref b_10), .val (.ref r_36), .unset]) rfl ?_
        show Steps p.tables e below (T_36.setTop (mkF m 194 #[.val (.long q1), .second, .val (.int p2), .val (.int p3), .val (.int p4), .val (.int (0 : Int32)), .val (.int (0 : Int32)), .val (.ref b_1), .val (.ref b_2), .val (.ref b_10), .val (.ref b_13), .val (.ref b_16), .val (.ref b_20), .val (.ref b_1), .val (.ref b_10), .val (.ref r_36), .unset] [])) t
        refine XS.aload X_36.here hx rfl (hb hby at_194) rfl rfl ?_
        show Steps p.tables e below (T_36.setTop (mkF m 196 #[.val (.long q1), .second, .val (.int p2), .val (.int p3), .val (.int p4), .val (.int (0 : Int32)), .val (.int (0 : Int32)), .val (.ref b_1), .val (.ref b_2), .val (.ref b_10), .val (.ref b_13), .val (.ref b_16), .val (.ref b_20), .val (.ref b_1), .val (.ref b_10), .val (.ref r_36), .unset] [(.ref r_36)])) t
        refine XS.ifnullNo X_36.here hx rfl (hb hby at_196) rfl ?_
        show Steps p.tables e below (T_36.setTop (mkF m 199 #[.val (.long q1), .second, .val (.int p2), .val (.int p3), .val (.int p4), .val (.int (0 : Int32)), .val (.int (0 : Int32)), .val (.ref b_1), .val (.ref b_2), .val (.ref b_10), .val (.ref b_13), .val (.ref b_16), .val (.ref b_20), .val (.ref b_1), .val (.ref b_10), .val (.ref r_36), .unset] [])) t
        refine XS.aload X_36.here hx rfl (hb hby at_199) rfl rfl ?_
        exact kt
      have vq_43 := V_36
      obtain ⟨c_43, a_43, -, s_43, m_43, -, -⟩ := vq_43
      refine own_go (T' := T_36) (g' := (mkF m 202 #[.val (.long q1), .second, .val (.int p2), .val (.int p3), .val (.int p4), .val (.int (0 : Int32)), .val (.int (0 : Int32)), .val (.ref b_1), .val (.ref b_2), .val (.ref b_10), .val (.ref b_13), .val (.ref b_16), .val (.ref b_20), .val (.ref b_1), .val (.ref b_10), .val (.ref r_36), .unset] [(.int (8 : Int32))])) (fun t kt => ?_) ?_
      · refine X_36.arraylength hx a_43.1 (State.isArrayOf_alike hZ.alike a_43.2.1) (g := (mkF m 201 #[.val (.long q1), .second, .val (.int p2), .val (.int p3), .val (.int p4), .val (.int (0 : Int32)), .val (.int (0 : Int32)), .val (.ref b_1), .val (.ref b_2), .val (.ref b_10), .val (.ref b_13), .val (.ref b_16), .val (.ref b_20), .val (.ref b_1), .val (.ref b_10), .val (.ref r_36), .unset] [(.ref r_36)])) rfl rfl (hb hby at_201) _ ?_
        rw [len_of s_43 m_43]
        exact kt
      refine own_go (T' := T_36) (g' := (mkF m 227 #[.val (.long q1), .second, .val (.int p2), .val (.int p3), .val (.int p4), .val (.int (0 : Int32)), .val (.int (0 : Int32)), .val (.ref b_1), .val (.ref b_2), .val (.ref b_10), .val (.ref b_13), .val (.ref b_16), .val (.ref b_20), .val (.ref b_1), .val (.ref b_10), .val (.ref r_36), .unset] [(.long q1), (.ref r_36)])) (fun t kt => ?_) ?_
      · show Steps p.tables e below (T_36.setTop (mkF m 202 #[.val (.long q1), .second, .val (.int p2), .val (.int p3), .val (.int p4), .val (.int (0 : Int32)), .val (.int (0 : Int32)), .val (.ref b_1), .val (.ref b_2), .val (.ref b_10), .val (.ref b_13), .val (.ref b_16), .val (.ref b_20), .val (.ref b_1), .val (.ref b_10), .val (.ref r_36), .unset] [(.int (8 : Int32))])) t
        refine XS.bipush X_36.here hx rfl (hb hby at_202) ?_
        show Steps p.tables e below (T_36.setTop (mkF m 204 #[.val (.long q1), .second, .val (.int p2), .val (.int p3), .val (.int p4), .val (.int (0 : Int32)), .val (.int (0 : Int32)), .val (.ref b_1), .val (.ref b_2), .val (.ref b_10), .val (.ref b_13), .val (.ref b_16), .val (.ref b_20), .val (.ref b_1), .val (.ref b_10), .val (.ref r_36), .unset] [(.int (8 : Int32)), (.int (8 : Int32))])) t
        refine XS.iload X_36.here hx rfl (hb hby at_204) rfl ?_
        show Steps p.tables e below (T_36.setTop (mkF m 206 #[.val (.long q1), .second, .val (.int p2), .val (.int p3), .val (.int p4), .val (.int (0 : Int32)), .val (.int (0 : Int32)), .val (.ref b_1), .val (.ref b_2), .val (.ref b_10), .val (.ref b_13), .val (.ref b_16), .val (.ref b_20), .val (.ref b_1), .val (.ref b_10), .val (.ref r_36), .unset] [(.int (0 : Int32)), (.int (8 : Int32)), (.int (8 : Int32))])) t
        refine XS.iadd X_36.here hx rfl (hb hby at_206) rfl ?_
        show Steps p.tables e below (T_36.setTop (mkF m 207 #[.val (.long q1), .second, .val (.int p2), .val (.int p3), .val (.int p4), .val (.int (0 : Int32)), .val (.int (0 : Int32)), .val (.ref b_1), .val (.ref b_2), .val (.ref b_10), .val (.ref b_13), .val (.ref b_16), .val (.ref b_20), .val (.ref b_1), .val (.ref b_10), .val (.ref r_36), .unset] [(.int (8 : Int32)), (.int (8 : Int32))])) t
        refine XS.icmpNo X_36.here hx rfl (hb hby at_207) rfl (teq (by decide : (8 : Int32) = (8 : Int32))).2 ?_
        show Steps p.tables e below (T_36.setTop (mkF m 210 #[.val (.long q1), .second, .val (.int p2), .val (.int p3), .val (.int p4), .val (.int (0 : Int32)), .val (.int (0 : Int32)), .val (.ref b_1), .val (.ref b_2), .val (.ref b_10), .val (.ref b_13), .val (.ref b_16), .val (.ref b_20), .val (.ref b_1), .val (.ref b_10), .val (.ref r_36), .unset] [])) t
        refine XS.aload X_36.here hx rfl (hb hby at_210) rfl rfl ?_
        show Steps p.tables e below (T_36.setTop (mkF m 212 #[.val (.long q1), .second, .val (.int p2), .val (.int p3), .val (.int p4), .val (.int (0 : Int32)), .val (.int (0 : Int32)), .val (.ref b_1), .val (.ref b_2), .val (.ref b_10), .val (.ref b_13), .val (.ref b_16), .val (.ref b_20), .val (.ref b_1), .val (.ref b_10), .val (.ref r_36), .unset] [(.ref r_36)])) t
        refine XS.aload X_36.here hx rfl (hb hby at_212) rfl rfl ?_
        show Steps p.tables e below (T_36.setTop (mkF m 214 #[.val (.long q1), .second, .val (.int p2), .val (.int p3), .val (.int p4), .val (.int (0 : Int32)), .val (.int (0 : Int32)), .val (.ref b_1), .val (.ref b_2), .val (.ref b_10), .val (.ref b_13), .val (.ref b_16), .val (.ref b_20), .val (.ref b_1), .val (.ref b_10), .val (.ref r_36), .unset] [(.ref b_10), (.ref r_36)])) t
        refine Jvm.RoadKit.acmp (g := (mkF m 214 #[.val (.long q1), .second, .val (.int p2), .val (.int p3), .val (.int p4), .val (.int (0 : Int32)), .val (.int (0 : Int32)), .val (.ref b_1), .val (.ref b_2), .val (.ref b_10), .val (.ref b_13), .val (.ref b_16), .val (.ref b_20), .val (.ref b_1), .val (.ref b_10), .val (.ref r_36), .unset] [(.ref b_10), (.ref r_36)])) X_36 hx rfl rfl rfl (pc0 := 214) (pc' := 217) (same := false) rfl (hb hby at_214) rfl (decide_eq_false fun q => (Ne.symm ne_b_10_r_36) (Value.ref.inj q)) (by decide) (by decide) ?_
        show Steps p.tables e below (T_36.setTop (mkF m 217 #[.val (.long q1), .second, .val (.int p2), .val (.int p3), .val (.int p4), .val (.int (0 : Int32)), .val (.int (0 : Int32)), .val (.ref b_1), .val (.ref b_2), .val (.ref b_10), .val (.ref b_13), .val (.ref b_16), .val (.ref b_20), .val (.ref b_1), .val (.ref b_10), .val (.ref r_36), .unset] [])) t
        refine XS.aload X_36.here hx rfl (hb hby at_217) rfl rfl ?_
        show Steps p.tables e below (T_36.setTop (mkF m 219 #[.val (.long q1), .second, .val (.int p2), .val (.int p3), .val (.int p4), .val (.int (0 : Int32)), .val (.int (0 : Int32)), .val (.ref b_1), .val (.ref b_2), .val (.ref b_10), .val (.ref b_13), .val (.ref b_16), .val (.ref b_20), .val (.ref b_1), .val (.ref b_10), .val (.ref r_36), .unset] [(.ref r_36)])) t
        refine XS.aload X_36.here hx rfl (hb hby at_219) rfl rfl ?_
        show Steps p.tables e below (T_36.setTop (mkF m 221 #[.val (.long q1), .second, .val (.int p2), .val (.int p3), .val (.int p4), .val (.int (0 : Int32)), .val (.int (0 : Int32)), .val (.ref b_1), .val (.ref b_2), .val (.ref b_10), .val (.ref b_13), .val (.ref b_16), .val (.ref b_20), .val (.ref b_1), .val (.ref b_10), .val (.ref r_36), .unset] [(.ref b_1), (.ref r_36)])) t
        refine Jvm.RoadKit.acmp (g := (mkF m 221 #[.val (.long q1), .second, .val (.int p2), .val (.int p3), .val (.int p4), .val (.int (0 : Int32)), .val (.int (0 : Int32)), .val (.ref b_1), .val (.ref b_2), .val (.ref b_10), .val (.ref b_13), .val (.ref b_16), .val (.ref b_20), .val (.ref b_1), .val (.ref b_10), .val (.ref r_36), .unset] [(.ref b_1), (.ref r_36)])) X_36 hx rfl rfl rfl (pc0 := 221) (pc' := 224) (same := false) rfl (hb hby at_221) rfl (decide_eq_false fun q => (Ne.symm ne_b_1_r_36) (Value.ref.inj q)) (by decide) (by decide) ?_
        show Steps p.tables e below (T_36.setTop (mkF m 224 #[.val (.long q1), .second, .val (.int p2), .val (.int p3), .val (.int p4), .val (.int (0 : Int32)), .val (.int (0 : Int32)), .val (.ref b_1), .val (.ref b_2), .val (.ref b_10), .val (.ref b_13), .val (.ref b_16), .val (.ref b_20), .val (.ref b_1), .val (.ref b_10), .val (.ref r_36), .unset] [])) t
        refine XS.aload X_36.here hx rfl (hb hby at_224) rfl rfl ?_
        show Steps p.tables e below (T_36.setTop (mkF m 226 #[.val (.long q1), .second, .val (.int p2), .val (.int p3), .val (.int p4), .val (.int (0 : Int32)), .val (.int (0 : Int32)), .val (.ref b_1), .val (.ref b_2), .val (.ref b_10), .val (.ref b_13), .val (.ref b_16), .val (.ref b_20), .val (.ref b_1), .val (.ref b_10), .val (.ref r_36), .unset] [(.ref r_36)])) t
        refine XS.lloadN X_36.here hx rfl (hb hby at_226) rfl ?_
        exact kt
      obtain ⟨_, _, ⟨T_44, L_44, k_44, n_44⟩, -, X_44, ⟨Lc_44, hQ_44, l_44, y_44, z_44⟩, st_44⟩ := Jvm.LawKit.callS X_36 hx (y := (⟨"com/example/thin_table/thintable/model/KeyOrderNewestValuePinLaw", "head", "([BJ)Z"⟩ : MethodName)) hown (mvT hZ (hw _ (List.mem_of_getElem? (i := 13) rfl))) (mvT hZ (hw _ (List.mem_of_getElem? (i := 14) rfl))) (mvT hZ (hw _ (List.mem_of_getElem? (i := 3) rfl))) (mvT hZ (hw _ (List.mem_of_getElem? (i := 15) rfl))) (by decide) (backOf (W := 0) (rhead0 l Z a0 hw [] (r_36) (q1) p3 kB_36 T_36.heap n0 Z_36 V_36) hZ (hw _ (List.mem_of_getElem? (i := 15) rfl)) (hw _ (List.mem_of_getElem? (i := 3) rfl)) (by decide) (by decide)) (g := (mkF m 227 #[.val (.long q1), .second, .val (.int p2), .val (.int p3), .val (.int p4), .val (.int (0 : Int32)), .val (.int (0 : Int32)), .val (.ref b_1), .val (.ref b_2), .val (.ref b_10), .val (.ref b_13), .val (.ref b_16), .val (.ref b_20), .val (.ref b_1), .val (.ref b_10), .val (.ref r_36), .unset] [(.long q1), (.ref r_36)])) rfl (by rw [hml]; rfl) (argsL := [(.ref r_36), (.long q1)]) (rest := []) (lenOf pd_3 rfl) rfl (by show 2 * 0 + _ ≤ _; exact Nat.le_of_eq rfl) (hb hby at_227) (fun _ _ => ⟨rfl, rfl, (by decide : 7 + 0 ≤ _), (by decide : 33 + 0 ≤ _)⟩)
      dsimp only [Pt.U, Pt.locs, Pt.cells, Pt.slots] at X_44 l_44 y_44 z_44 st_44 hQ_44
      subst l_44 y_44 z_44
      obtain ⟨rfl, N_44q, e_44⟩ := hQ_44
      have N_44 := Fr.app N_36 N_44q
      refine own_go (g' := (mkF m 230 #[.val (.long q1), .second, .val (.int p2), .val (.int p3), .val (.int p4), .val (.int (0 : Int32)), .val (.int (0 : Int32)), .val (.ref b_1), .val (.ref b_2), .val (.ref b_10), .val (.ref b_13), .val (.ref b_16), .val (.ref b_20), .val (.ref b_1), .val (.ref b_10), .val (.ref r_36), .unset] [(.int (1 : Int32))])) st_44 ?_
      refine own_go (T' := T_44) (g' := (mkF m 238 #[.val (.long q1), .second, .val (.int p2), .val (.int p3), .val (.int p4), .val (.int (0 : Int32)), .val (.int (0 : Int32)), .val (.ref b_1), .val (.ref b_2), .val (.ref b_10), .val (.ref b_13), .val (.ref b_16), .val (.ref b_20), .val (.ref b_1), .val (.ref b_10), .val (.ref r_36), .unset] [(.int p3), (.int (0 : Int32)), (.ref r_36)])) (fun t kt => ?_) ?_
      · show Steps p.tables e below (T_44.setTop (mkF m 230 #[.val (.long q1), .second, .val (.int p2), .val (.int p3), .val (.int p4), .val (.int (0 : Int32)), .val (.int (0 : Int32)), .val (.ref b_1), .val (.ref b_2), .val (.ref b_10), .val (.ref b_13), .val (.ref b_16), .val (.ref b_20), .val (.ref b_1), .val (.ref b_10), .val (.ref r_36), .unset] [(.int (1 : Int32))])) t
        refine XS.ifNo X_44.here hx rfl (hb hby at_230) rfl ((if0 _ _).trans (feq (by decide : ¬ ((1 : Int32) = (0 : Int32)))).1) ?_
        show Steps p.tables e below (T_44.setTop (mkF m 233 #[.val (.long q1), .second, .val (.int p2), .val (.int p3), .val (.int p4), .val (.int (0 : Int32)), .val (.int (0 : Int32)), .val (.ref b_1), .val (.ref b_2), .val (.ref b_10), .val (.ref b_13), .val (.ref b_16), .val (.ref b_20), .val (.ref b_1), .val (.ref b_10), .val (.ref r_36), .unset] [])) t
        refine XS.aload X_44.here hx rfl (hb hby at_233) rfl rfl ?_
        show Steps p.tables e below (T_44.setTop (mkF m 235 #[.val (.long q1), .second, .val (.int p2), .val (.int p3), .val (.int p4), .val (.int (0 : Int32)), .val (.int (0 : Int32)), .val (.ref b_1), .val (.ref b_2), .val (.ref b_10), .val (.ref b_13), .val (.ref b_16), .val (.ref b_20), .val (.ref b_1), .val (.ref b_10), .val (.ref r_36), .unset] [(.ref r_36)])) t
        refine XS.iload X_44.here hx rfl (hb hby at_235) rfl ?_
        show Steps p.tables e below (T_44.setTop (mkF m 237 #[.val (.long q1), .second, .val (.int p2), .val (.int p3), .val (.int p4), .val (.int (0 : Int32)), .val (.int (0 : Int32)), .val (.ref b_1), .val (.ref b_2), .val (.ref b_10), .val (.ref b_13), .val (.ref b_16), .val (.ref b_20), .val (.ref b_1), .val (.ref b_10), .val (.ref r_36), .unset] [(.int (0 : Int32)), (.ref r_36)])) t
        refine XS.iloadN X_44.here hx rfl (hb hby at_237) rfl ?_
        exact kt
      obtain ⟨_, _, ⟨T_45, L_45, k_45, n_45⟩, -, X_45, ⟨Lc_45, hQ_45, l_45, y_45, z_45⟩, st_45⟩ := Jvm.LawKit.callS X_44 hx (y := (⟨"com/example/thin_table/thintable/model/KeyOrderNewestValuePinLaw", "tail", "([BII)Z"⟩ : MethodName)) hown (mvT hZ (hw _ (List.mem_of_getElem? (i := 16) rfl))) (mvT hZ (hw _ (List.mem_of_getElem? (i := 17) rfl))) (mvT hZ (hw _ (List.mem_of_getElem? (i := 3) rfl))) (mvT hZ (hw _ (List.mem_of_getElem? (i := 18) rfl))) (by decide) (backOf (W := 0) (rtail0 l Z a0 hw [] r_36 q1 p3 kB_36 T_36.heap n0 Z_36 V_36) hZ (hw _ (List.mem_of_getElem? (i := 18) rfl)) (hw _ (List.mem_of_getElem? (i := 3) rfl)) (by decide) (by decide)) (g := (mkF m 238 #[.val (.long q1), .second, .val (.int p2), .val (.int p3), .val (.int p4), .val (.int (0 : Int32)), .val (.int (0 : Int32)), .val (.ref b_1), .val (.ref b_2), .val (.ref b_10), .val (.ref b_13), .val (.ref b_16), .val (.ref b_20), .val (.ref b_1), .val (.ref b_10), .val (.ref r_36), .unset] [(.int p3), (.int (0 : Int32)), (.ref r_36)])) rfl (by rw [hml]; rfl) (argsL := [(.ref r_36), (.int (0 : Int32)), (.int p3)]) (rest := []) (lenOf pd_4 rfl) rfl (by show 2 * 0 + _ ≤ _; exact Nat.le_of_eq rfl) (hb hby at_238) (fun _ _ => ⟨rfl, e_44, (by decide : 7 + 0 ≤ _), (by decide : 33 + 0 ≤ _)⟩)
      dsimp only [Pt.U, Pt.locs, Pt.cells, Pt.slots] at X_45 l_45 y_45 z_45 st_45 hQ_45
      subst l_45 y_45 z_45
      obtain ⟨rfl, N_45q, e_45⟩ := hQ_45
      have N_45 := Fr.app N_44 N_45q
      refine own_go (g' := (mkF m 241 #[.val (.long q1), .second, .val (.int p2), .val (.int p3), .val (.int p4), .val (.int (0 : Int32)), .val (.int (0 : Int32)), .val (.ref b_1), .val (.ref b_2), .val (.ref b_10), .val (.ref b_13), .val (.ref b_16), .val (.ref b_20), .val (.ref b_1), .val (.ref b_10), .val (.ref r_36), .unset] [(.int (1 : Int32))])) st_45 ?_
      refine own_go (T' := T_45) (g' := (mkF m 262 #[.val (.long q1), .second, .val (.int p2), .val (.int p3), .val (.int p4), .val (.int (0 : Int32)), .val (.int (0 : Int32)), .val (.ref b_1), .val (.ref b_2), .val (.ref b_10), .val (.ref b_13), .val (.ref b_16), .val (.ref b_20), .val (.ref b_1), .val (.ref b_10), .val (.ref r_36), .val (.int (1 : Int32))] [(.ref b_1), (.ref b_1)])) (fun t kt => ?_) ?_
      · show Steps p.tables e below (T_45.setTop (mkF m 241 #[.val (.long q1), .second, .val (.int p2), .val (.int p3), .val (.int p4), .val (.int (0 : Int32)), .val (.int (0 : Int32)), .val (.ref b_1), .val (.ref b_2), .val (.ref b_10), .val (.ref b_13), .val (.ref b_16), .val (.ref b_20), .val (.ref b_1), .val (.ref b_10), .val (.ref r_36), .unset] [(.int (1 : Int32))])) t
        refine XS.ifNo X_45.here hx rfl (hb hby at_241) rfl ((if0 _ _).trans (feq (by decide : ¬ ((1 : Int32) = (0 : Int32)))).1) ?_
        show Steps p.tables e below (T_45.setTop (mkF m 244 #[.val (.long q1), .second, .val (.int p2), .val (.int p3), .val (.int p4), .val (.int (0 : Int32)), .val (.int (0 : Int32)), .val (.ref b_1), .val (.ref b_2), .val (.ref b_10), .val (.ref b_13), .val (.ref b_16), .val (.ref b_20), .val (.ref b_1), .val (.ref b_10), .val (.ref r_36), .unset] [])) t
        refine XS.iconst X_45.here hx rfl (hb hby at_244) ?_
        show Steps p.tables e below (T_45.setTop (mkF m 245 #[.val (.long q1), .second, .val (.int p2), .val (.int p3), .val (.int p4), .val (.int (0 : Int32)), .val (.int (0 : Int32)), .val (.ref b_1), .val (.ref b_2), .val (.ref b_10), .val (.ref b_13), .val (.ref b_16), .val (.ref b_20), .val (.ref b_1), .val (.ref b_10), .val (.ref r_36), .unset] [(.int (1 : Int32))])) t
        refine XS.goto X_45.here hx rfl (pc0 := 245) (pc' := 249) rfl (hb hby at_245) (by decide) (by decide) ?_
        show Steps p.tables e below (T_45.setTop (mkF m 249 #[.val (.long q1), .second, .val (.int p2), .val (.int p3), .val (.int p4), .val (.int (0 : Int32)), .val (.int (0 : Int32)), .val (.ref b_1), .val (.ref b_2), .val (.ref b_10), .val (.ref b_13), .val (.ref b_16), .val (.ref b_20), .val (.ref b_1), .val (.ref b_10), .val (.ref r_36), .unset] [(.int (1 : Int32))])) t
        refine XS.istore X_45.here hx rfl (hb hby at_249) rfl (l' := #[.val (.long q1), .second, .val (.int p2), .val (.int p3), .val (.int p4), .val (.int (0 : Int32)), .val (.int (0 : Int32)), .val (.ref b_1), .val (.ref b_2), .val (.ref b_10), .val (.ref b_13), .val (.ref b_16), .val (.ref b_20), .val (.ref b_1), .val (.ref b_10), .val (.ref r_36), .val (.int (1 : Int32))]) rfl ?_
        show Steps p.tables e below (T_45.setTop (mkF m 251 #[.val (.long q1), .second, .val (.int p2), .val (.int p3), .val (.int p4), .val (.int (0 : Int32)), .val (.int (0 : Int32)), .val (.ref b_1), .val (.ref b_2), .val (.ref b_10), .val (.ref b_13), .val (.ref b_16), .val (.ref b_20), .val (.ref b_1), .val (.ref b_10), .val (.ref r_36), .val (.int (1 : Int32))] [])) t
        refine XS.iload X_45.here hx rfl (hb hby at_251) rfl ?_
        show Steps p.tables e below (T_45.setTop (mkF m 253 #[.val (.long q1), .second, .val (.int p2), .val (.int p3), .val (.int p4), .val (.int (0 : Int32)), .val (.int (0 : Int32)), .val (.ref b_1), .val (.ref b_2), .val (.ref b_10), .val (.ref b_13), .val (.ref b_16), .val (.ref b_20), .val (.ref b_1), .val (.ref b_10), .val (.ref r_36), .val (.int (1 : Int32))] [(.int (1 : Int32))])) t
        refine XS.ifYes X_45.here hx rfl (pc0 := 253) (pc' := 258) rfl (hb hby at_253) rfl ((if0 _ _).trans (feq (by decide : ¬ ((1 : Int32) = (0 : Int32)))).2) (by decide) (by decide) ?_
        show Steps p.tables e below (T_45.setTop (mkF m 258 #[.val (.long q1), .second, .val (.int p2), .val (.int p3), .val (.int p4), .val (.int (0 : Int32)), .val (.int (0 : Int32)), .val (.ref b_1), .val (.ref b_2), .val (.ref b_10), .val (.ref b_13), .val (.ref b_16), .val (.ref b_20), .val (.ref b_1), .val (.ref b_10), .val (.ref r_36), .val (.int (1 : Int32))] [])) t
        refine XS.aload X_45.here hx rfl (hb hby at_258) rfl rfl ?_
        show Steps p.tables e below (T_45.setTop (mkF m 260 #[.val (.long q1), .second, .val (.int p2), .val (.int p3), .val (.int p4), .val (.int (0 : Int32)), .val (.int (0 : Int32)), .val (.ref b_1), .val (.ref b_2), .val (.ref b_10), .val (.ref b_13), .val (.ref b_16), .val (.ref b_20), .val (.ref b_1), .val (.ref b_10), .val (.ref r_36), .val (.int (1 : Int32))] [(.ref b_1)])) t
        refine XS.aload X_45.here hx rfl (hb hby at_260) rfl rfl ?_
        exact kt
      have f_46 := (f_34.keep K_36 nin0)
      have vq_47 := f_46
      obtain ⟨c_47, a_47, -, s_47, m_47, -, -⟩ := vq_47
      refine own_go (T' := T_45) (g' := (mkF m 263 #[.val (.long q1), .second, .val (.int p2), .val (.int p3), .val (.int p4), .val (.int (0 : Int32)), .val (.int (0 : Int32)), .val (.ref b_1), .val (.ref b_2), .val (.ref b_10), .val (.ref b_13), .val (.ref b_16), .val (.ref b_20), .val (.ref b_1), .val (.ref b_10), .val (.ref r_36), .val (.int (1 : Int32))] [(.int (8 : Int32)), (.ref b_1)])) (fun t kt => ?_) ?_
      · refine X_45.arraylength hx (by rw [e_45]; exact a_47.1) (State.isArrayOf_alike hZ.alike a_47.2.1) (g := (mkF m 262 #[.val (.long q1), .second, .val (.int p2), .val (.int p3), .val (.int p4), .val (.int (0 : Int32)), .val (.int (0 : Int32)), .val (.ref b_1), .val (.ref b_2), .val (.ref b_10), .val (.ref b_13), .val (.ref b_16), .val (.ref b_20), .val (.ref b_1), .val (.ref b_10), .val (.ref r_36), .val (.int (1 : Int32))] [(.ref b_1), (.ref b_1)])) rfl rfl (hb hby at_262) _ ?_
        rw [len_of s_47 m_47]
        exact kt
      refine own_go (T' := T_45) (g' := (mkF m 269 #[.val (.long q1), .second, .val (.int p2), .val (.int p3), .val (.int p4), .val (.int (0 : Int32)), .val (.int (0 : Int32)), .val (.ref b_1), .val (.ref b_2), .val (.ref b_10), .val (.ref b_13), .val (.ref b_16), .val (.ref b_20), .val (.ref b_1), .val (.ref b_10), .val (.ref r_36), .val (.int (1 : Int32))] [(.ref b_1), (.ref b_1), (.int (7 : Int32)), (.ref b_1)])) (fun t kt => ?_) ?_
      · show Steps p.tables e below (T_45.setTop (mkF m 263 #[.val (.long q1), .second, .val (.int p2), .val (.int p3), .val (.int p4), .val (.int (0 : Int32)), .val (.int (0 : Int32)), .val (.ref b_1), .val (.ref b_2), .val (.ref b_10), .val (.ref b_13), .val (.ref b_16), .val (.ref b_20), .val (.ref b_1), .val (.ref b_10), .val (.ref r_36), .val (.int (1 : Int32))] [(.int (8 : Int32)), (.ref b_1)])) t
        refine XS.iconst X_45.here hx rfl (hb hby at_263) ?_
        show Steps p.tables e below (T_45.setTop (mkF m 264 #[.val (.long q1), .second, .val (.int p2), .val (.int p3), .val (.int p4), .val (.int (0 : Int32)), .val (.int (0 : Int32)), .val (.ref b_1), .val (.ref b_2), .val (.ref b_10), .val (.ref b_13), .val (.ref b_16), .val (.ref b_20), .val (.ref b_1), .val (.ref b_10), .val (.ref r_36), .val (.int (1 : Int32))] [(.int (1 : Int32)), (.int (8 : Int32)), (.ref b_1)])) t
        refine XS.isub X_45.here hx rfl (hb hby at_264) rfl ?_
        show Steps p.tables e below (T_45.setTop (mkF m 265 #[.val (.long q1), .second, .val (.int p2), .val (.int p3), .val (.int p4), .val (.int (0 : Int32)), .val (.int (0 : Int32)), .val (.ref b_1), .val (.ref b_2), .val (.ref b_10), .val (.ref b_13), .val (.ref b_16), .val (.ref b_20), .val (.ref b_1), .val (.ref b_10), .val (.ref r_36), .val (.int (1 : Int32))] [(.int (7 : Int32)), (.ref b_1)])) t
        refine XS.aload X_45.here hx rfl (hb hby at_265) rfl rfl ?_
        show Steps p.tables e below (T_45.setTop (mkF m 267 #[.val (.long q1), .second, .val (.int p2), .val (.int p3), .val (.int p4), .val (.int (0 : Int32)), .val (.int (0 : Int32)), .val (.ref b_1), .val (.ref b_2), .val (.ref b_10), .val (.ref b_13), .val (.ref b_16), .val (.ref b_20), .val (.ref b_1), .val (.ref b_10), .val (.ref r_36), .val (.int (1 : Int32))] [(.ref b_1), (.int (7 : Int32)), (.ref b_1)])) t
        refine XS.aload X_45.here hx rfl (hb hby at_267) rfl rfl ?_
        exact kt
      have vq_48 := f_46
      obtain ⟨c_48, a_48, -, s_48, m_48, -, -⟩ := vq_48
      refine own_go (T' := T_45) (g' := (mkF m 270 #[.val (.long q1), .second, .val (.int p2), .val (.int p3), .val (.int p4), .val (.int (0 : Int32)), .val (.int (0 : Int32)), .val (.ref b_1), .val (.ref b_2), .val (.ref b_10), .val (.ref b_13), .val (.ref b_16), .val (.ref b_20), .val (.ref b_1), .val (.ref b_10), .val (.ref r_36), .val (.int (1 : Int32))] [(.int (8 : Int32)), (.ref b_1), (.int (7 : Int32)), (.ref b_1)])) (fun t kt => ?_) ?_
      · refine X_45.arraylength hx (by rw [e_45]; exact a_48.1) (State.isArrayOf_alike hZ.alike a_48.2.1) (g := (mkF m 269 #[.val (.long q1), .second, .val (.int p2), .val (.int p3), .val (.int p4), .val (.int (0 : Int32)), .val (.int (0 : Int32)), .val (.ref b_1), .val (.ref b_2), .val (.ref b_10), .val (.ref b_13), .val (.ref b_16), .val (.ref b_20), .val (.ref b_1), .val (.ref b_10), .val (.ref r_36), .val (.int (1 : Int32))] [(.ref b_1), (.ref b_1), (.int (7 : Int32)), (.ref b_1)])) rfl rfl (hb hby at_269) _ ?_
        rw [len_of s_48 m_48]
        exact kt
      refine own_go (T' := T_45) (g' := (mkF m 272 #[.val (.long q1), .second, .val (.int p2), .val (.int p3), .val (.int p4), .val (.int (0 : Int32)), .val (.int (0 : Int32)), .val (.ref b_1), .val (.ref b_2), .val (.ref b_10), .val (.ref b_13), .val (.ref b_16), .val (.ref b_20), .val (.ref b_1), .val (.ref b_10), .val (.ref r_36), .val (.int (1 : Int32))] [(.int (7 : Int32)), (.ref b_1), (.int (7 : Int32)), (.ref b_1)])) (fun t kt => ?_) ?_
      · show Steps p.tables e below (T_45.setTop (mkF m 270 #[.val (.long q1), .second, .val (.int p2), .val (.int p3), .val (.int p4), .val (.int (0 : Int32)), .val (.int (0 : Int32)), .val (.ref b_1), .val (.ref b_2), .val (.ref b_10), .val (.ref b_13), .val (.ref b_16), .val (.ref b_20), .val (.ref b_1), .val (.ref b_10), .val (.ref r_36), .val (.int (1 : Int32))] [(.int (8 : Int32)), (.ref b_1), (.int (7 : Int32)), (.ref b_1)])) t
        refine XS.iconst X_45.here hx rfl (hb hby at_270) ?_
        show Steps p.tables e below (T_45.setTop (mkF m 271 #[.val (.long q1), .second, .val (.int p2), .val (.int p3), .val (.int p4), .val (.int (0 : Int32)), .val (.int (0 : Int32)), .val (.ref b_1), .val (.ref b_2), .val (.ref b_10), .val (.ref b_13), .val (.ref b_16), .val (.ref b_20), .val (.ref b_1), .val (.ref b_10), .val (.ref r_36), .val (.int (1 : Int32))] [(.int (1 : Int32)), (.int (8 : Int32)), (.ref b_1), (.int (7 : Int32)), (.ref b_1)])) t
        refine XS.isub X_45.here hx rfl (hb hby at_271) rfl ?_
        exact kt
      have vq_49 := f_46
      obtain ⟨c_49, a_49, q_49, s_49, m_49, H_49, G_49⟩ := vq_49
      have hin_49 : ¬ ((7 : Int32) < 0 ∨ c_49.slots.size ≤ ((7 : Int32)).toNatClampNeg) := inb_of s_49 ⟨by decide, by decide⟩
      have hat_49 : c_49.slots[((7 : Int32)).toNatClampNeg]? = some (.int (own_b0 q1)) := H_49.at hin_49 rfl
      refine own_go (T' := T_45) (g' := (mkF m 273 #[.val (.long q1), .second, .val (.int p2), .val (.int p3), .val (.int p4), .val (.int (0 : Int32)), .val (.int (0 : Int32)), .val (.ref b_1), .val (.ref b_2), .val (.ref b_10), .val (.ref b_13), .val (.ref b_16), .val (.ref b_20), .val (.ref b_1), .val (.ref b_10), .val (.ref r_36), .val (.int (1 : Int32))] [(.int (own_b0 q1)), (.int (7 : Int32)), (.ref b_1)])) (fun t kt => ?_) ?_
      · refine X_45.baloadBytes hx (j := (7 : Int32)) (v := (.int (own_b0 q1))) (by rw [e_45]; exact a_49.1) (State.isArrayOf_alike hZ.alike a_49.2.1) a_49.2.2 hin_49 hat_49 (g := (mkF m 272 #[.val (.long q1), .second, .val (.int p2), .val (.int p3), .val (.int p4), .val (.int (0 : Int32)), .val (.int (0 : Int32)), .val (.ref b_1), .val (.ref b_2), .val (.ref b_10), .val (.ref b_13), .val (.ref b_16), .val (.ref b_20), .val (.ref b_1), .val (.ref b_10), .val (.ref r_36), .val (.int (1 : Int32))] [(.int (7 : Int32)), (.ref b_1), (.int (7 : Int32)), (.ref b_1)])) rfl rfl (hb hby at_272) _ ?_
        exact kt
      refine own_go (T' := T_45) (g' := (mkF m 276 #[.val (.long q1), .second, .val (.int p2), .val (.int p3), .val (.int p4), .val (.int (0 : Int32)), .val (.int (0 : Int32)), .val (.ref b_1), .val (.ref b_2), .val (.ref b_10), .val (.ref b_13), .val (.ref b_16), .val (.ref b_20), .val (.ref b_1), .val (.ref b_10), .val (.ref r_36), .val (.int (1 : Int32))] [(.int (((own_b0 q1) ^^^ (1 : Int32)).toInt8.toInt32)), (.int (7 : Int32)), (.ref b_1)])) (fun t kt => ?_) ?_
      · show Steps p.tables e below (T_45.setTop (mkF m 273 #[.val (.long q1), .second, .val (.int p2), .val (.int p3), .val (.int p4), .val (.int (0 : Int32)), .val (.int (0 : Int32)), .val (.ref b_1), .val (.ref b_2), .val (.ref b_10), .val (.ref b_13), .val (.ref b_16), .val (.ref b_20), .val (.ref b_1), .val (.ref b_10), .val (.ref r_36), .val (.int (1 : Int32))] [(.int (own_b0 q1)), (.int (7 : Int32)), (.ref b_1)])) t
        refine XS.iconst X_45.here hx rfl (hb hby at_273) ?_
        show Steps p.tables e below (T_45.setTop (mkF m 274 #[.val (.long q1), .second, .val (.int p2), .val (.int p3), .val (.int p4), .val (.int (0 : Int32)), .val (.int (0 : Int32)), .val (.ref b_1), .val (.ref b_2), .val (.ref b_10), .val (.ref b_13), .val (.ref b_16), .val (.ref b_20), .val (.ref b_1), .val (.ref b_10), .val (.ref r_36), .val (.int (1 : Int32))] [(.int (1 : Int32)), (.int (own_b0 q1)), (.int (7 : Int32)), (.ref b_1)])) t
        refine XS.ixor X_45.here hx rfl (hb hby at_274) rfl ?_
        show Steps p.tables e below (T_45.setTop (mkF m 275 #[.val (.long q1), .second, .val (.int p2), .val (.int p3), .val (.int p4), .val (.int (0 : Int32)), .val (.int (0 : Int32)), .val (.ref b_1), .val (.ref b_2), .val (.ref b_10), .val (.ref b_13), .val (.ref b_16), .val (.ref b_20), .val (.ref b_1), .val (.ref b_10), .val (.ref r_36), .val (.int (1 : Int32))] [(.int ((own_b0 q1) ^^^ (1 : Int32))), (.int (7 : Int32)), (.ref b_1)])) t
        refine XS.i2b X_45.here hx rfl (hb hby at_275) rfl ?_
        exact kt
      have vq_50 := f_46
      obtain ⟨c_50, a_50, q_50, s_50, m_50, H_50, G_50⟩ := vq_50
      have hin_50 : ¬ ((7 : Int32) < 0 ∨ c_50.slots.size ≤ ((7 : Int32)).toNatClampNeg) := inb_of s_50 ⟨by decide, by decide⟩
      obtain ⟨T_50, h_50, X_50, e_50, W_50, st_50⟩ := stB X_45 hx hZ e_45 a_50 (j := (7 : Int32)) hin_50 (g := (mkF m 276 #[.val (.long q1), .second, .val (.int p2), .val (.int p3), .val (.int p4), .val (.int (0 : Int32)), .val (.int (0 : Int32)), .val (.ref b_1), .val (.ref b_2), .val (.ref b_10), .val (.ref b_13), .val (.ref b_16), .val (.ref b_20), .val (.ref b_1), .val (.ref b_10), .val (.ref r_36), .val (.int (1 : Int32))] [(.int (((own_b0 q1) ^^^ (1 : Int32)).toInt8.toInt32)), (.int (7 : Int32)), (.ref b_1)])) rfl rfl (hb hby at_276)
      have V_50 : Arv Z h_50 b_1 k_1 .byte (8 : Int32) [(.int (own_by q1 56)), (.int (own_by q1 48)), (.int (own_by q1 40)), (.int (own_by q1 32)), (.int (own_by q1 24)), (.int (own_by q1 16)), (.int (own_by q1 8)), (.int (nar .byte (((own_b0 q1) ^^^ (1 : Int32)).toInt8.toInt32)))] (.int (0 : Int32)) := Arv.set a_50 q_50 s_50 m_50 H_50 G_50 (fits_nar_byte _) W_50 7 rfl (Nat.le_of_ble_eq_true rfl)
      have Z_50 : n0 ≤ h_50.size := Nat.le_trans Z_36 (Keep.of_wr W_50).1
      have N_50 := Fr.snoc X_50 N_45 g_b_1
      refine own_go (g' := (mkF m 277 #[.val (.long q1), .second, .val (.int p2), .val (.int p3), .val (.int p4), .val (.int (0 : Int32)), .val (.int (0 : Int32)), .val (.ref b_1), .val (.ref b_2), .val (.ref b_10), .val (.ref b_13), .val (.ref b_16), .val (.ref b_20), .val (.ref b_1), .val (.ref b_10), .val (.ref r_36), .val (.int (1 : Int32))] [])) st_50 ?_
      refine own_go (T' := T_50) (g' := (mkF m 297 #[.val (.long q1), .second, .val (.int p2), .val (.int p3), .val (.int p4), .val (.int (0 : Int32)), .val (.int (0 : Int32)), .val (.ref b_1), .val (.ref b_2), .val (.ref b_10), .val (.ref b_13), .val (.ref b_16), .val (.ref b_20), .val (.ref b_1), .val (.ref b_10), .val (.ref r_36), .val (.int (1 : Int32))] [(.int (7 : Int32)), (.ref r_36)])) (fun t kt => ?_) ?_
      · show Steps p.tables e below (T_50.setTop (mkF m 277 #[.val (.long q1), .second, .val (.int p2), .val (.int p3), .val (.int p4), .val (.int (0 : Int32)), .val (.int (0 : Int32)), .val (.ref b_1), .val (.ref b_2), .val (.ref b_10), .val (.ref b_13), .val (.ref b_16), .val (.ref b_20), .val (.ref b_1), .val (.ref b_10), .val (.ref r_36), .val (.int (1 : Int32))] [])) t
        refine XS.iload X_50.here hx rfl (hb hby at_277) rfl ?_
        show Steps p.tables e below (T_50.setTop (mkF m 279 #[.val (.long q1), .second, .val (.int p2), .val (.int p3), .val (.int p4), .val (.int (0 : Int32)), .val (.int (0 : Int32)), .val (.ref b_1), .val (.ref b_2), .val (.ref b_10), .val (.ref b_13), .val (.ref b_16), .val (.ref b_20), .val (.ref b_1), .val (.ref b_10), .val (.ref r_36), .val (.int (1 : Int32))] [(.int (0 : Int32))])) t
        refine XS.ifYes X_50.here hx rfl (pc0 := 279) (pc' := 293) rfl (hb hby at_279) rfl ((if0 _ _).trans (flt (by decide : ¬ ((0 : Int32) < (0 : Int32)))).2.2.2) (by decide) (by decide) ?_
        show Steps p.tables e below (T_50.setTop (mkF m 293 #[.val (.long q1), .second, .val (.int p2), .val (.int p3), .val (.int p4), .val (.int (0 : Int32)), .val (.int (0 : Int32)), .val (.ref b_1), .val (.ref b_2), .val (.ref b_10), .val (.ref b_13), .val (.ref b_16), .val (.ref b_20), .val (.ref b_1), .val (.ref b_10), .val (.ref r_36), .val (.int (1 : Int32))] [])) t
        refine XS.aload X_50.here hx rfl (hb hby at_293) rfl rfl ?_
        show Steps p.tables e below (T_50.setTop (mkF m 295 #[.val (.long q1), .second, .val (.int p2), .val (.int p3), .val (.int p4), .val (.int (0 : Int32)), .val (.int (0 : Int32)), .val (.ref b_1), .val (.ref b_2), .val (.ref b_10), .val (.ref b_13), .val (.ref b_16), .val (.ref b_20), .val (.ref b_1), .val (.ref b_10), .val (.ref r_36), .val (.int (1 : Int32))] [(.ref r_36)])) t
        refine XS.bipush X_50.here hx rfl (hb hby at_295) ?_
        exact kt
      have f_52 := (V_36.other W_50 (Ne.symm ne_b_1_r_36))
      have vq_51 := f_52
      obtain ⟨c_51, a_51, q_51, s_51, m_51, H_51, G_51⟩ := vq_51
      have hin_51 : ¬ ((7 : Int32) < 0 ∨ c_51.slots.size ≤ ((7 : Int32)).toNatClampNeg) := inb_of s_51 ⟨by decide, by decide⟩
      have hat_51 : c_51.slots[((7 : Int32)).toNatClampNeg]? = some (.int (own_b0 q1)) := H_51.at hin_51 rfl
      refine own_go (T' := T_50) (g' := (mkF m 298 #[.val (.long q1), .second, .val (.int p2), .val (.int p3), .val (.int p4), .val (.int (0 : Int32)), .val (.int (0 : Int32)), .val (.ref b_1), .val (.ref b_2), .val (.ref b_10), .val (.ref b_13), .val (.ref b_16), .val (.ref b_20), .val (.ref b_1), .val (.ref b_10), .val (.ref r_36), .val (.int (1 : Int32))] [(.int (own_b0 q1))])) (fun t kt => ?_) ?_
      · refine X_50.baloadBytes hx (j := (7 : Int32)) (v := (.int (own_b0 q1))) (by rw [e_50]; exact a_51.1) (State.isArrayOf_alike hZ.alike a_51.2.1) a_51.2.2 hin_51 hat_51 (g := (mkF m 297 #[.val (.long q1), .second, .val (.int p2), .val (.int p3), .val (.int p4), .val (.int (0 : Int32)), .val (.int (0 : Int32)), .val (.ref b_1), .val (.ref b_2), .val (.ref b_10), .val (.ref b_13), .val (.ref b_16), .val (.ref b_20), .val (.ref b_1), .val (.ref b_10), .val (.ref r_36), .val (.int (1 : Int32))] [(.int (7 : Int32)), (.ref r_36)])) rfl rfl (hb hby at_297) _ ?_
        exact kt
      refine own_go (T' := T_50) (g' := (mkF m 324 #[.val (.long q1), .second, .val (.int p2), .val (.int p3), .val (.int p4), .val (.int (0 : Int32)), .val (.int (0 : Int32)), .val (.ref b_1), .val (.ref b_2), .val (.ref b_10), .val (.ref b_13), .val (.ref b_16), .val (.ref b_20), .val (.ref b_1), .val (.ref b_10), .val (.ref r_36), .val (.int (1 : Int32))] [(.int (1 : Int32))])) (fun t kt => ?_) ?_
      · show Steps p.tables e below (T_50.setTop (mkF m 298 #[.val (.long q1), .second, .val (.int p2), .val (.int p3), .val (.int p4), .val (.int (0 : Int32)), .val (.int (0 : Int32)), .val (.ref b_1), .val (.ref b_2), .val (.ref b_10), .val (.ref b_13), .val (.ref b_16), .val (.ref b_20), .val (.ref b_1), .val (.ref b_10), .val (.ref r_36), .val (.int (1 : Int32))] [(.int (own_b0 q1))])) t
        refine XS.lloadN X_50.here hx rfl (hb hby at_298) rfl ?_
        show Steps p.tables e below (T_50.setTop (mkF m 299 #[.val (.long q1), .second, .val (.int p2), .val (.int p3), .val (.int p4), .val (.int (0 : Int32)), .val (.int (0 : Int32)), .val (.ref b_1), .val (.ref b_2), .val (.ref b_10), .val (.ref b_13), .val (.ref b_16), .val (.ref b_20), .val (.ref b_1), .val (.ref b_10), .val (.ref r_36), .val (.int (1 : Int32))] [(.long q1), (.int (own_b0 q1))])) t
        refine XS.l2i X_50.here hx rfl (hb hby at_299) rfl ?_
        show Steps p.tables e below (T_50.setTop (mkF m 300 #[.val (.long q1), .second, .val (.int p2), .val (.int p3), .val (.int p4), .val (.int (0 : Int32)), .val (.int (0 : Int32)), .val (.ref b_1), .val (.ref b_2), .val (.ref b_10), .val (.ref b_13), .val (.ref b_16), .val (.ref b_20), .val (.ref b_1), .val (.ref b_10), .val (.ref r_36), .val (.int (1 : Int32))] [(.int (q1.toInt32)), (.int (own_b0 q1))])) t
        refine XS.i2b X_50.here hx rfl (hb hby at_300) rfl ?_
        show Steps p.tables e below (T_50.setTop (mkF m 301 #[.val (.long q1), .second, .val (.int p2), .val (.int p3), .val (.int p4), .val (.int (0 : Int32)), .val (.int (0 : Int32)), .val (.ref b_1), .val (.ref b_2), .val (.ref b_10), .val (.ref b_13), .val (.ref b_16), .val (.ref b_20), .val (.ref b_1), .val (.ref b_10), .val (.ref r_36), .val (.int (1 : Int32))] [(.int ((q1.toInt32).toInt8.toInt32)), (.int (own_b0 q1))])) t
        refine XS.icmpNo X_50.here hx rfl (hb hby at_301) rfl (teq (own_b0_eq q1 : (own_b0 q1) = ((q1.toInt32).toInt8.toInt32))).2 ?_
        show Steps p.tables e below (T_50.setTop (mkF m 304 #[.val (.long q1), .second, .val (.int p2), .val (.int p3), .val (.int p4), .val (.int (0 : Int32)), .val (.int (0 : Int32)), .val (.ref b_1), .val (.ref b_2), .val (.ref b_10), .val (.ref b_13), .val (.ref b_16), .val (.ref b_20), .val (.ref b_1), .val (.ref b_10), .val (.ref r_36), .val (.int (1 : Int32))] [])) t
        refine XS.iload X_50.here hx rfl (hb hby at_304) rfl ?_
        show Steps p.tables e below (T_50.setTop (mkF m 306 #[.val (.long q1), .second, .val (.int p2), .val (.int p3), .val (.int p4), .val (.int (0 : Int32)), .val (.int (0 : Int32)), .val (.ref b_1), .val (.ref b_2), .val (.ref b_10), .val (.ref b_13), .val (.ref b_16), .val (.ref b_20), .val (.ref b_1), .val (.ref b_10), .val (.ref r_36), .val (.int (1 : Int32))] [(.int (0 : Int32))])) t
        refine XS.ifYes X_50.here hx rfl (pc0 := 306) (pc' := 319) rfl (hb hby at_306) rfl ((if0 _ _).trans (teq (by decide : (0 : Int32) = (0 : Int32))).1) (by decide) (by decide) ?_
        show Steps p.tables e below (T_50.setTop (mkF m 319 #[.val (.long q1), .second, .val (.int p2), .val (.int p3), .val (.int p4), .val (.int (0 : Int32)), .val (.int (0 : Int32)), .val (.ref b_1), .val (.ref b_2), .val (.ref b_10), .val (.ref b_13), .val (.ref b_16), .val (.ref b_20), .val (.ref b_1), .val (.ref b_10), .val (.ref r_36), .val (.int (1 : Int32))] [])) t
        refine XS.iconst X_50.here hx rfl (hb hby at_319) ?_
        show Steps p.tables e below (T_50.setTop (mkF m 320 #[.val (.long q1), .second, .val (.int p2), .val (.int p3), .val (.int p4), .val (.int (0 : Int32)), .val (.int (0 : Int32)), .val (.ref b_1), .val (.ref b_2), .val (.ref b_10), .val (.ref b_13), .val (.ref b_16), .val (.ref b_20), .val (.ref b_1), .val (.ref b_10), .val (.ref r_36), .val (.int (1 : Int32))] [(.int (1 : Int32))])) t
        refine XS.goto X_50.here hx rfl (pc0 := 320) (pc' := 324) rfl (hb hby at_320) (by decide) (by decide) ?_
        exact kt
      obtain ⟨fs, hr, hrun, hended, hW, hsame⟩ := X_50.leave (v := some (.int (1 : Int32))) (fun h => by rw [Bd.returns] at h; cases h)
      refine ⟨_, _, ?_, hrun, hended, _, _, rfl, ?_, ⟨_, rfl⟩, hW, hsame.mono (by decide) (by decide)⟩
      · exact retN X_50 hx (t := .boolean) Bd.returns (by simp) (hb hby at_324) hr
      · show Q_rm0 Z _ _ _ _ h0 n0 _ T_50.heap _
        rw [e_50]
        exact ⟨rfl, N_50⟩
    · refine own_go (T' := T_33) (g' := (mkF m 189 #[.val (.long q1), .second, .val (.int p2), .val (.int p3), .val (.int p4), .val (.int (0 : Int32)), .val (.int (1 : Int32)), .val (.ref b_1), .val (.ref b_2), .val (.ref b_10), .val (.ref b_13), .val (.ref b_16), .val (.ref b_20), .val (.ref b_1), .val (.ref b_13), .unset, .unset] [(.ref b_13), (.ref b_1)])) (fun t kt => ?_) ?_
      · show Steps p.tables e below (T_33.setTop (mkF m 135 #[.val (.long q1), .second, .val (.int p2), .val (.int p3), .val (.int p4), .val (.int (0 : Int32)), .val (.int (1 : Int32)), .val (.ref b_1), .val (.ref b_2), .val (.ref b_10), .val (.ref b_13), .val (.ref b_16), .val (.ref b_20), .unset, .unset, .unset, .unset] [])) t
        refine XS.iload X_33.here hx rfl (hb hby at_135) rfl ?_
        show Steps p.tables e below (T_33.setTop (mkF m 137 #[.val (.long q1), .second, .val (.int p2), .val (.int p3), .val (.int p4), .val (.int (0 : Int32)), .val (.int (1 : Int32)), .val (.ref b_1), .val (.ref b_2), .val (.ref b_10), .val (.ref b_13), .val (.ref b_16), .val (.ref b_20), .unset, .unset, .unset, .unset] [(.int (0 : Int32))])) t
        refine XS.ifYes X_33.here hx rfl (pc0 := 137) (pc' := 145) rfl (hb hby at_137) rfl ((if0 _ _).trans (teq (by decide : (0 : Int32) = (0 : Int32))).1) (by decide) (by decide) ?_
        show Steps p.tables e below (T_33.setTop (mkF m 145 #[.val (.long q1), .second, .val (.int p2), .val (.int p3), .val (.int p4), .val (.int (0 : Int32)), .val (.int (1 : Int32)), .val (.ref b_1), .val (.ref b_2), .val (.ref b_10), .val (.ref b_13), .val (.ref b_16), .val (.ref b_20), .unset, .unset, .unset, .unset] [])) t
        refine XS.aload X_33.here hx rfl (hb hby at_145) rfl rfl ?_
        show Steps p.tables e below (T_33.setTop (mkF m 147 #[.val (.long q1), .second, .val (.int p2), .val (.int p3), .val (.int p4), .val (.int (0 : Int32)), .val (.int (1 : Int32)), .val (.ref b_1), .val (.ref b_2), .val (.ref b_10), .val (.ref b_13), .val (.ref b_16), .val (.ref b_20), .unset, .unset, .unset, .unset] [(.ref b_1)])) t
        refine XS.astore X_33.here hx rfl (hb hby at_147) rfl rfl (l' := #[.val (.long q1), .second, .val (.int p2), .val (.int p3), .val (.int p4), .val (.int (0 : Int32)), .val (.int (1 : Int32)), .val (.ref b_1), .val (.ref b_2), .val (.ref b_10), .val (.ref b_13), .val (.ref b_16), .val (.ref b_20), .val (.ref b_1), .unset, .unset, .unset]) rfl ?_
        show Steps p.tables e below (T_33.setTop (mkF m 149 #[.val (.long q1), .second, .val (.int p2), .val (.int p3), .val (.int p4), .val (.int (0 : Int32)), .val (.int (1 : Int32)), .val (.ref b_1), .val (.ref b_2), .val (.ref b_10), .val (.ref b_13), .val (.ref b_16), .val (.ref b_20), .val (.ref b_1), .unset, .unset, .unset] [])) t
        refine XS.iload X_33.here hx rfl (hb hby at_149) rfl ?_
        show Steps p.tables e below (T_33.setTop (mkF m 151 #[.val (.long q1), .second, .val (.int p2), .val (.int p3), .val (.int p4), .val (.int (0 : Int32)), .val (.int (1 : Int32)), .val (.ref b_1), .val (.ref b_2), .val (.ref b_10), .val (.ref b_13), .val (.ref b_16), .val (.ref b_20), .val (.ref b_1), .unset, .unset, .unset] [(.int (1 : Int32))])) t
        refine XS.ifYes X_33.here hx rfl (pc0 := 151) (pc' := 159) rfl (hb hby at_151) rfl ((if0 _ _).trans (feq (by decide : ¬ ((1 : Int32) = (0 : Int32)))).2) (by decide) (by decide) ?_
        show Steps p.tables e below (T_33.setTop (mkF m 159 #[.val (.long q1), .second, .val (.int p2), .val (.int p3), .val (.int p4), .val (.int (0 : Int32)), .val (.int (1 : Int32)), .val (.ref b_1), .val (.ref b_2), .val (.ref b_10), .val (.ref b_13), .val (.ref b_16), .val (.ref b_20), .val (.ref b_1), .unset, .unset, .unset] [])) t
        refine XS.iload X_33.here hx rfl (hb hby at_159) rfl ?_
        show Steps p.tables e below (T_33.setTop (mkF m 161 #[.val (.long q1), .second, .val (.int p2), .val (.int p3), .val (.int p4), .val (.int (0 : Int32)), .val (.int (1 : Int32)), .val (.ref b_1), .val (.ref b_2), .val (.ref b_10), .val (.ref b_13), .val (.ref b_16), .val (.ref b_20), .val (.ref b_1), .unset, .unset, .unset] [(.int (1 : Int32))])) t
        refine XS.iconst X_33.here hx rfl (hb hby at_161) ?_
        show Steps p.tables e below (T_33.setTop (mkF m 162 #[.val (.long q1), .second, .val (.int p2), .val (.int p3), .val (.int p4), .val (.int (0 : Int32)), .val (.int (1 : Int32)), .val (.ref b_1), .val (.ref b_2), .val (.ref b_10), .val (.ref b_13), .val (.ref b_16), .val (.ref b_20), .val (.ref b_1), .unset, .unset, .unset] [(.int (1 : Int32)), (.int (1 : Int32))])) t
        refine XS.icmpNo X_33.here hx rfl (hb hby at_162) rfl (teq (by decide : (1 : Int32) = (1 : Int32))).2 ?_
        show Steps p.tables e below (T_33.setTop (mkF m 165 #[.val (.long q1), .second, .val (.int p2), .val (.int p3), .val (.int p4), .val (.int (0 : Int32)), .val (.int (1 : Int32)), .val (.ref b_1), .val (.ref b_2), .val (.ref b_10), .val (.ref b_13), .val (.ref b_16), .val (.ref b_20), .val (.ref b_1), .unset, .unset, .unset] [])) t
        refine XS.aload X_33.here hx rfl (hb hby at_165) rfl rfl ?_
        show Steps p.tables e below (T_33.setTop (mkF m 167 #[.val (.long q1), .second, .val (.int p2), .val (.int p3), .val (.int p4), .val (.int (0 : Int32)), .val (.int (1 : Int32)), .val (.ref b_1), .val (.ref b_2), .val (.ref b_10), .val (.ref b_13), .val (.ref b_16), .val (.ref b_20), .val (.ref b_1), .unset, .unset, .unset] [(.ref b_13)])) t
        refine XS.goto X_33.here hx rfl (pc0 := 167) (pc' := 183) rfl (hb hby at_167) (by decide) (by decide) ?_
        show Steps p.tables e below (T_33.setTop (mkF m 183 #[.val (.long q1), .second, .val (.int p2), .val (.int p3), .val (.int p4), .val (.int (0 : Int32)), .val (.int (1 : Int32)), .val (.ref b_1), .val (.ref b_2), .val (.ref b_10), .val (.ref b_13), .val (.ref b_16), .val (.ref b_20), .val (.ref b_1), .unset, .unset, .unset] [(.ref b_13)])) t
        refine XS.astore X_33.here hx rfl (hb hby at_183) rfl rfl (l' := #[.val (.long q1), .second, .val (.int p2), .val (.int p3), .val (.int p4), .val (.int (0 : Int32)), .val (.int (1 : Int32)), .val (.ref b_1), .val (.ref b_2), .val (.ref b_10), .val (.ref b_13), .val (.ref b_16), .val (.ref b_20), .val (.ref b_1), .val (.ref b_13), .unset, .unset]) rfl ?_
        show Steps p.tables e below (T_33.setTop (mkF m 185 #[.val (.long q1), .second, .val (.int p2), .val (.int p3), .val (.int p4), .val (.int (0 : Int32)), .val (.int (1 : Int32)), .val (.ref b_1), .val (.ref b_2), .val (.ref b_10), .val (.ref b_13), .val (.ref b_16), .val (.ref b_20), .val (.ref b_1), .val (.ref b_13), .unset, .unset] [])) t
        refine XS.aload X_33.here hx rfl (hb hby at_185) rfl rfl ?_
        show Steps p.tables e below (T_33.setTop (mkF m 187 #[.val (.long q1), .second, .val (.int p2), .val (.int p3), .val (.int p4), .val (.int (0 : Int32)), .val (.int (1 : Int32)), .val (.ref b_1), .val (.ref b_2), .val (.ref b_10), .val (.ref b_13), .val (.ref b_16), .val (.ref b_20), .val (.ref b_1), .val (.ref b_13), .unset, .unset] [(.ref b_1)])) t
        refine XS.aload X_33.here hx rfl (hb hby at_187) rfl rfl ?_
        exact kt
      have f_53 := ((((((((((((((V_4.other W_5 ne_b_1_b_2).other W_7 ne_b_1_b_2).other W_8 ne_b_1_b_2).keep K_9 (ninS ne_b_1_b_2 nin0)).ext E_10).ext E_13).ext E_16).ext E_20).other W_25 ne_b_1_b_13).other W_27 ne_b_1_b_16).other W_29 ne_b_1_b_16).other W_30 ne_b_1_b_20).other W_32 ne_b_1_b_20).other W_33 ne_b_1_b_20)
      have f_54 := (((((V_25.other W_27 ne_b_13_b_16).other W_29 ne_b_13_b_16).other W_30 ne_b_13_b_20).other W_32 ne_b_13_b_20).other W_33 ne_b_13_b_20)
      obtain ⟨_, _, ⟨T_55, L_55, k_55, n_55⟩, -, X_55, ⟨Lc_55, hQ_55, l_55, y_55, z_55⟩, st_55⟩ := Jvm.LawKit.callS X_33 hx (y := (⟨"com/example/thin_table/thintable/model/KeyOrder", "newestValue", "([B[B)[B"⟩ : MethodName)) hown (mvT hZ (hw _ (List.mem_of_getElem? (i := 5) rfl))) (mvT hZ (hw _ (List.mem_of_getElem? (i := 6) rfl))) (mvT hZ (hw _ (List.mem_of_getElem? (i := 7) rfl))) (mvT hZ (hw _ (List.mem_of_getElem? (i := 8) rfl))) (by decide) (backOf (W := 0) (rnew8_1 l Z a0 hw [] (b_1) (b_13) k_1 k_13 [(.int (own_by q1 56)), (.int (own_by q1 48)), (.int (own_by q1 40)), (.int (own_by q1 32)), (.int (own_by q1 24)), (.int (own_by q1 16)), (.int (own_by q1 8)), (.int (own_b0 q1))] [(.int (nar .byte (p3.toInt8.toInt32)))] h_33 n0 Z_33 f_53 f_54) hZ (hw _ (List.mem_of_getElem? (i := 8) rfl)) (hw _ (List.mem_of_getElem? (i := 7) rfl)) (by decide) (by decide)) (g := (mkF m 189 #[.val (.long q1), .second, .val (.int p2), .val (.int p3), .val (.int p4), .val (.int (0 : Int32)), .val (.int (1 : Int32)), .val (.ref b_1), .val (.ref b_2), .val (.ref b_10), .val (.ref b_13), .val (.ref b_16), .val (.ref b_20), .val (.ref b_1), .val (.ref b_13), .unset, .unset] [(.ref b_13), (.ref b_1)])) rfl (by rw [hml]; rfl) (argsL := [(.ref b_1), (.ref b_13)]) (rest := []) (lenOf pd_1 rfl) rfl (by show 2 * 0 + _ ≤ _; exact Nat.le_of_eq rfl) (hb hby at_189) (fun _ _ => ⟨rfl, e_33, (by decide : 6 + 1 ≤ _), (by decide : 25 + 9 ≤ _)⟩)
      dsimp only [Pt.U, Pt.locs, Pt.cells, Pt.slots] at X_55 l_55 y_55 z_55 st_55 hQ_55
      subst l_55 y_55 z_55
      obtain ⟨r_55, kB_55, rfl, N_55q, K_55, sr_55, V_55⟩ := hQ_55
      have N_55 := Fr.app N_33 N_55q
      have f_56 := (((((((f_21.ext E_20).wr W_25).wr W_27).wr W_29).wr W_30).wr W_32).wr W_33)
      have ne_b_1_r_55 : b_1 ≠ r_55 := Nat.ne_of_lt (Nat.lt_of_lt_of_le f_56.lt sr_55)
      have f_57 := (((((((f_22.ext E_20).wr W_25).wr W_27).wr W_29).wr W_30).wr W_32).wr W_33)
      have ne_b_2_r_55 : b_2 ≠ r_55 := Nat.ne_of_lt (Nat.lt_of_lt_of_le f_57.lt sr_55)
      have f_58 := (((((((f_23.ext E_20).wr W_25).wr W_27).wr W_29).wr W_30).wr W_32).wr W_33)
      have ne_b_10_r_55 : b_10 ≠ r_55 := Nat.ne_of_lt (Nat.lt_of_lt_of_le f_58.lt sr_55)
      have f_59 := (((((((f_24.ext E_20).wr W_25).wr W_27).wr W_29).wr W_30).wr W_32).wr W_33)
      have ne_b_13_r_55 : b_13 ≠ r_55 := Nat.ne_of_lt (Nat.lt_of_lt_of_le f_59.lt sr_55)
      have f_60 := (((((((B_16.ext E_20).wr W_25).wr W_27).wr W_29).wr W_30).wr W_32).wr W_33)
      have ne_b_16_r_55 : b_16 ≠ r_55 := Nat.ne_of_lt (Nat.lt_of_lt_of_le f_60.lt sr_55)
      have f_61 := ((((((B_20.wr W_25).wr W_27).wr W_29).wr W_30).wr W_32).wr W_33)
      have ne_b_20_r_55 : b_20 ≠ r_55 := Nat.ne_of_lt (Nat.lt_of_lt_of_le f_61.lt sr_55)
      have g_r_55 : n0 ≤ r_55 := Nat.le_trans Z_33 sr_55
      have Z_55 : n0 ≤ T_55.heap.size := Nat.le_trans Z_33 K_55.1
      refine own_go (g' := (mkF m 192 #[.val (.long q1), .second, .val (.int p2), .val (.int p3), .val (.int p4), .val (.int (0 : Int32)), .val (.int (1 : Int32)), .val (.ref b_1), .val (.ref b_2), .val (.ref b_10), .val (.ref b_13), .val (.ref b_16), .val (.ref b_20), .val (.ref b_1), .val (.ref b_13), .unset, .unset] [(.ref r_55)])) st_55 ?_
      replace V_55 : Arv Z T_55.heap r_55 kB_55 .byte (9 : Int32) [(.int (own_by q1 56)), (.int (own_by q1 48)), (.int (own_by q1 40)), (.int (own_by q1 32)), (.int (own_by q1 24)), (.int (own_by q1 16)), (.int (own_by q1 8)), (.int (own_b0 q1)), (.int (nar .byte (p3.toInt8.toInt32)))] (.int (0 : Int32)) := V_55
      refine own_go (T' := T_55) (g' := (mkF m 201 #[.val (.long q1), .second, .val (.int p2), .val (.int p3), .val (.int p4), .val (.int (0 : Int32)), .val (.int (1 : Int32)), .val (.ref b_1), .val (.ref b_2), .val (.ref b_10), .val (.ref b_13), .val (.ref b_16), .val (.ref b_20), .val (.ref b_1), .val (.ref b_13), .val (.ref r_55), .unset] [(.ref r_55)])) (fun t kt => ?_) ?_
      · show Steps p.tables e below (T_55.setTop (mkF m 192 #[.val (.long q1), .second, .val (.int p2), .val (.int p3), .val (.int p4), .val (.int (0 : Int32)), .val (.int (1 : Int32)), .val (.ref b_1), .val (.ref b_2), .val (.ref b_10), .val (.ref b_13), .val (.ref b_16), .val (.ref b_20), .val (.ref b_1), .val (.ref b_13), .unset, .unset] [(.ref r_55)])) t
        refine XS.astore X_55.here hx rfl (hb hby at_192) rfl rfl (l' := #[.val (.long q1), .second, .val (.int p2), .val (.int p3), .val (.int p4), .val (.int (0 : Int32)), .val (.int (1 : Int32)), .val (.ref b_1), .val (.ref b_2), .val (.ref b_10), .val (.ref b_13), .val (.ref b_16), .val (.ref b_20), .val (.ref b_1), .val (.ref b_13), .val (.ref r_55), .unset]) rfl ?_
        show Steps p.tables e below (T_55.setTop (mkF m 194 #[.val (.long q1), .second, .val (.int p2), .val (.int p3), .val (.int p4), .val (.int (0 : Int32)), .val (.int (1 : Int32)), .val (.ref b_1), .val (.ref b_2), .val (.ref b_10), .val (.ref b_13), .val (.ref b_16), .val (.ref b_20), .val (.ref b_1), .val (.ref b_13), .val (.ref r_55), .unset] [])) t
        refine XS.aload X_55.here hx rfl (hb hby at_194) rfl rfl ?_
        show Steps p.tables e below (T_55.setTop (mkF m 196 #[.val (.long q1), .second, .val (.int p2), .val (.int p3), .val (.int p4), .val (.int (0 : Int32)), .val (.int (1 : Int32)), .val (.ref b_1), .val (.ref b_2), .val (.ref b_10), .val (.ref b_13), .val (.ref b_16), .val (.ref b_20), .val (.ref b_1), .val (.ref b_13), .val (.ref r_55), .unset] [(.ref r_55)])) t
        refine XS.ifnullNo X_55.here hx rfl (hb hby at_196) rfl ?_
        show Steps p.tables e below (T_55.setTop (mkF m 199 #[.val (.long q1), .second, .val (.int p2), .val (.int p3), .val (.int p4), .val (.int (0 : Int32)), .val (.int (1 : Int32)), .val (.ref b_1), .val (.ref b_2), .val (.ref b_10), .val (.ref b_13), .val (.ref b_16), .val (.ref b_20), .val (.ref b_1), .val (.ref b_13), .val (.ref r_55), .unset] [])) t
        refine XS.aload X_55.here hx rfl (hb hby at_199) rfl rfl ?_
        exact kt
      have vq_62 := V_55
      obtain ⟨c_62, a_62, -, s_62, m_62, -, -⟩ := vq_62
      refine own_go (T' := T_55) (g' := (mkF m 202 #[.val (.long q1), .second, .val (.int p2), .val (.int p3), .val (.int p4), .val (.int (0 : Int32)), .val (.int (1 : Int32)), .val (.ref b_1), .val (.ref b_2), .val (.ref b_10), .val (.ref b_13), .val (.ref b_16), .val (.ref b_20), .val (.ref b_1), .val (.ref b_13), .val (.ref r_55), .unset] [(.int (9 : Int32))])) (fun t kt => ?_) ?_
      · refine X_55.arraylength hx a_62.1 (State.isArrayOf_alike hZ.alike a_62.2.1) (g := (mkF m 201 #[.val (.long q1), .second, .val (.int p2), .val (.int p3), .val (.int p4), .val (.int (0 : Int32)), .val (.int (1 : Int32)), .val (.ref b_1), .val (.ref b_2), .val (.ref b_10), .val (.ref b_13), .val (.ref b_16), .val (.ref b_20), .val (.ref b_1), .val (.ref b_13), .val (.ref r_55), .unset] [(.ref r_55)])) rfl rfl (hb hby at_201) _ ?_
        rw [len_of s_62 m_62]
        exact kt
      refine own_go (T' := T_55) (g' := (mkF m 227 #[.val (.long q1), .second, .val (.int p2), .val (.int p3), .val (.int p4), .val (.int (0 : Int32)), .val (.int (1 : Int32)), .val (.ref b_1), .val (.ref b_2), .val (.ref b_10), .val (.ref b_13), .val (.ref b_16), .val (.ref b_20), .val (.ref b_1), .val (.ref b_13), .val (.ref r_55), .unset] [(.long q1), (.ref r_55)])) (fun t kt => ?_) ?_
      · show Steps p.tables e below (T_55.setTop (mkF m 202 #[.val (.long q1), .second, .val (.int p2), .val (.int p3), .val (.int p4), .val (.int (0 : Int32)), .val (.int (1 : Int32)), .val (.ref b_1), .val (.ref b_2), .val (.ref b_10), .val (.ref b_13), .val (.ref b_16), .val (.ref b_20), .val (.ref b_1), .val (.ref b_13), .val (.ref r_55), .unset] [(.int (9 : Int32))])) t
        refine XS.bipush X_55.here hx rfl (hb hby at_202) ?_
        show Steps p.tables e below (T_55.setTop (mkF m 204 #[.val (.long q1), .second, .val (.int p2), .val (.int p3), .val (.int p4), .val (.int (0 : Int32)), .val (.int (1 : Int32)), .val (.ref b_1), .val (.ref b_2), .val (.ref b_10), .val (.ref b_13), .val (.ref b_16), .val (.ref b_20), .val (.ref b_1), .val (.ref b_13), .val (.ref r_55), .unset] [(.int (8 : Int32)), (.int (9 : Int32))])) t
        refine XS.iload X_55.here hx rfl (hb hby at_204) rfl ?_
        show Steps p.tables e below (T_55.setTop (mkF m 206 #[.val (.long q1), .second, .val (.int p2), .val (.int p3), .val (.int p4), .val (.int (0 : Int32)), .val (.int (1 : Int32)), .val (.ref b_1), .val (.ref b_2), .val (.ref b_10), .val (.ref b_13), .val (.ref b_16), .val (.ref b_20), .val (.ref b_1), .val (.ref b_13), .val (.ref r_55), .unset] [(.int (1 : Int32)), (.int (8 : Int32)), (.int (9 : Int32))])) t
        refine XS.iadd X_55.here hx rfl (hb hby at_206) rfl ?_
        show Steps p.tables e below (T_55.setTop (mkF m 207 #[.val (.long q1), .second, .val (.int p2), .val (.int p3), .val (.int p4), .val (.int (0 : Int32)), .val (.int (1 : Int32)), .val (.ref b_1), .val (.ref b_2), .val (.ref b_10), .val (.ref b_13), .val (.ref b_16), .val (.ref b_20), .val (.ref b_1), .val (.ref b_13), .val (.ref r_55), .unset] [(.int (9 : Int32)), (.int (9 : Int32))])) t
        refine XS.icmpNo X_55.here hx rfl (hb hby at_207) rfl (teq (by decide : (9 : Int32) = (9 : Int32))).2 ?_
        show Steps p.tables e below (T_55.setTop (mkF m 210 #[.val (.long q1), .second, .val (.int p2), .val (.int p3), .val (.int p4), .val (.int (0 : Int32)), .val (.int (1 : Int32)), .val (.ref b_1), .val (.ref b_2), .val (.ref b_10), .val (.ref b_13), .val (.ref b_16), .val (.ref b_20), .val (.ref b_1), .val (.ref b_13), .val (.ref r_55), .unset] [])) t
        refine XS.aload X_55.here hx rfl (hb hby at_210) rfl rfl ?_
        show Steps p.tables e below (T_55.setTop (mkF m 212 #[.val (.long q1), .second, .val (.int p2), .val (.int p3), .val (.int p4), .val (.int (0 : Int32)), .val (.int (1 : Int32)), .val (.ref b_1), .val (.ref b_2), .val (.ref b_10), .val (.ref b_13), .val (.ref b_16), .val (.ref b_20), .val (.ref b_1), .val (.ref b_13), .val (.ref r_55), .unset] [(.ref r_55)])) t
        refine XS.aload X_55.here hx rfl (hb hby at_212) rfl rfl ?_
        show Steps p.tables e below (T_55.setTop (mkF m 214 #[.val (.long q1), .second, .val (.int p2), .val (.int p3), .val (.int p4), .val (.int (0 : Int32)), .val (.int (1 : Int32)), .val (.ref b_1), .val (.ref b_2), .val (.ref b_10), .val (.ref b_13), .val (.ref b_16), .val (.ref b_20), .val (.ref b_1), .val (.ref b_13), .val (.ref r_55), .unset] [(.ref b_13), (.ref r_55)])) t
        refine Jvm.RoadKit.acmp (g := (mkF m 214 #[.val (.long q1), .second, .val (.int p2), .val (.int p3), .val (.int p4), .val (.int (0 : Int32)), .val (.int (1 : Int32)), .val (.ref b_1), .val (.ref b_2), .val (.ref b_10), .val (.ref b_13), .val (.ref b_16), .val (.ref b_20), .val (.ref b_1), .val (.ref b_13), .val (.ref r_55), .unset] [(.ref b_13), (.ref r_55)])) X_55 hx rfl rfl rfl (pc0 := 214) (pc' := 217) (same := false) rfl (hb hby at_214) rfl (decide_eq_false fun q => (Ne.symm ne_b_13_r_55) (Value.ref.inj q)) (by decide) (by decide) ?_
        show Steps p.tables e below (T_55.setTop (mkF m 217 #[.val (.long q1), .second, .val (.int p2), .val (.int p3), .val (.int p4), .val (.int (0 : Int32)), .val (.int (1 : Int32)), .val (.ref b_1), .val (.ref b_2), .val (.ref b_10), .val (.ref b_13), .val (.ref b_16), .val (.ref b_20), .val (.ref b_1), .val (.ref b_13), .val (.ref r_55), .unset] [])) t
        refine XS.aload X_55.here hx rfl (hb hby at_217) rfl rfl ?_
        show Steps p.tables e below (T_55.setTop (mkF m 219 #[.val (.long q1), .second, .val (.int p2), .val (.int p3), .val (.int p4), .val (.int (0 : Int32)), .val (.int (1 : Int32)), .val (.ref b_1), .val (.ref b_2), .val (.ref b_10), .val (.ref b_13), .val (.ref b_16), .val (.ref b_20), .val (.ref b_1), .val (.ref b_13), .val (.ref r_55), .unset] [(.ref r_55)])) t
        refine XS.aload X_55.here hx rfl (hb hby at_219) rfl rfl ?_
        show Steps p.tables e below (T_55.setTop (mkF m 221 #[.val (.long q1), .second, .val (.int p2), .val (.int p3), .val (.int p4), .val (.int (0 : Int32)), .val (.int (1 : Int32)), .val (.ref b_1), .val (.ref b_2), .val (.ref b_10), .val (.ref b_13), .val (.ref b_16), .val (.ref b_20), .val (.ref b_1), .val (.ref b_13), .val (.ref r_55), .unset] [(.ref b_1), (.ref r_55)])) t
        refine Jvm.RoadKit.acmp (g := (mkF m 221 #[.val (.long q1), .second, .val (.int p2), .val (.int p3), .val (.int p4), .val (.int (0 : Int32)), .val (.int (1 : Int32)), .val (.ref b_1), .val (.ref b_2), .val (.ref b_10), .val (.ref b_13), .val (.ref b_16), .val (.ref b_20), .val (.ref b_1), .val (.ref b_13), .val (.ref r_55), .unset] [(.ref b_1), (.ref r_55)])) X_55 hx rfl rfl rfl (pc0 := 221) (pc' := 224) (same := false) rfl (hb hby at_221) rfl (decide_eq_false fun q => (Ne.symm ne_b_1_r_55) (Value.ref.inj q)) (by decide) (by decide) ?_
        show Steps p.tables e below (T_55.setTop (mkF m 224 #[.val (.long q1), .second, .val (.int p2), .val (.int p3), .val (.int p4), .val (.int (0 : Int32)), .val (.int (1 : Int32)), .val (.ref b_1), .val (.ref b_2), .val (.ref b_10), .val (.ref b_13), .val (.ref b_16), .val (.ref b_20), .val (.ref b_1), .val (.ref b_13), .val (.ref r_55), .unset] [])) t
        refine XS.aload X_55.here hx rfl (hb hby at_224) rfl rfl ?_
        show Steps p.tables e below (T_55.setTop (mkF m 226 #[.val (.long q1), .second, .val (.int p2), .val (.int p3), .val (.int p4), .val (.int (0 : Int32)), .val (.int (1 : Int32)), .val (.ref b_1), .val (.ref b_2), .val (.ref b_10), .val (.ref b_13), .val (.ref b_16), .val (.ref b_20), .val (.ref b_1), .val (.ref b_13), .val (.ref r_55), .unset] [(.ref r_55)])) t
        refine XS.lloadN X_55.here hx rfl (hb hby at_226) rfl ?_
        exact kt
      obtain ⟨_, _, ⟨T_63, L_63, k_63, n_63⟩, -, X_63, ⟨Lc_63, hQ_63, l_63, y_63, z_63⟩, st_63⟩ := Jvm.LawKit.callS X_55 hx (y := (⟨"com/example/thin_table/thintable/model/KeyOrderNewestValuePinLaw", "head", "([BJ)Z"⟩ : MethodName)) hown (mvT hZ (hw _ (List.mem_of_getElem? (i := 13) rfl))) (mvT hZ (hw _ (List.mem_of_getElem? (i := 14) rfl))) (mvT hZ (hw _ (List.mem_of_getElem? (i := 3) rfl))) (mvT hZ (hw _ (List.mem_of_getElem? (i := 15) rfl))) (by decide) (backOf (W := 0) (rhead1 l Z a0 hw [] (r_55) (q1) p3 kB_55 T_55.heap n0 Z_55 V_55) hZ (hw _ (List.mem_of_getElem? (i := 15) rfl)) (hw _ (List.mem_of_getElem? (i := 3) rfl)) (by decide) (by decide)) (g := (mkF m 227 #[.val (.long q1), .second, .val (.int p2), .val (.int p3), .val (.int p4), .val (.int (0 : Int32)), .val (.int (1 : Int32)), .val (.ref b_1), .val (.ref b_2), .val (.ref b_10), .val (.ref b_13), .val (.ref b_16), .val (.ref b_20), .val (.ref b_1), .val (.ref b_13), .val (.ref r_55), .unset] [(.long q1), (.ref r_55)])) rfl (by rw [hml]; rfl) (argsL := [(.ref r_55), (.long q1)]) (rest := []) (lenOf pd_3 rfl) rfl (by show 2 * 0 + _ ≤ _; exact Nat.le_of_eq rfl) (hb hby at_227) (fun _ _ => ⟨rfl, rfl, (by decide : 7 + 0 ≤ _), (by decide : 34 + 0 ≤ _)⟩)
      dsimp only [Pt.U, Pt.locs, Pt.cells, Pt.slots] at X_63 l_63 y_63 z_63 st_63 hQ_63
      subst l_63 y_63 z_63
      obtain ⟨rfl, N_63q, e_63⟩ := hQ_63
      have N_63 := Fr.app N_55 N_63q
      refine own_go (g' := (mkF m 230 #[.val (.long q1), .second, .val (.int p2), .val (.int p3), .val (.int p4), .val (.int (0 : Int32)), .val (.int (1 : Int32)), .val (.ref b_1), .val (.ref b_2), .val (.ref b_10), .val (.ref b_13), .val (.ref b_16), .val (.ref b_20), .val (.ref b_1), .val (.ref b_13), .val (.ref r_55), .unset] [(.int (1 : Int32))])) st_63 ?_
      refine own_go (T' := T_63) (g' := (mkF m 238 #[.val (.long q1), .second, .val (.int p2), .val (.int p3), .val (.int p4), .val (.int (0 : Int32)), .val (.int (1 : Int32)), .val (.ref b_1), .val (.ref b_2), .val (.ref b_10), .val (.ref b_13), .val (.ref b_16), .val (.ref b_20), .val (.ref b_1), .val (.ref b_13), .val (.ref r_55), .unset] [(.int p3), (.int (1 : Int32)), (.ref r_55)])) (fun t kt => ?_) ?_
      · show Steps p.tables e below (T_63.setTop (mkF m 230 #[.val (.long q1), .second, .val (.int p2), .val (.int p3), .val (.int p4), .val (.int (0 : Int32)), .val (.int (1 : Int32)), .val (.ref b_1), .val (.ref b_2), .val (.ref b_10), .val (.ref b_13), .val (.ref b_16), .val (.ref b_20), .val (.ref b_1), .val (.ref b_13), .val (.ref r_55), .unset] [(.int (1 : Int32))])) t
        refine XS.ifNo X_63.here hx rfl (hb hby at_230) rfl ((if0 _ _).trans (feq (by decide : ¬ ((1 : Int32) = (0 : Int32)))).1) ?_
        show Steps p.tables e below (T_63.setTop (mkF m 233 #[.val (.long q1), .second, .val (.int p2), .val (.int p3), .val (.int p4), .val (.int (0 : Int32)), .val (.int (1 : Int32)), .val (.ref b_1), .val (.ref b_2), .val (.ref b_10), .val (.ref b_13), .val (.ref b_16), .val (.ref b_20), .val (.ref b_1), .val (.ref b_13), .val (.ref r_55), .unset] [])) t
        refine XS.aload X_63.here hx rfl (hb hby at_233) rfl rfl ?_
        show Steps p.tables e below (T_63.setTop (mkF m 235 #[.val (.long q1), .second, .val (.int p2), .val (.int p3), .val (.int p4), .val (.int (0 : Int32)), .val (.int (1 : Int32)), .val (.ref b_1), .val (.ref b_2), .val (.ref b_10), .val (.ref b_13), .val (.ref b_16), .val (.ref b_20), .val (.ref b_1), .val (.ref b_13), .val (.ref r_55), .unset] [(.ref r_55)])) t
        refine XS.iload X_63.here hx rfl (hb hby at_235) rfl ?_
        show Steps p.tables e below (T_63.setTop (mkF m 237 #[.val (.long q1), .second, .val (.int p2), .val (.int p3), .val (.int p4), .val (.int (0 : Int32)), .val (.int (1 : Int32)), .val (.ref b_1), .val (.ref b_2), .val (.ref b_10), .val (.ref b_13), .val (.ref b_16), .val (.ref b_20), .val (.ref b_1), .val (.ref b_13), .val (.ref r_55), .unset] [(.int (1 : Int32)), (.ref r_55)])) t
        refine XS.iloadN X_63.here hx rfl (hb hby at_237) rfl ?_
        exact kt
      obtain ⟨_, _, ⟨T_64, L_64, k_64, n_64⟩, -, X_64, ⟨Lc_64, hQ_64, l_64, y_64, z_64⟩, st_64⟩ := Jvm.LawKit.callS X_63 hx (y := (⟨"com/example/thin_table/thintable/model/KeyOrderNewestValuePinLaw", "tail", "([BII)Z"⟩ : MethodName)) hown (mvT hZ (hw _ (List.mem_of_getElem? (i := 16) rfl))) (mvT hZ (hw _ (List.mem_of_getElem? (i := 17) rfl))) (mvT hZ (hw _ (List.mem_of_getElem? (i := 3) rfl))) (mvT hZ (hw _ (List.mem_of_getElem? (i := 18) rfl))) (by decide) (backOf (W := 0) (rtail1 l Z a0 hw [] r_55 q1 p3 kB_55 T_55.heap n0 Z_55 V_55) hZ (hw _ (List.mem_of_getElem? (i := 18) rfl)) (hw _ (List.mem_of_getElem? (i := 3) rfl)) (by decide) (by decide)) (g := (mkF m 238 #[.val (.long q1), .second, .val (.int p2), .val (.int p3), .val (.int p4), .val (.int (0 : Int32)), .val (.int (1 : Int32)), .val (.ref b_1), .val (.ref b_2), .val (.ref b_10), .val (.ref b_13), .val (.ref b_16), .val (.ref b_20), .val (.ref b_1), .val (.ref b_13), .val (.ref r_55), .unset] [(.int p3), (.int (1 : Int32)), (.ref r_55)])) rfl (by rw [hml]; rfl) (argsL := [(.ref r_55), (.int (1 : Int32)), (.int p3)]) (rest := []) (lenOf pd_4 rfl) rfl (by show 2 * 0 + _ ≤ _; exact Nat.le_of_eq rfl) (hb hby at_238) (fun _ _ => ⟨rfl, e_63, (by decide : 7 + 0 ≤ _), (by decide : 34 + 0 ≤ _)⟩)
      dsimp only [Pt.U, Pt.locs, Pt.cells, Pt.slots] at X_64 l_64 y_64 z_64 st_64 hQ_64
      subst l_64 y_64 z_64
      obtain ⟨rfl, N_64q, e_64⟩ := hQ_64
      have N_64 := Fr.app N_63 N_64q
      refine own_go (g' := (mkF m 241 #[.val (.long q1), .second, .val (.int p2), .val (.int p3), .val (.int p4), .val (.int (0 : Int32)), .val (.int (1 : Int32)), .val (.ref b_1), .val (.ref b_2), .val (.ref b_10), .val (.ref b_13), .val (.ref b_16), .val (.ref b_20), .val (.ref b_1), .val (.ref b_13), .val (.ref r_55), .unset] [(.int (1 : Int32))])) st_64 ?_
      refine own_go (T' := T_64) (g' := (mkF m 262 #[.val (.long q1), .second, .val (.int p2), .val (.int p3), .val (.int p4), .val (.int (0 : Int32)), .val (.int (1 : Int32)), .val (.ref b_1), .val (.ref b_2), .val (.ref b_10), .val (.ref b_13), .val (.ref b_16), .val (.ref b_20), .val (.ref b_1), .val (.ref b_13), .val (.ref r_55), .val (.int (1 : Int32))] [(.ref b_1), (.ref b_1)])) (fun t kt => ?_) ?_
      · show Steps p.tables e below (T_64.setTop (mkF m 241 #[.val (.long q1), .second, .val (.int p2), .val (.int p3), .val (.int p4), .val (.int (0 : Int32)), .val (.int (1 : Int32)), .val (.ref b_1), .val (.ref b_2), .val (.ref b_10), .val (.ref b_13), .val (.ref b_16), .val (.ref b_20), .val (.ref b_1), .val (.ref b_13), .val (.ref r_55), .unset] [(.int (1 : Int32))])) t
        refine XS.ifNo X_64.here hx rfl (hb hby at_241) rfl ((if0 _ _).trans (feq (by decide : ¬ ((1 : Int32) = (0 : Int32)))).1) ?_
        show Steps p.tables e below (T_64.setTop (mkF m 244 #[.val (.long q1), .second, .val (.int p2), .val (.int p3), .val (.int p4), .val (.int (0 : Int32)), .val (.int (1 : Int32)), .val (.ref b_1), .val (.ref b_2), .val (.ref b_10), .val (.ref b_13), .val (.ref b_16), .val (.ref b_20), .val (.ref b_1), .val (.ref b_13), .val (.ref r_55), .unset] [])) t
        refine XS.iconst X_64.here hx rfl (hb hby at_244) ?_
        show Steps p.tables e below (T_64.setTop (mkF m 245 #[.val (.long q1), .second, .val (.int p2), .val (.int p3), .val (.int p4), .val (.int (0 : Int32)), .val (.int (1 : Int32)), .val (.ref b_1), .val (.ref b_2), .val (.ref b_10), .val (.ref b_13), .val (.ref b_16), .val (.ref b_20), .val (.ref b_1), .val (.ref b_13), .val (.ref r_55), .unset] [(.int (1 : Int32))])) t
        refine XS.goto X_64.here hx rfl (pc0 := 245) (pc' := 249) rfl (hb hby at_245) (by decide) (by decide) ?_
        show Steps p.tables e below (T_64.setTop (mkF m 249 #[.val (.long q1), .second, .val (.int p2), .val (.int p3), .val (.int p4), .val (.int (0 : Int32)), .val (.int (1 : Int32)), .val (.ref b_1), .val (.ref b_2), .val (.ref b_10), .val (.ref b_13), .val (.ref b_16), .val (.ref b_20), .val (.ref b_1), .val (.ref b_13), .val (.ref r_55), .unset] [(.int (1 : Int32))])) t
        refine XS.istore X_64.here hx rfl (hb hby at_249) rfl (l' := #[.val (.long q1), .second, .val (.int p2), .val (.int p3), .val (.int p4), .val (.int (0 : Int32)), .val (.int (1 : Int32)), .val (.ref b_1), .val (.ref b_2), .val (.ref b_10), .val (.ref b_13), .val (.ref b_16), .val (.ref b_20), .val (.ref b_1), .val (.ref b_13), .val (.ref r_55), .val (.int (1 : Int32))]) rfl ?_
        show Steps p.tables e below (T_64.setTop (mkF m 251 #[.val (.long q1), .second, .val (.int p2), .val (.int p3), .val (.int p4), .val (.int (0 : Int32)), .val (.int (1 : Int32)), .val (.ref b_1), .val (.ref b_2), .val (.ref b_10), .val (.ref b_13), .val (.ref b_16), .val (.ref b_20), .val (.ref b_1), .val (.ref b_13), .val (.ref r_55), .val (.int (1 : Int32))] [])) t
        refine XS.iload X_64.here hx rfl (hb hby at_251) rfl ?_
        show Steps p.tables e below (T_64.setTop (mkF m 253 #[.val (.long q1), .second, .val (.int p2), .val (.int p3), .val (.int p4), .val (.int (0 : Int32)), .val (.int (1 : Int32)), .val (.ref b_1), .val (.ref b_2), .val (.ref b_10), .val (.ref b_13), .val (.ref b_16), .val (.ref b_20), .val (.ref b_1), .val (.ref b_13), .val (.ref r_55), .val (.int (1 : Int32))] [(.int (1 : Int32))])) t
        refine XS.ifYes X_64.here hx rfl (pc0 := 253) (pc' := 258) rfl (hb hby at_253) rfl ((if0 _ _).trans (feq (by decide : ¬ ((1 : Int32) = (0 : Int32)))).2) (by decide) (by decide) ?_
        show Steps p.tables e below (T_64.setTop (mkF m 258 #[.val (.long q1), .second, .val (.int p2), .val (.int p3), .val (.int p4), .val (.int (0 : Int32)), .val (.int (1 : Int32)), .val (.ref b_1), .val (.ref b_2), .val (.ref b_10), .val (.ref b_13), .val (.ref b_16), .val (.ref b_20), .val (.ref b_1), .val (.ref b_13), .val (.ref r_55), .val (.int (1 : Int32))] [])) t
        refine XS.aload X_64.here hx rfl (hb hby at_258) rfl rfl ?_
        show Steps p.tables e below (T_64.setTop (mkF m 260 #[.val (.long q1), .second, .val (.int p2), .val (.int p3), .val (.int p4), .val (.int (0 : Int32)), .val (.int (1 : Int32)), .val (.ref b_1), .val (.ref b_2), .val (.ref b_10), .val (.ref b_13), .val (.ref b_16), .val (.ref b_20), .val (.ref b_1), .val (.ref b_13), .val (.ref r_55), .val (.int (1 : Int32))] [(.ref b_1)])) t
        refine XS.aload X_64.here hx rfl (hb hby at_260) rfl rfl ?_
        exact kt
      have f_65 := (f_53.keep K_55 nin0)
      have vq_66 := f_65
      obtain ⟨c_66, a_66, -, s_66, m_66, -, -⟩ := vq_66
      refine own_go (T' := T_64) (g' := (mkF m 263 #[.val (.long q1), .second, .val (.int p2), .val (.int p3), .val (.int p4), .val (.int (0 : Int32)), .val (.int (1 : Int32)), .val (.ref b_1), .val (.ref b_2), .val (.ref b_10), .val (.ref b_13), .val (.ref b_16), .val (.ref b_20), .val (.ref b_1), .val (.ref b_13), .val (.ref r_55), .val (.int (1 : Int32))] [(.int (8 : Int32)), (.ref b_1)])) (fun t kt => ?_) ?_
      · refine X_64.arraylength hx (by rw [e_64]; exact a_66.1) (State.isArrayOf_alike hZ.alike a_66.2.1) (g := (mkF m 262 #[.val (.long q1), .second, .val (.int p2), .val (.int p3), .val (.int p4), .val (.int (0 : Int32)), .val (.int (1 : Int32)), .val (.ref b_1), .val (.ref b_2), .val (.ref b_10), .val (.ref b_13), .val (.ref b_16), .val (.ref b_20), .val (.ref b_1), .val (.ref b_13), .val (.ref r_55), .val (.int (1 : Int32))] [(.ref b_1), (.ref b_1)])) rfl rfl (hb hby at_262) _ ?_
        rw [len_of s_66 m_66]
        exact kt
      refine own_go (T' := T_64) (g' := (mkF m 269 #[.val (.long q1), .second, .val (.int p2), .val (.int p3), .val (.int p4), .val (.int (0 : Int32)), .val (.int (1 : Int32)), .val (.ref b_1), .val (.ref b_2), .val (.ref b_10), .val (.ref b_13), .val (.ref b_16), .val (.ref b_20), .val (.ref b_1), .val (.ref b_13), .val (.ref r_55), .val (.int (1 : Int32))] [(.ref b_1), (.ref b_1), (.int (7 : Int32)), (.ref b_1)])) (fun t kt => ?_) ?_
      · show Steps p.tables e below (T_64.setTop (mkF m 263 #[.val (.long q1), .second, .val (.int p2), .val (.int p3), .val (.int p4), .val (.int (0 : Int32)), .val (.int (1 : Int32)), .val (.ref b_1), .val (.ref b_2), .val (.ref b_10), .val (.ref b_13), .val (.ref b_16), .val (.ref b_20), .val (.ref b_1), .val (.ref b_13), .val (.ref r_55), .val (.int (1 : Int32))] [(.int (8 : Int32)), (.ref b_1)])) t
        refine XS.iconst X_64.here hx rfl (hb hby at_263) ?_
        show Steps p.tables e below (T_64.setTop (mkF m 264 #[.val (.long q1), .second, .val (.int p2), .val (.int p3), .val (.int p4), .val (.int (0 : Int32)), .val (.int (1 : Int32)), .val (.ref b_1), .val (.ref b_2), .val (.ref b_10), .val (.ref b_13), .val (.ref b_16), .val (.ref b_20), .val (.ref b_1), .val (.ref b_13), .val (.ref r_55), .val (.int (1 : Int32))] [(.int (1 : Int32)), (.int (8 : Int32)), (.ref b_1)])) t
        refine XS.isub X_64.here hx rfl (hb hby at_264) rfl ?_
        show Steps p.tables e below (T_64.setTop (mkF m 265 #[.val (.long q1), .second, .val (.int p2), .val (.int p3), .val (.int p4), .val (.int (0 : Int32)), .val (.int (1 : Int32)), .val (.ref b_1), .val (.ref b_2), .val (.ref b_10), .val (.ref b_13), .val (.ref b_16), .val (.ref b_20), .val (.ref b_1), .val (.ref b_13), .val (.ref r_55), .val (.int (1 : Int32))] [(.int (7 : Int32)), (.ref b_1)])) t
        refine XS.aload X_64.here hx rfl (hb hby at_265) rfl rfl ?_
        show Steps p.tables e below (T_64.setTop (mkF m 267 #[.val (.long q1), .second, .val (.int p2), .val (.int p3), .val (.int p4), .val (.int (0 : Int32)), .val (.int (1 : Int32)), .val (.ref b_1), .val (.ref b_2), .val (.ref b_10), .val (.ref b_13), .val (.ref b_16), .val (.ref b_20), .val (.ref b_1), .val (.ref b_13), .val (.ref r_55), .val (.int (1 : Int32))] [(.ref b_1), (.int (7 : Int32)), (.ref b_1)])) t
        refine XS.aload X_64.here hx rfl (hb hby at_267) rfl rfl ?_
        exact kt
      have vq_67 := f_65
      obtain ⟨c_67, a_67, -, s_67, m_67, -, -⟩ := vq_67
      refine own_go (T' := T_64) (g' := (mkF m 270 #[.val (.long q1), .second, .val (.int p2), .val (.int p3), .val (.int p4), .val (.int (0 : Int32)), .val (.int (1 : Int32)), .val (.ref b_1), .val (.ref b_2), .val (.ref b_10), .val (.ref b_13), .val (.ref b_16), .val (.ref b_20), .val (.ref b_1), .val (.ref b_13), .val (.ref r_55), .val (.int (1 : Int32))] [(.int (8 : Int32)), (.ref b_1), (.int (7 : Int32)), (.ref b_1)])) (fun t kt => ?_) ?_
      · refine X_64.arraylength hx (by rw [e_64]; exact a_67.1) (State.isArrayOf_alike hZ.alike a_67.2.1) (g := (mkF m 269 #[.val (.long q1), .second, .val (.int p2), .val (.int p3), .val (.int p4), .val (.int (0 : Int32)), .val (.int (1 : Int32)), .val (.ref b_1), .val (.ref b_2), .val (.ref b_10), .val (.ref b_13), .val (.ref b_16), .val (.ref b_20), .val (.ref b_1), .val (.ref b_13), .val (.ref r_55), .val (.int (1 : Int32))] [(.ref b_1), (.ref b_1), (.int (7 : Int32)), (.ref b_1)])) rfl rfl (hb hby at_269) _ ?_
        rw [len_of s_67 m_67]
        exact kt
      refine own_go (T' := T_64) (g' := (mkF m 272 #[.val (.long q1), .second, .val (.int p2), .val (.int p3), .val (.int p4), .val (.int (0 : Int32)), .val (.int (1 : Int32)), .val (.ref b_1), .val (.ref b_2), .val (.ref b_10), .val (.ref b_13), .val (.ref b_16), .val (.ref b_20), .val (.ref b_1), .val (.ref b_13), .val (.ref r_55), .val (.int (1 : Int32))] [(.int (7 : Int32)), (.ref b_1), (.int (7 : Int32)), (.ref b_1)])) (fun t kt => ?_) ?_
      · show Steps p.tables e below (T_64.setTop (mkF m 270 #[.val (.long q1), .second, .val (.int p2), .val (.int p3), .val (.int p4), .val (.int (0 : Int32)), .val (.int (1 : Int32)), .val (.ref b_1), .val (.ref b_2), .val (.ref b_10), .val (.ref b_13), .val (.ref b_16), .val (.ref b_20), .val (.ref b_1), .val (.ref b_13), .val (.ref r_55), .val (.int (1 : Int32))] [(.int (8 : Int32)), (.ref b_1), (.int (7 : Int32)), (.ref b_1)])) t
        refine XS.iconst X_64.here hx rfl (hb hby at_270) ?_
        show Steps p.tables e below (T_64.setTop (mkF m 271 #[.val (.long q1), .second, .val (.int p2), .val (.int p3), .val (.int p4), .val (.int (0 : Int32)), .val (.int (1 : Int32)), .val (.ref b_1), .val (.ref b_2), .val (.ref b_10), .val (.ref b_13), .val (.ref b_16), .val (.ref b_20), .val (.ref b_1), .val (.ref b_13), .val (.ref r_55), .val (.int (1 : Int32))] [(.int (1 : Int32)), (.int (8 : Int32)), (.ref b_1), (.int (7 : Int32)), (.ref b_1)])) t
        refine XS.isub X_64.here hx rfl (hb hby at_271) rfl ?_
        exact kt
      have vq_68 := f_65
      obtain ⟨c_68, a_68, q_68, s_68, m_68, H_68, G_68⟩ := vq_68
      have hin_68 : ¬ ((7 : Int32) < 0 ∨ c_68.slots.size ≤ ((7 : Int32)).toNatClampNeg) := inb_of s_68 ⟨by decide, by decide⟩
      have hat_68 : c_68.slots[((7 : Int32)).toNatClampNeg]? = some (.int (own_b0 q1)) := H_68.at hin_68 rfl
      refine own_go (T' := T_64) (g' := (mkF m 273 #[.val (.long q1), .second, .val (.int p2), .val (.int p3), .val (.int p4), .val (.int (0 : Int32)), .val (.int (1 : Int32)), .val (.ref b_1), .val (.ref b_2), .val (.ref b_10), .val (.ref b_13), .val (.ref b_16), .val (.ref b_20), .val (.ref b_1), .val (.ref b_13), .val (.ref r_55), .val (.int (1 : Int32))] [(.int (own_b0 q1)), (.int (7 : Int32)), (.ref b_1)])) (fun t kt => ?_) ?_
      · refine X_64.baloadBytes hx (j := (7 : Int32)) (v := (.int (own_b0 q1))) (by rw [e_64]; exact a_68.1) (State.isArrayOf_alike hZ.alike a_68.2.1) a_68.2.2 hin_68 hat_68 (g := (mkF m 272 #[.val (.long q1), .second, .val (.int p2), .val (.int p3), .val (.int p4), .val (.int (0 : Int32)), .val (.int (1 : Int32)), .val (.ref b_1), .val (.ref b_2), .val (.ref b_10), .val (.ref b_13), .val (.ref b_16), .val (.ref b_20), .val (.ref b_1), .val (.ref b_13), .val (.ref r_55), .val (.int (1 : Int32))] [(.int (7 : Int32)), (.ref b_1), (.int (7 : Int32)), (.ref b_1)])) rfl rfl (hb hby at_272) _ ?_
        exact kt
      refine own_go (T' := T_64) (g' := (mkF m 276 #[.val (.long q1), .second, .val (.int p2), .val (.int p3), .val (.int p4), .val (.int (0 : Int32)), .val (.int (1 : Int32)), .val (.ref b_1), .val (.ref b_2), .val (.ref b_10), .val (.ref b_13), .val (.ref b_16), .val (.ref b_20), .val (.ref b_1), .val (.ref b_13), .val (.ref r_55), .val (.int (1 : Int32))] [(.int (((own_b0 q1) ^^^ (1 : Int32)).toInt8.toInt32)), (.int (7 : Int32)), (.ref b_1)])) (fun t kt => ?_) ?_
      · show Steps p.tables e below (T_64.setTop (mkF m 273 #[.val (.long q1), .second, .val (.int p2), .val (.int p3), .val (.int p4), .val (.int (0 : Int32)), .val (.int (1 : Int32)), .val (.ref b_1), .val (.ref b_2), .val (.ref b_10), .val (.ref b_13), .val (.ref b_16), .val (.ref b_20), .val (.ref b_1), .val (.ref b_13), .val (.ref r_55), .val (.int (1 : Int32))] [(.int (own_b0 q1)), (.int (7 : Int32)), (.ref b_1)])) t
        refine XS.iconst X_64.here hx rfl (hb hby at_273) ?_
        show Steps p.tables e below (T_64.setTop (mkF m 274 #[.val (.long q1), .second, .val (.int p2), .val (.int p3), .val (.int p4), .val (.int (0 : Int32)), .val (.int (1 : Int32)), .val (.ref b_1), .val (.ref b_2), .val (.ref b_10), .val (.ref b_13), .val (.ref b_16), .val (.ref b_20), .val (.ref b_1), .val (.ref b_13), .val (.ref r_55), .val (.int (1 : Int32))] [(.int (1 : Int32)), (.int (own_b0 q1)), (.int (7 : Int32)), (.ref b_1)])) t
        refine XS.ixor X_64.here hx rfl (hb hby at_274) rfl ?_
        show Steps p.tables e below (T_64.setTop (mkF m 275 #[.val (.long q1), .second, .val (.int p2), .val (.int p3), .val (.int p4), .val (.int (0 : Int32)), .val (.int (1 : Int32)), .val (.ref b_1), .val (.ref b_2), .val (.ref b_10), .val (.ref b_13), .val (.ref b_16), .val (.ref b_20), .val (.ref b_1), .val (.ref b_13), .val (.ref r_55), .val (.int (1 : Int32))] [(.int ((own_b0 q1) ^^^ (1 : Int32))), (.int (7 : Int32)), (.ref b_1)])) t
        refine XS.i2b X_64.here hx rfl (hb hby at_275) rfl ?_
        exact kt
      have vq_69 := f_65
      obtain ⟨c_69, a_69, q_69, s_69, m_69, H_69, G_69⟩ := vq_69
      have hin_69 : ¬ ((7 : Int32) < 0 ∨ c_69.slots.size ≤ ((7 : Int32)).toNatClampNeg) := inb_of s_69 ⟨by decide, by decide⟩
      obtain ⟨T_69, h_69, X_69, e_69, W_69, st_69⟩ := stB X_64 hx hZ e_64 a_69 (j := (7 : Int32)) hin_69 (g := (mkF m 276 #[.val (.long q1), .second, .val (.int p2), .val (.int p3), .val (.int p4), .val (.int (0 : Int32)), .val (.int (1 : Int32)), .val (.ref b_1), .val (.ref b_2), .val (.ref b_10), .val (.ref b_13), .val (.ref b_16), .val (.ref b_20), .val (.ref b_1), .val (.ref b_13), .val (.ref r_55), .val (.int (1 : Int32))] [(.int (((own_b0 q1) ^^^ (1 : Int32)).toInt8.toInt32)), (.int (7 : Int32)), (.ref b_1)])) rfl rfl (hb hby at_276)
      have V_69 : Arv Z h_69 b_1 k_1 .byte (8 : Int32) [(.int (own_by q1 56)), (.int (own_by q1 48)), (.int (own_by q1 40)), (.int (own_by q1 32)), (.int (own_by q1 24)), (.int (own_by q1 16)), (.int (own_by q1 8)), (.int (nar .byte (((own_b0 q1) ^^^ (1 : Int32)).toInt8.toInt32)))] (.int (0 : Int32)) := Arv.set a_69 q_69 s_69 m_69 H_69 G_69 (fits_nar_byte _) W_69 7 rfl (Nat.le_of_ble_eq_true rfl)
      have Z_69 : n0 ≤ h_69.size := Nat.le_trans Z_55 (Keep.of_wr W_69).1
      have N_69 := Fr.snoc X_69 N_64 g_b_1
      refine own_go (g' := (mkF m 277 #[.val (.long q1), .second, .val (.int p2), .val (.int p3), .val (.int p4), .val (.int (0 : Int32)), .val (.int (1 : Int32)), .val (.ref b_1), .val (.ref b_2), .val (.ref b_10), .val (.ref b_13), .val (.ref b_16), .val (.ref b_20), .val (.ref b_1), .val (.ref b_13), .val (.ref r_55), .val (.int (1 : Int32))] [])) st_69 ?_
      refine own_go (T' := T_69) (g' := (mkF m 288 #[.val (.long q1), .second, .val (.int p2), .val (.int p3), .val (.int p4), .val (.int (0 : Int32)), .val (.int (1 : Int32)), .val (.ref b_1), .val (.ref b_2), .val (.ref b_10), .val (.ref b_13), .val (.ref b_16), .val (.ref b_20), .val (.ref b_1), .val (.ref b_13), .val (.ref r_55), .val (.int (1 : Int32))] [(.int (0 : Int32)), (.ref b_13), (.int (0 : Int32)), (.ref b_13)])) (fun t kt => ?_) ?_
      · show Steps p.tables e below (T_69.setTop (mkF m 277 #[.val (.long q1), .second, .val (.int p2), .val (.int p3), .val (.int p4), .val (.int (0 : Int32)), .val (.int (1 : Int32)), .val (.ref b_1), .val (.ref b_2), .val (.ref b_10), .val (.ref b_13), .val (.ref b_16), .val (.ref b_20), .val (.ref b_1), .val (.ref b_13), .val (.ref r_55), .val (.int (1 : Int32))] [])) t
        refine XS.iload X_69.here hx rfl (hb hby at_277) rfl ?_
        show Steps p.tables e below (T_69.setTop (mkF m 279 #[.val (.long q1), .second, .val (.int p2), .val (.int p3), .val (.int p4), .val (.int (0 : Int32)), .val (.int (1 : Int32)), .val (.ref b_1), .val (.ref b_2), .val (.ref b_10), .val (.ref b_13), .val (.ref b_16), .val (.ref b_20), .val (.ref b_1), .val (.ref b_13), .val (.ref r_55), .val (.int (1 : Int32))] [(.int (1 : Int32))])) t
        refine XS.ifNo X_69.here hx rfl (hb hby at_279) rfl ((if0 _ _).trans (tlt (by decide : (0 : Int32) < (1 : Int32))).2.2.2) ?_
        show Steps p.tables e below (T_69.setTop (mkF m 282 #[.val (.long q1), .second, .val (.int p2), .val (.int p3), .val (.int p4), .val (.int (0 : Int32)), .val (.int (1 : Int32)), .val (.ref b_1), .val (.ref b_2), .val (.ref b_10), .val (.ref b_13), .val (.ref b_16), .val (.ref b_20), .val (.ref b_1), .val (.ref b_13), .val (.ref r_55), .val (.int (1 : Int32))] [])) t
        refine XS.aload X_69.here hx rfl (hb hby at_282) rfl rfl ?_
        show Steps p.tables e below (T_69.setTop (mkF m 284 #[.val (.long q1), .second, .val (.int p2), .val (.int p3), .val (.int p4), .val (.int (0 : Int32)), .val (.int (1 : Int32)), .val (.ref b_1), .val (.ref b_2), .val (.ref b_10), .val (.ref b_13), .val (.ref b_16), .val (.ref b_20), .val (.ref b_1), .val (.ref b_13), .val (.ref r_55), .val (.int (1 : Int32))] [(.ref b_13)])) t
        refine XS.iconst X_69.here hx rfl (hb hby at_284) ?_
        show Steps p.tables e below (T_69.setTop (mkF m 285 #[.val (.long q1), .second, .val (.int p2), .val (.int p3), .val (.int p4), .val (.int (0 : Int32)), .val (.int (1 : Int32)), .val (.ref b_1), .val (.ref b_2), .val (.ref b_10), .val (.ref b_13), .val (.ref b_16), .val (.ref b_20), .val (.ref b_1), .val (.ref b_13), .val (.ref r_55), .val (.int (1 : Int32))] [(.int (0 : Int32)), (.ref b_13)])) t
        refine XS.aload X_69.here hx rfl (hb hby at_285) rfl rfl ?_
        show Steps p.tables e below (T_69.setTop (mkF m 287 #[.val (.long q1), .second, .val (.int p2), .val (.int p3), .val (.int p4), .val (.int (0 : Int32)), .val (.int (1 : Int32)), .val (.ref b_1), .val (.ref b_2), .val (.ref b_10), .val (.ref b_13), .val (.ref b_16), .val (.ref b_20), .val (.ref b_1), .val (.ref b_13), .val (.ref r_55), .val (.int (1 : Int32))] [(.ref b_13), (.int (0 : Int32)), (.ref b_13)])) t
        refine XS.iconst X_69.here hx rfl (hb hby at_287) ?_
        exact kt
      have f_71 := ((f_54.keep K_55 nin0).other W_69 (Ne.symm ne_b_1_b_13))
      have vq_70 := f_71
      obtain ⟨c_70, a_70, q_70, s_70, m_70, H_70, G_70⟩ := vq_70
      have hin_70 : ¬ ((0 : Int32) < 0 ∨ c_70.slots.size ≤ ((0 : Int32)).toNatClampNeg) := inb_of s_70 ⟨by decide, by decide⟩
      have hat_70 : c_70.slots[((0 : Int32)).toNatClampNeg]? = some (.int (nar .byte (p3.toInt8.toInt32))) := H_70.at hin_70 rfl
      refine own_go (T' := T_69) (g' := (mkF m 289 #[.val (.long q1), .second, .val (.int p2), .val (.int p3), .val (.int p4), .val (.int (0 : Int32)), .val (.int (1 : Int32)), .val (.ref b_1), .val (.ref b_2), .val (.ref b_10), .val (.ref b_13), .val (.ref b_16), .val (.ref b_20), .val (.ref b_1), .val (.ref b_13), .val (.ref r_55), .val (.int (1 : Int32))] [(.int (nar .byte (p3.toInt8.toInt32))), (.int (0 : Int32)), (.ref b_13)])) (fun t kt => ?_) ?_
      · refine X_69.baloadBytes hx (j := (0 : Int32)) (v := (.int (nar .byte (p3.toInt8.toInt32)))) (by rw [e_69]; exact a_70.1) (State.isArrayOf_alike hZ.alike a_70.2.1) a_70.2.2 hin_70 hat_70 (g := (mkF m 288 #[.val (.long q1), .second, .val (.int p2), .val (.int p3), .val (.int p4), .val (.int (0 : Int32)), .val (.int (1 : Int32)), .val (.ref b_1), .val (.ref b_2), .val (.ref b_10), .val (.ref b_13), .val (.ref b_16), .val (.ref b_20), .val (.ref b_1), .val (.ref b_13), .val (.ref r_55), .val (.int (1 : Int32))] [(.int (0 : Int32)), (.ref b_13), (.int (0 : Int32)), (.ref b_13)])) rfl rfl (hb hby at_288) _ ?_
        exact kt
      refine own_go (T' := T_69) (g' := (mkF m 292 #[.val (.long q1), .second, .val (.int p2), .val (.int p3), .val (.int p4), .val (.int (0 : Int32)), .val (.int (1 : Int32)), .val (.ref b_1), .val (.ref b_2), .val (.ref b_10), .val (.ref b_13), .val (.ref b_16), .val (.ref b_20), .val (.ref b_1), .val (.ref b_13), .val (.ref r_55), .val (.int (1 : Int32))] [(.int (((nar .byte (p3.toInt8.toInt32)) ^^^ (1 : Int32)).toInt8.toInt32)), (.int (0 : Int32)), (.ref b_13)])) (fun t kt => ?_) ?_
      · show Steps p.tables e below (T_69.setTop (mkF m 289 #[.val (.long q1), .second, .val (.int p2), .val (.int p3), .val (.int p4), .val (.int (0 : Int32)), .val (.int (1 : Int32)), .val (.ref b_1), .val (.ref b_2), .val (.ref b_10), .val (.ref b_13), .val (.ref b_16), .val (.ref b_20), .val (.ref b_1), .val (.ref b_13), .val (.ref r_55), .val (.int (1 : Int32))] [(.int (nar .byte (p3.toInt8.toInt32))), (.int (0 : Int32)), (.ref b_13)])) t
        refine XS.iconst X_69.here hx rfl (hb hby at_289) ?_
        show Steps p.tables e below (T_69.setTop (mkF m 290 #[.val (.long q1), .second, .val (.int p2), .val (.int p3), .val (.int p4), .val (.int (0 : Int32)), .val (.int (1 : Int32)), .val (.ref b_1), .val (.ref b_2), .val (.ref b_10), .val (.ref b_13), .val (.ref b_16), .val (.ref b_20), .val (.ref b_1), .val (.ref b_13), .val (.ref r_55), .val (.int (1 : Int32))] [(.int (1 : Int32)), (.int (nar .byte (p3.toInt8.toInt32))), (.int (0 : Int32)), (.ref b_13)])) t
        refine XS.ixor X_69.here hx rfl (hb hby at_290) rfl ?_
        show Steps p.tables e below (T_69.setTop (mkF m 291 #[.val (.long q1), .second, .val (.int p2), .val (.int p3), .val (.int p4), .val (.int (0 : Int32)), .val (.int (1 : Int32)), .val (.ref b_1), .val (.ref b_2), .val (.ref b_10), .val (.ref b_13), .val (.ref b_16), .val (.ref b_20), .val (.ref b_1), .val (.ref b_13), .val (.ref r_55), .val (.int (1 : Int32))] [(.int ((nar .byte (p3.toInt8.toInt32)) ^^^ (1 : Int32))), (.int (0 : Int32)), (.ref b_13)])) t
        refine XS.i2b X_69.here hx rfl (hb hby at_291) rfl ?_
        exact kt
      have vq_72 := f_71
      obtain ⟨c_72, a_72, q_72, s_72, m_72, H_72, G_72⟩ := vq_72
      have hin_72 : ¬ ((0 : Int32) < 0 ∨ c_72.slots.size ≤ ((0 : Int32)).toNatClampNeg) := inb_of s_72 ⟨by decide, by decide⟩
      obtain ⟨T_72, h_72, X_72, e_72, W_72, st_72⟩ := stB X_69 hx hZ e_69 a_72 (j := (0 : Int32)) hin_72 (g := (mkF m 292 #[.val (.long q1), .second, .val (.int p2), .val (.int p3), .val (.int p4), .val (.int (0 : Int32)), .val (.int (1 : Int32)), .val (.ref b_1), .val (.ref b_2), .val (.ref b_10), .val (.ref b_13), .val (.ref b_16), .val (.ref b_20), .val (.ref b_1), .val (.ref b_13), .val (.ref r_55), .val (.int (1 : Int32))] [(.int (((nar .byte (p3.toInt8.toInt32)) ^^^ (1 : Int32)).toInt8.toInt32)), (.int (0 : Int32)), (.ref b_13)])) rfl rfl (hb hby at_292)
      have V_72 : Arv Z h_72 b_13 k_13 .byte (1 : Int32) [(.int (nar .byte (((nar .byte (p3.toInt8.toInt32)) ^^^ (1 : Int32)).toInt8.toInt32)))] (.int (0 : Int32)) := Arv.set a_72 q_72 s_72 m_72 H_72 G_72 (fits_nar_byte _) W_72 0 rfl (Nat.le_of_ble_eq_true rfl)
      have Z_72 : n0 ≤ h_72.size := Nat.le_trans Z_69 (Keep.of_wr W_72).1
      have N_72 := Fr.snoc X_72 N_69 g_b_13
      refine own_go (g' := (mkF m 293 #[.val (.long q1), .second, .val (.int p2), .val (.int p3), .val (.int p4), .val (.int (0 : Int32)), .val (.int (1 : Int32)), .val (.ref b_1), .val (.ref b_2), .val (.ref b_10), .val (.ref b_13), .val (.ref b_16), .val (.ref b_20), .val (.ref b_1), .val (.ref b_13), .val (.ref r_55), .val (.int (1 : Int32))] [])) st_72 ?_
      refine own_go (T' := T_72) (g' := (mkF m 297 #[.val (.long q1), .second, .val (.int p2), .val (.int p3), .val (.int p4), .val (.int (0 : Int32)), .val (.int (1 : Int32)), .val (.ref b_1), .val (.ref b_2), .val (.ref b_10), .val (.ref b_13), .val (.ref b_16), .val (.ref b_20), .val (.ref b_1), .val (.ref b_13), .val (.ref r_55), .val (.int (1 : Int32))] [(.int (7 : Int32)), (.ref r_55)])) (fun t kt => ?_) ?_
      · show Steps p.tables e below (T_72.setTop (mkF m 293 #[.val (.long q1), .second, .val (.int p2), .val (.int p3), .val (.int p4), .val (.int (0 : Int32)), .val (.int (1 : Int32)), .val (.ref b_1), .val (.ref b_2), .val (.ref b_10), .val (.ref b_13), .val (.ref b_16), .val (.ref b_20), .val (.ref b_1), .val (.ref b_13), .val (.ref r_55), .val (.int (1 : Int32))] [])) t
        refine XS.aload X_72.here hx rfl (hb hby at_293) rfl rfl ?_
        show Steps p.tables e below (T_72.setTop (mkF m 295 #[.val (.long q1), .second, .val (.int p2), .val (.int p3), .val (.int p4), .val (.int (0 : Int32)), .val (.int (1 : Int32)), .val (.ref b_1), .val (.ref b_2), .val (.ref b_10), .val (.ref b_13), .val (.ref b_16), .val (.ref b_20), .val (.ref b_1), .val (.ref b_13), .val (.ref r_55), .val (.int (1 : Int32))] [(.ref r_55)])) t
        refine XS.bipush X_72.here hx rfl (hb hby at_295) ?_
        exact kt
      have f_74 := ((V_55.other W_69 (Ne.symm ne_b_1_r_55)).other W_72 (Ne.symm ne_b_13_r_55))
      have vq_73 := f_74
      obtain ⟨c_73, a_73, q_73, s_73, m_73, H_73, G_73⟩ := vq_73
      have hin_73 : ¬ ((7 : Int32) < 0 ∨ c_73.slots.size ≤ ((7 : Int32)).toNatClampNeg) := inb_of s_73 ⟨by decide, by decide⟩
      have hat_73 : c_73.slots[((7 : Int32)).toNatClampNeg]? = some (.int (own_b0 q1)) := H_73.at hin_73 rfl
      refine own_go (T' := T_72) (g' := (mkF m 298 #[.val (.long q1), .second, .val (.int p2), .val (.int p3), .val (.int p4), .val (.int (0 : Int32)), .val (.int (1 : Int32)), .val (.ref b_1), .val (.ref b_2), .val (.ref b_10), .val (.ref b_13), .val (.ref b_16), .val (.ref b_20), .val (.ref b_1), .val (.ref b_13), .val (.ref r_55), .val (.int (1 : Int32))] [(.int (own_b0 q1))])) (fun t kt => ?_) ?_
      · refine X_72.baloadBytes hx (j := (7 : Int32)) (v := (.int (own_b0 q1))) (by rw [e_72]; exact a_73.1) (State.isArrayOf_alike hZ.alike a_73.2.1) a_73.2.2 hin_73 hat_73 (g := (mkF m 297 #[.val (.long q1), .second, .val (.int p2), .val (.int p3), .val (.int p4), .val (.int (0 : Int32)), .val (.int (1 : Int32)), .val (.ref b_1), .val (.ref b_2), .val (.ref b_10), .val (.ref b_13), .val (.ref b_16), .val (.ref b_20), .val (.ref b_1), .val (.ref b_13), .val (.ref r_55), .val (.int (1 : Int32))] [(.int (7 : Int32)), (.ref r_55)])) rfl rfl (hb hby at_297) _ ?_
        exact kt
      refine own_go (T' := T_72) (g' := (mkF m 313 #[.val (.long q1), .second, .val (.int p2), .val (.int p3), .val (.int p4), .val (.int (0 : Int32)), .val (.int (1 : Int32)), .val (.ref b_1), .val (.ref b_2), .val (.ref b_10), .val (.ref b_13), .val (.ref b_16), .val (.ref b_20), .val (.ref b_1), .val (.ref b_13), .val (.ref r_55), .val (.int (1 : Int32))] [(.int (8 : Int32)), (.ref r_55)])) (fun t kt => ?_) ?_
      · show Steps p.tables e below (T_72.setTop (mkF m 298 #[.val (.long q1), .second, .val (.int p2), .val (.int p3), .val (.int p4), .val (.int (0 : Int32)), .val (.int (1 : Int32)), .val (.ref b_1), .val (.ref b_2), .val (.ref b_10), .val (.ref b_13), .val (.ref b_16), .val (.ref b_20), .val (.ref b_1), .val (.ref b_13), .val (.ref r_55), .val (.int (1 : Int32))] [(.int (own_b0 q1))])) t
        refine XS.lloadN X_72.here hx rfl (hb hby at_298) rfl ?_
        show Steps p.tables e below (T_72.setTop (mkF m 299 #[.val (.long q1), .second, .val (.int p2), .val (.int p3), .val (.int p4), .val (.int (0 : Int32)), .val (.int (1 : Int32)), .val (.ref b_1), .val (.ref b_2), .val (.ref b_10), .val (.ref b_13), .val (.ref b_16), .val (.ref b_20), .val (.ref b_1), .val (.ref b_13), .val (.ref r_55), .val (.int (1 : Int32))] [(.long q1), (.int (own_b0 q1))])) t
        refine XS.l2i X_72.here hx rfl (hb hby at_299) rfl ?_
        show Steps p.tables e below (T_72.setTop (mkF m 300 #[.val (.long q1), .second, .val (.int p2), .val (.int p3), .val (.int p4), .val (.int (0 : Int32)), .val (.int (1 : Int32)), .val (.ref b_1), .val (.ref b_2), .val (.ref b_10), .val (.ref b_13), .val (.ref b_16), .val (.ref b_20), .val (.ref b_1), .val (.ref b_13), .val (.ref r_55), .val (.int (1 : Int32))] [(.int (q1.toInt32)), (.int (own_b0 q1))])) t
        refine XS.i2b X_72.here hx rfl (hb hby at_300) rfl ?_
        show Steps p.tables e below (T_72.setTop (mkF m 301 #[.val (.long q1), .second, .val (.int p2), .val (.int p3), .val (.int p4), .val (.int (0 : Int32)), .val (.int (1 : Int32)), .val (.ref b_1), .val (.ref b_2), .val (.ref b_10), .val (.ref b_13), .val (.ref b_16), .val (.ref b_20), .val (.ref b_1), .val (.ref b_13), .val (.ref r_55), .val (.int (1 : Int32))] [(.int ((q1.toInt32).toInt8.toInt32)), (.int (own_b0 q1))])) t
        refine XS.icmpNo X_72.here hx rfl (hb hby at_301) rfl (teq (own_b0_eq q1 : (own_b0 q1) = ((q1.toInt32).toInt8.toInt32))).2 ?_
        show Steps p.tables e below (T_72.setTop (mkF m 304 #[.val (.long q1), .second, .val (.int p2), .val (.int p3), .val (.int p4), .val (.int (0 : Int32)), .val (.int (1 : Int32)), .val (.ref b_1), .val (.ref b_2), .val (.ref b_10), .val (.ref b_13), .val (.ref b_16), .val (.ref b_20), .val (.ref b_1), .val (.ref b_13), .val (.ref r_55), .val (.int (1 : Int32))] [])) t
        refine XS.iload X_72.here hx rfl (hb hby at_304) rfl ?_
        show Steps p.tables e below (T_72.setTop (mkF m 306 #[.val (.long q1), .second, .val (.int p2), .val (.int p3), .val (.int p4), .val (.int (0 : Int32)), .val (.int (1 : Int32)), .val (.ref b_1), .val (.ref b_2), .val (.ref b_10), .val (.ref b_13), .val (.ref b_16), .val (.ref b_20), .val (.ref b_1), .val (.ref b_13), .val (.ref r_55), .val (.int (1 : Int32))] [(.int (1 : Int32))])) t
        refine XS.ifNo X_72.here hx rfl (hb hby at_306) rfl ((if0 _ _).trans (feq (by decide : ¬ ((1 : Int32) = (0 : Int32)))).1) ?_
        show Steps p.tables e below (T_72.setTop (mkF m 309 #[.val (.long q1), .second, .val (.int p2), .val (.int p3), .val (.int p4), .val (.int (0 : Int32)), .val (.int (1 : Int32)), .val (.ref b_1), .val (.ref b_2), .val (.ref b_10), .val (.ref b_13), .val (.ref b_16), .val (.ref b_20), .val (.ref b_1), .val (.ref b_13), .val (.ref r_55), .val (.int (1 : Int32))] [])) t
        refine XS.aload X_72.here hx rfl (hb hby at_309) rfl rfl ?_
        show Steps p.tables e below (T_72.setTop (mkF m 311 #[.val (.long q1), .second, .val (.int p2), .val (.int p3), .val (.int p4), .val (.int (0 : Int32)), .val (.int (1 : Int32)), .val (.ref b_1), .val (.ref b_2), .val (.ref b_10), .val (.ref b_13), .val (.ref b_16), .val (.ref b_20), .val (.ref b_1), .val (.ref b_13), .val (.ref r_55), .val (.int (1 : Int32))] [(.ref r_55)])) t
        refine XS.bipush X_72.here hx rfl (hb hby at_311) ?_
        exact kt
      have vq_75 := f_74
      obtain ⟨c_75, a_75, q_75, s_75, m_75, H_75, G_75⟩ := vq_75
      have hin_75 : ¬ ((8 : Int32) < 0 ∨ c_75.slots.size ≤ ((8 : Int32)).toNatClampNeg) := inb_of s_75 ⟨by decide, by decide⟩
      have hat_75 : c_75.slots[((8 : Int32)).toNatClampNeg]? = some (.int (nar .byte (p3.toInt8.toInt32))) := H_75.at hin_75 rfl
      refine own_go (T' := T_72) (g' := (mkF m 314 #[.val (.long q1), .second, .val (.int p2), .val (.int p3), .val (.int p4), .val (.int (0 : Int32)), .val (.int (1 : Int32)), .val (.ref b_1), .val (.ref b_2), .val (.ref b_10), .val (.ref b_13), .val (.ref b_16), .val (.ref b_20), .val (.ref b_1), .val (.ref b_13), .val (.ref r_55), .val (.int (1 : Int32))] [(.int (nar .byte (p3.toInt8.toInt32)))])) (fun t kt => ?_) ?_
      · refine X_72.baloadBytes hx (j := (8 : Int32)) (v := (.int (nar .byte (p3.toInt8.toInt32)))) (by rw [e_72]; exact a_75.1) (State.isArrayOf_alike hZ.alike a_75.2.1) a_75.2.2 hin_75 hat_75 (g := (mkF m 313 #[.val (.long q1), .second, .val (.int p2), .val (.int p3), .val (.int p4), .val (.int (0 : Int32)), .val (.int (1 : Int32)), .val (.ref b_1), .val (.ref b_2), .val (.ref b_10), .val (.ref b_13), .val (.ref b_16), .val (.ref b_20), .val (.ref b_1), .val (.ref b_13), .val (.ref r_55), .val (.int (1 : Int32))] [(.int (8 : Int32)), (.ref r_55)])) rfl rfl (hb hby at_313) _ ?_
        exact kt
      refine own_go (T' := T_72) (g' := (mkF m 324 #[.val (.long q1), .second, .val (.int p2), .val (.int p3), .val (.int p4), .val (.int (0 : Int32)), .val (.int (1 : Int32)), .val (.ref b_1), .val (.ref b_2), .val (.ref b_10), .val (.ref b_13), .val (.ref b_16), .val (.ref b_20), .val (.ref b_1), .val (.ref b_13), .val (.ref r_55), .val (.int (1 : Int32))] [(.int (1 : Int32))])) (fun t kt => ?_) ?_
      · show Steps p.tables e below (T_72.setTop (mkF m 314 #[.val (.long q1), .second, .val (.int p2), .val (.int p3), .val (.int p4), .val (.int (0 : Int32)), .val (.int (1 : Int32)), .val (.ref b_1), .val (.ref b_2), .val (.ref b_10), .val (.ref b_13), .val (.ref b_16), .val (.ref b_20), .val (.ref b_1), .val (.ref b_13), .val (.ref r_55), .val (.int (1 : Int32))] [(.int (nar .byte (p3.toInt8.toInt32)))])) t
        refine XS.iloadN X_72.here hx rfl (hb hby at_314) rfl ?_
        show Steps p.tables e below (T_72.setTop (mkF m 315 #[.val (.long q1), .second, .val (.int p2), .val (.int p3), .val (.int p4), .val (.int (0 : Int32)), .val (.int (1 : Int32)), .val (.ref b_1), .val (.ref b_2), .val (.ref b_10), .val (.ref b_13), .val (.ref b_16), .val (.ref b_20), .val (.ref b_1), .val (.ref b_13), .val (.ref r_55), .val (.int (1 : Int32))] [(.int p3), (.int (nar .byte (p3.toInt8.toInt32)))])) t
        refine XS.i2b X_72.here hx rfl (hb hby at_315) rfl ?_
        show Steps p.tables e below (T_72.setTop (mkF m 316 #[.val (.long q1), .second, .val (.int p2), .val (.int p3), .val (.int p4), .val (.int (0 : Int32)), .val (.int (1 : Int32)), .val (.ref b_1), .val (.ref b_2), .val (.ref b_10), .val (.ref b_13), .val (.ref b_16), .val (.ref b_20), .val (.ref b_1), .val (.ref b_13), .val (.ref r_55), .val (.int (1 : Int32))] [(.int (p3.toInt8.toInt32)), (.int (nar .byte (p3.toInt8.toInt32)))])) t
        refine XS.icmpNo X_72.here hx rfl (hb hby at_316) rfl (teq (own_nar _ : (nar .byte (p3.toInt8.toInt32)) = (p3.toInt8.toInt32))).2 ?_
        show Steps p.tables e below (T_72.setTop (mkF m 319 #[.val (.long q1), .second, .val (.int p2), .val (.int p3), .val (.int p4), .val (.int (0 : Int32)), .val (.int (1 : Int32)), .val (.ref b_1), .val (.ref b_2), .val (.ref b_10), .val (.ref b_13), .val (.ref b_16), .val (.ref b_20), .val (.ref b_1), .val (.ref b_13), .val (.ref r_55), .val (.int (1 : Int32))] [])) t
        refine XS.iconst X_72.here hx rfl (hb hby at_319) ?_
        show Steps p.tables e below (T_72.setTop (mkF m 320 #[.val (.long q1), .second, .val (.int p2), .val (.int p3), .val (.int p4), .val (.int (0 : Int32)), .val (.int (1 : Int32)), .val (.ref b_1), .val (.ref b_2), .val (.ref b_10), .val (.ref b_13), .val (.ref b_16), .val (.ref b_20), .val (.ref b_1), .val (.ref b_13), .val (.ref r_55), .val (.int (1 : Int32))] [(.int (1 : Int32))])) t
        refine XS.goto X_72.here hx rfl (pc0 := 320) (pc' := 324) rfl (hb hby at_320) (by decide) (by decide) ?_
        exact kt
      obtain ⟨fs, hr, hrun, hended, hW, hsame⟩ := X_72.leave (v := some (.int (1 : Int32))) (fun h => by rw [Bd.returns] at h; cases h)
      refine ⟨_, _, ?_, hrun, hended, _, _, rfl, ?_, ⟨_, rfl⟩, hW, hsame.mono (by decide) (by decide)⟩
      · exact retN X_72 hx (t := .boolean) Bd.returns (by simp) (hb hby at_324) hr
      · show Q_rm0 Z _ _ _ _ h0 n0 _ T_72.heap _
        rw [e_72]
        exact ⟨rfl, N_72⟩
    · refine own_go (T' := T_33) (g' := (mkF m 189 #[.val (.long q1), .second, .val (.int p2), .val (.int p3), .val (.int p4), .val (.int (0 : Int32)), .val (.int (2 : Int32)), .val (.ref b_1), .val (.ref b_2), .val (.ref b_10), .val (.ref b_13), .val (.ref b_16), .val (.ref b_20), .val (.ref b_1), .val (.ref b_16), .unset, .unset] [(.ref b_16), (.ref b_1)])) (fun t kt => ?_) ?_
      · show Steps p.tables e below (T_33.setTop (mkF m 135 #[.val (.long q1), .second, .val (.int p2), .val (.int p3), .val (.int p4), .val (.int (0 : Int32)), .val (.int (2 : Int32)), .val (.ref b_1), .val (.ref b_2), .val (.ref b_10), .val (.ref b_13), .val (.ref b_16), .val (.ref b_20), .unset, .unset, .unset, .unset] [])) t
        refine XS.iload X_33.here hx rfl (hb hby at_135) rfl ?_
        show Steps p.tables e below (T_33.setTop (mkF m 137 #[.val (.long q1), .second, .val (.int p2), .val (.int p3), .val (.int p4), .val (.int (0 : Int32)), .val (.int (2 : Int32)), .val (.ref b_1), .val (.ref b_2), .val (.ref b_10), .val (.ref b_13), .val (.ref b_16), .val (.ref b_20), .unset, .unset, .unset, .unset] [(.int (0 : Int32))])) t
        refine XS.ifYes X_33.here hx rfl (pc0 := 137) (pc' := 145) rfl (hb hby at_137) rfl ((if0 _ _).trans (teq (by decide : (0 : Int32) = (0 : Int32))).1) (by decide) (by decide) ?_
        show Steps p.tables e below (T_33.setTop (mkF m 145 #[.val (.long q1), .second, .val (.int p2), .val (.int p3), .val (.int p4), .val (.int (0 : Int32)), .val (.int (2 : Int32)), .val (.ref b_1), .val (.ref b_2), .val (.ref b_10), .val (.ref b_13), .val (.ref b_16), .val (.ref b_20), .unset, .unset, .unset, .unset] [])) t
        refine XS.aload X_33.here hx rfl (hb hby at_145) rfl rfl ?_
        show Steps p.tables e below (T_33.setTop (mkF m 147 #[.val (.long q1), .second, .val (.int p2), .val (.int p3), .val (.int p4), .val (.int (0 : Int32)), .val (.int (2 : Int32)), .val (.ref b_1), .val (.ref b_2), .val (.ref b_10), .val (.ref b_13), .val (.ref b_16), .val (.ref b_20), .unset, .unset, .unset, .unset] [(.ref b_1)])) t
        refine XS.astore X_33.here hx rfl (hb hby at_147) rfl rfl (l' := #[.val (.long q1), .second, .val (.int p2), .val (.int p3), .val (.int p4), .val (.int (0 : Int32)), .val (.int (2 : Int32)), .val (.ref b_1), .val (.ref b_2), .val (.ref b_10), .val (.ref b_13), .val (.ref b_16), .val (.ref b_20), .val (.ref b_1), .unset, .unset, .unset]) rfl ?_
        show Steps p.tables e below (T_33.setTop (mkF m 149 #[.val (.long q1), .second, .val (.int p2), .val (.int p3), .val (.int p4), .val (.int (0 : Int32)), .val (.int (2 : Int32)), .val (.ref b_1), .val (.ref b_2), .val (.ref b_10), .val (.ref b_13), .val (.ref b_16), .val (.ref b_20), .val (.ref b_1), .unset, .unset, .unset] [])) t
        refine XS.iload X_33.here hx rfl (hb hby at_149) rfl ?_
        show Steps p.tables e below (T_33.setTop (mkF m 151 #[.val (.long q1), .second, .val (.int p2), .val (.int p3), .val (.int p4), .val (.int (0 : Int32)), .val (.int (2 : Int32)), .val (.ref b_1), .val (.ref b_2), .val (.ref b_10), .val (.ref b_13), .val (.ref b_16), .val (.ref b_20), .val (.ref b_1), .unset, .unset, .unset] [(.int (2 : Int32))])) t
        refine XS.ifYes X_33.here hx rfl (pc0 := 151) (pc' := 159) rfl (hb hby at_151) rfl ((if0 _ _).trans (feq (by decide : ¬ ((2 : Int32) = (0 : Int32)))).2) (by decide) (by decide) ?_
        show Steps p.tables e below (T_33.setTop (mkF m 159 #[.val (.long q1), .second, .val (.int p2), .val (.int p3), .val (.int p4), .val (.int (0 : Int32)), .val (.int (2 : Int32)), .val (.ref b_1), .val (.ref b_2), .val (.ref b_10), .val (.ref b_13), .val (.ref b_16), .val (.ref b_20), .val (.ref b_1), .unset, .unset, .unset] [])) t
        refine XS.iload X_33.here hx rfl (hb hby at_159) rfl ?_
        show Steps p.tables e below (T_33.setTop (mkF m 161 #[.val (.long q1), .second, .val (.int p2), .val (.int p3), .val (.int p4), .val (.int (0 : Int32)), .val (.int (2 : Int32)), .val (.ref b_1), .val (.ref b_2), .val (.ref b_10), .val (.ref b_13), .val (.ref b_16), .val (.ref b_20), .val (.ref b_1), .unset, .unset, .unset] [(.int (2 : Int32))])) t
        refine XS.iconst X_33.here hx rfl (hb hby at_161) ?_
        show Steps p.tables e below (T_33.setTop (mkF m 162 #[.val (.long q1), .second, .val (.int p2), .val (.int p3), .val (.int p4), .val (.int (0 : Int32)), .val (.int (2 : Int32)), .val (.ref b_1), .val (.ref b_2), .val (.ref b_10), .val (.ref b_13), .val (.ref b_16), .val (.ref b_20), .val (.ref b_1), .unset, .unset, .unset] [(.int (1 : Int32)), (.int (2 : Int32))])) t
        refine XS.icmpYes X_33.here hx rfl (pc0 := 162) (pc' := 170) rfl (hb hby at_162) rfl (feq (by decide : ¬ ((2 : Int32) = (1 : Int32)))).2 (by decide) (by decide) ?_
        show Steps p.tables e below (T_33.setTop (mkF m 170 #[.val (.long q1), .second, .val (.int p2), .val (.int p3), .val (.int p4), .val (.int (0 : Int32)), .val (.int (2 : Int32)), .val (.ref b_1), .val (.ref b_2), .val (.ref b_10), .val (.ref b_13), .val (.ref b_16), .val (.ref b_20), .val (.ref b_1), .unset, .unset, .unset] [])) t
        refine XS.iload X_33.here hx rfl (hb hby at_170) rfl ?_
        show Steps p.tables e below (T_33.setTop (mkF m 172 #[.val (.long q1), .second, .val (.int p2), .val (.int p3), .val (.int p4), .val (.int (0 : Int32)), .val (.int (2 : Int32)), .val (.ref b_1), .val (.ref b_2), .val (.ref b_10), .val (.ref b_13), .val (.ref b_16), .val (.ref b_20), .val (.ref b_1), .unset, .unset, .unset] [(.int (2 : Int32))])) t
        refine XS.iconst X_33.here hx rfl (hb hby at_172) ?_
        show Steps p.tables e below (T_33.setTop (mkF m 173 #[.val (.long q1), .second, .val (.int p2), .val (.int p3), .val (.int p4), .val (.int (0 : Int32)), .val (.int (2 : Int32)), .val (.ref b_1), .val (.ref b_2), .val (.ref b_10), .val (.ref b_13), .val (.ref b_16), .val (.ref b_20), .val (.ref b_1), .unset, .unset, .unset] [(.int (2 : Int32)), (.int (2 : Int32))])) t
        refine XS.icmpNo X_33.here hx rfl (hb hby at_173) rfl (teq (by decide : (2 : Int32) = (2 : Int32))).2 ?_
        show Steps p.tables e below (T_33.setTop (mkF m 176 #[.val (.long q1), .second, .val (.int p2), .val (.int p3), .val (.int p4), .val (.int (0 : Int32)), .val (.int (2 : Int32)), .val (.ref b_1), .val (.ref b_2), .val (.ref b_10), .val (.ref b_13), .val (.ref b_16), .val (.ref b_20), .val (.ref b_1), .unset, .unset, .unset] [])) t
        refine XS.aload X_33.here hx rfl (hb hby at_176) rfl rfl ?_
        show Steps p.tables e below (T_33.setTop (mkF m 178 #[.val (.long q1), .second, .val (.int p2), .val (.int p3), .val (.int p4), .val (.int (0 : Int32)), .val (.int (2 : Int32)), .val (.ref b_1), .val (.ref b_2), .val (.ref b_10), .val (.ref b_13), .val (.ref b_16), .val (.ref b_20), .val (.ref b_1), .unset, .unset, .unset] [(.ref b_16)])) t
        refine XS.goto X_33.here hx rfl (pc0 := 178) (pc' := 183) rfl (hb hby at_178) (by decide) (by decide) ?_
        show Steps p.tables e below (T_33.setTop (mkF m 183 #[.val (.long q1), .second, .val (.int p2), .val (.int p3), .val (.int p4), .val (.int (0 : Int32)), .val (.int (2 : Int32)), .val (.ref b_1), .val (.ref b_2), .val (.ref b_10), .val (.ref b_13), .val (.ref b_16), .val (.ref b_20), .val (.ref b_1), .unset, .unset, .unset] [(.ref b_16)])) t
        refine XS.astore X_33.here hx rfl (hb hby at_183) rfl rfl (l' := #[.val (.long q1), .second, .val (.int p2), .val (.int p3), .val (.int p4), .val (.int (0 : Int32)), .val (.int (2 : Int32)), .val (.ref b_1), .val (.ref b_2), .val (.ref b_10), .val (.ref b_13), .val (.ref b_16), .val (.ref b_20), .val (.ref b_1), .val (.ref b_16), .unset, .unset]) rfl ?_
        show Steps p.tables e below (T_33.setTop (mkF m 185 #[.val (.long q1), .second, .val (.int p2), .val (.int p3), .val (.int p4), .val (.int (0 : Int32)), .val (.int (2 : Int32)), .val (.ref b_1), .val (.ref b_2), .val (.ref b_10), .val (.ref b_13), .val (.ref b_16), .val (.ref b_20), .val (.ref b_1), .val (.ref b_16), .unset, .unset] [])) t
        refine XS.aload X_33.here hx rfl (hb hby at_185) rfl rfl ?_
        show Steps p.tables e below (T_33.setTop (mkF m 187 #[.val (.long q1), .second, .val (.int p2), .val (.int p3), .val (.int p4), .val (.int (0 : Int32)), .val (.int (2 : Int32)), .val (.ref b_1), .val (.ref b_2), .val (.ref b_10), .val (.ref b_13), .val (.ref b_16), .val (.ref b_20), .val (.ref b_1), .val (.ref b_16), .unset, .unset] [(.ref b_1)])) t
        refine XS.aload X_33.here hx rfl (hb hby at_187) rfl rfl ?_
        exact kt
      have f_76 := ((((((((((((((V_4.other W_5 ne_b_1_b_2).other W_7 ne_b_1_b_2).other W_8 ne_b_1_b_2).keep K_9 (ninS ne_b_1_b_2 nin0)).ext E_10).ext E_13).ext E_16).ext E_20).other W_25 ne_b_1_b_13).other W_27 ne_b_1_b_16).other W_29 ne_b_1_b_16).other W_30 ne_b_1_b_20).other W_32 ne_b_1_b_20).other W_33 ne_b_1_b_20)
      have f_77 := (((V_29.other W_30 ne_b_16_b_20).other W_32 ne_b_16_b_20).other W_33 ne_b_16_b_20)
      obtain ⟨_, _, ⟨T_78, L_78, k_78, n_78⟩, -, X_78, ⟨Lc_78, hQ_78, l_78, y_78, z_78⟩, st_78⟩ := Jvm.LawKit.callS X_33 hx (y := (⟨"com/example/thin_table/thintable/model/KeyOrder", "newestValue", "([B[B)[B"⟩ : MethodName)) hown (mvT hZ (hw _ (List.mem_of_getElem? (i := 5) rfl))) (mvT hZ (hw _ (List.mem_of_getElem? (i := 6) rfl))) (mvT hZ (hw _ (List.mem_of_getElem? (i := 7) rfl))) (mvT hZ (hw _ (List.mem_of_getElem? (i := 8) rfl))) (by decide) (backOf (W := 0) (rnew8_2 l Z a0 hw [] (b_1) (b_16) k_1 k_16 [(.int (own_by q1 56)), (.int (own_by q1 48)), (.int (own_by q1 40)), (.int (own_by q1 32)), (.int (own_by q1 24)), (.int (own_by q1 16)), (.int (own_by q1 8)), (.int (own_b0 q1))] [(.int (nar .byte (p3.toInt8.toInt32))), (.int (nar .byte (((p3.toUInt32 >>> ((8 : Int32) &&& 31).toUInt32).toInt32).toInt8.toInt32)))] h_33 n0 Z_33 f_76 f_77) hZ (hw _ (List.mem_of_getElem? (i := 8) rfl)) (hw _ (List.mem_of_getElem? (i := 7) rfl)) (by decide) (by decide)) (g := (mkF m 189 #[.val (.long q1), .second, .val (.int p2), .val (.int p3), .val (.int p4), .val (.int (0 : Int32)), .val (.int (2 : Int32)), .val (.ref b_1), .val (.ref b_2), .val (.ref b_10), .val (.ref b_13), .val (.ref b_16), .val (.ref b_20), .val (.ref b_1), .val (.ref b_16), .unset, .unset] [(.ref b_16), (.ref b_1)])) rfl (by rw [hml]; rfl) (argsL := [(.ref b_1), (.ref b_16)]) (rest := []) (lenOf pd_1 rfl) rfl (by show 2 * 0 + _ ≤ _; exact Nat.le_of_eq rfl) (hb hby at_189) (fun _ _ => ⟨rfl, e_33, (by decide : 6 + 1 ≤ _), (by decide : 25 + 10 ≤ _)⟩)
      dsimp only [Pt.U, Pt.locs, Pt.cells, Pt.slots] at X_78 l_78 y_78 z_78 st_78 hQ_78
      subst l_78 y_78 z_78
      obtain ⟨r_78, kB_78, rfl, N_78q, K_78, sr_78, V_78⟩ := hQ_78
      have N_78 := Fr.app N_33 N_78q
      have f_79 := (((((((f_21.ext E_20).wr W_25).wr W_27).wr W_29).wr W_30).wr W_32).wr W_33)
      have ne_b_1_r_78 : b_1 ≠ r_78 := Nat.ne_of_lt (Nat.lt_of_lt_of_le f_79.lt sr_78)
      have f_80 := (((((((f_22.ext E_20).wr W_25).wr W_27).wr W_29).wr W_30).wr W_32).wr W_33)
      have ne_b_2_r_78 : b_2 ≠ r_78 := Nat.ne_of_lt (Nat.lt_of_lt_of_le f_80.lt sr_78)
      have f_81 := (((((((f_23.ext E_20).wr W_25).wr W_27).wr W_29).wr W_30).wr W_32).wr W_33)
      have ne_b_10_r_78 : b_10 ≠ r_78 := Nat.ne_of_lt (Nat.lt_of_lt_of_le f_81.lt sr_78)
      have f_82 := (((((((f_24.ext E_20).wr W_25).wr W_27).wr W_29).wr W_30).wr W_32).wr W_33)
      have ne_b_13_r_78 : b_13 ≠ r_78 := Nat.ne_of_lt (Nat.lt_of_lt_of_le f_82.lt sr_78)
      have f_83 := (((((((B_16.ext E_20).wr W_25).wr W_27).wr W_29).wr W_30).wr W_32).wr W_33)
      have ne_b_16_r_78 : b_16 ≠ r_78 := Nat.ne_of_lt (Nat.lt_of_lt_of_le f_83.lt sr_78)
      have f_84 := ((((((B_20.wr W_25).wr W_27).wr W_29).wr W_30).wr W_32).wr W_33)
      have ne_b_20_r_78 : b_20 ≠ r_78 := Nat.ne_of_lt (Nat.lt_of_lt_of_le f_84.lt sr_78)
      have g_r_78 : n0 ≤ r_78 := Nat.le_trans Z_33 sr_78
      have Z_78 : n0 ≤ T_78.heap.size := Nat.le_trans Z_33 K_78.1
      refine own_go (g' := (mkF m 192 #[.val (.long q1), .second, .val (.int p2), .val (.int p3), .val (.int p4), .val (.int (0 : Int32)), .val (.int (2 : Int32)), .val (.ref b_1), .val (.ref b_2), .val (.ref b_10), .val (.ref b_13), .val (.ref b_16), .val (.ref b_20), .val (.ref b_1), .val (.ref b_16), .unset, .unset] [(.ref r_78)])) st_78 ?_
      replace V_78 : Arv Z T_78.heap r_78 kB_78 .byte (10 : Int32) [(.int (own_by q1 56)), (.int (own_by q1 48)), (.int (own_by q1 40)), (.int (own_by q1 32)), (.int (own_by q1 24)), (.int (own_by q1 16)), (.int (own_by q1 8)), (.int (own_b0 q1)), (.int (nar .byte (p3.toInt8.toInt32))), (.int (nar .byte (((p3.toUInt32 >>> ((8 : Int32) &&& 31).toUInt32).toInt32).toInt8.toInt32)))] (.int (0 : Int32)) := V_78
      refine own_go (T' := T_78) (g' := (mkF m 201 #[.val (.long q1), .second, .val (.int p2), .val (.int p3), .val (.int p4), .val (.int (0 : Int32)), .val (.int (2 : Int32)), .val (.ref b_1), .val (.ref b_2), .val (.ref b_10), .val (.ref b_13), .val (.ref b_16), .val (.ref b_20), .val (.ref b_1), .val (.ref b_16), .val (.ref r_78), .unset] [(.ref r_78)])) (fun t kt => ?_) ?_
      · show Steps p.tables e below (T_78.setTop (mkF m 192 #[.val (.long q1), .second, .val (.int p2), .val (.int p3), .val (.int p4), .val (.int (0 : Int32)), .val (.int (2 : Int32)), .val (.ref b_1), .val (.ref b_2), .val (.ref b_10), .val (.ref b_13), .val (.ref b_16), .val (.ref b_20), .val (.ref b_1), .val (.ref b_16), .unset, .unset] [(.ref r_78)])) t
        refine XS.astore X_78.here hx rfl (hb hby at_192) rfl rfl (l' := #[.val (.long q1), .second, .val (.int p2), .val (.int p3), .val (.int p4), .val (.int (0 : Int32)), .val (.int (2 : Int32)), .val (.ref b_1), .val (.ref b_2), .val (.ref b_10), .val (.ref b_13), .val (.ref b_16), .val (.ref b_20), .val (.ref b_1), .val (.ref b_16), .val (.ref r_78), .unset]) rfl ?_
        show Steps p.tables e below (T_78.setTop (mkF m 194 #[.val (.long q1), .second, .val (.int p2), .val (.int p3), .val (.int p4), .val (.int (0 : Int32)), .val (.int (2 : Int32)), .val (.ref b_1), .val (.ref b_2), .val (.ref b_10), .val (.ref b_13), .val (.ref b_16), .val (.ref b_20), .val (.ref b_1), .val (.ref b_16), .val (.ref r_78), .unset] [])) t
        refine XS.aload X_78.here hx rfl (hb hby at_194) rfl rfl ?_
        show Steps p.tables e below (T_78.setTop (mkF m 196 #[.val (.long q1), .second, .val (.int p2), .val (.int p3), .val (.int p4), .val (.int (0 : Int32)), .val (.int (2 : Int32)), .val (.ref b_1), .val (.ref b_2), .val (.ref b_10), .val (.ref b_13), .val (.ref b_16), .val (.ref b_20), .val (.ref b_1), .val (.ref b_16), .val (.ref r_78), .unset] [(.ref r_78)])) t
        refine XS.ifnullNo X_78.here hx rfl (hb hby at_196) rfl ?_
        show Steps p.tables e below (T_78.setTop (mkF m 199 #[.val (.long q1), .second, .val (.int p2), .val (.int p3), .val (.int p4), .val (.int (0 : Int32)), .val (.int (2 : Int32)), .val (.ref b_1), .val (.ref b_2), .val (.ref b_10), .val (.ref b_13), .val (.ref b_16), .val (.ref b_20), .val (.ref b_1), .val (.ref b_16), .val (.ref r_78), .unset] [])) t
        refine XS.aload X_78.here hx rfl (hb hby at_199) rfl rfl ?_
        exact kt
      have vq_85 := V_78
      obtain ⟨c_85, a_85, -, s_85, m_85, -, -⟩ := vq_85
      refine own_go (T' := T_78) (g' := (mkF m 202 #[.val (.long q1), .second, .val (.int p2), .val (.int p3), .val (.int p4), .val (.int (0 : Int32)), .val (.int (2 : Int32)), .val (.ref b_1), .val (.ref b_2), .val (.ref b_10), .val (.ref b_13), .val (.ref b_16), .val (.ref b_20), .val (.ref b_1), .val (.ref b_16), .val (.ref r_78), .unset] [(.int (10 : Int32))])) (fun t kt => ?_) ?_
      · refine X_78.arraylength hx a_85.1 (State.isArrayOf_alike hZ.alike a_85.2.1) (g := (mkF m 201 #[.val (.long q1), .second, .val (.int p2), .val (.int p3), .val (.int p4), .val (.int (0 : Int32)), .val (.int (2 : Int32)), .val (.ref b_1), .val (.ref b_2), .val (.ref b_10), .val (.ref b_13), .val (.ref b_16), .val (.ref b_20), .val (.ref b_1), .val (.ref b_16), .val (.ref r_78), .unset] [(.ref r_78)])) rfl rfl (hb hby at_201) _ ?_
        rw [len_of s_85 m_85]
        exact kt
      refine own_go (T' := T_78) (g' := (mkF m 227 #[.val (.long q1), .second, .val (.int p2), .val (.int p3), .val (.int p4), .val (.int (0 : Int32)), .val (.int (2 : Int32)), .val (.ref b_1), .val (.ref b_2), .val (.ref b_10), .val (.ref b_13), .val (.ref b_16), .val (.ref b_20), .val (.ref b_1), .val (.ref b_16), .val (.ref r_78), .unset] [(.long q1), (.ref r_78)])) (fun t kt => ?_) ?_
      · show Steps p.tables e below (T_78.setTop (mkF m 202 #[.val (.long q1), .second, .val (.int p2), .val (.int p3), .val (.int p4), .val (.int (0 : Int32)), .val (.int (2 : Int32)), .val (.ref b_1), .val (.ref b_2), .val (.ref b_10), .val (.ref b_13), .val (.ref b_16), .val (.ref b_20), .val (.ref b_1), .val (.ref b_16), .val (.ref r_78), .unset] [(.int (10 : Int32))])) t
        refine XS.bipush X_78.here hx rfl (hb hby at_202) ?_
        show Steps p.tables e below (T_78.setTop (mkF m 204 #[.val (.long q1), .second, .val (.int p2), .val (.int p3), .val (.int p4), .val (.int (0 : Int32)), .val (.int (2 : Int32)), .val (.ref b_1), .val (.ref b_2), .val (.ref b_10), .val (.ref b_13), .val (.ref b_16), .val (.ref b_20), .val (.ref b_1), .val (.ref b_16), .val (.ref r_78), .unset] [(.int (8 : Int32)), (.int (10 : Int32))])) t
        refine XS.iload X_78.here hx rfl (hb hby at_204) rfl ?_
        show Steps p.tables e below (T_78.setTop (mkF m 206 #[.val (.long q1), .second, .val (.int p2), .val (.int p3), .val (.int p4), .val (.int (0 : Int32)), .val (.int (2 : Int32)), .val (.ref b_1), .val (.ref b_2), .val (.ref b_10), .val (.ref b_13), .val (.ref b_16), .val (.ref b_20), .val (.ref b_1), .val (.ref b_16), .val (.ref r_78), .unset] [(.int (2 : Int32)), (.int (8 : Int32)), (.int (10 : Int32))])) t
        refine XS.iadd X_78.here hx rfl (hb hby at_206) rfl ?_
        show Steps p.tables e below (T_78.setTop (mkF m 207 #[.val (.long q1), .second, .val (.int p2), .val (.int p3), .val (.int p4), .val (.int (0 : Int32)), .val (.int (2 : Int32)), .val (.ref b_1), .val (.ref b_2), .val (.ref b_10), .val (.ref b_13), .val (.ref b_16), .val (.ref b_20), .val (.ref b_1), .val (.ref b_16), .val (.ref r_78), .unset] [(.int (10 : Int32)), (.int (10 : Int32))])) t
        refine XS.icmpNo X_78.here hx rfl (hb hby at_207) rfl (teq (by decide : (10 : Int32) = (10 : Int32))).2 ?_
        show Steps p.tables e below (T_78.setTop (mkF m 210 #[.val (.long q1), .second, .val (.int p2), .val (.int p3), .val (.int p4), .val (.int (0 : Int32)), .val (.int (2 : Int32)), .val (.ref b_1), .val (.ref b_2), .val (.ref b_10), .val (.ref b_13), .val (.ref b_16), .val (.ref b_20), .val (.ref b_1), .val (.ref b_16), .val (.ref r_78), .unset] [])) t
        refine XS.aload X_78.here hx rfl (hb hby at_210) rfl rfl ?_
        show Steps p.tables e below (T_78.setTop (mkF m 212 #[.val (.long q1), .second, .val (.int p2), .val (.int p3), .val (.int p4), .val (.int (0 : Int32)), .val (.int (2 : Int32)), .val (.ref b_1), .val (.ref b_2), .val (.ref b_10), .val (.ref b_13), .val (.ref b_16), .val (.ref b_20), .val (.ref b_1), .val (.ref b_16), .val (.ref r_78), .unset] [(.ref r_78)])) t
        refine XS.aload X_78.here hx rfl (hb hby at_212) rfl rfl ?_
        show Steps p.tables e below (T_78.setTop (mkF m 214 #[.val (.long q1), .second, .val (.int p2), .val (.int p3), .val (.int p4), .val (.int (0 : Int32)), .val (.int (2 : Int32)), .val (.ref b_1), .val (.ref b_2), .val (.ref b_10), .val (.ref b_13), .val (.ref b_16), .val (.ref b_20), .val (.ref b_1), .val (.ref b_16), .val (.ref r_78), .unset] [(.ref b_16), (.ref r_78)])) t
        refine Jvm.RoadKit.acmp (g := (mkF m 214 #[.val (.long q1), .second, .val (.int p2), .val (.int p3), .val (.int p4), .val (.int (0 : Int32)), .val (.int (2 : Int32)), .val (.ref b_1), .val (.ref b_2), .val (.ref b_10), .val (.ref b_13), .val (.ref b_16), .val (.ref b_20), .val (.ref b_1), .val (.ref b_16), .val (.ref r_78), .unset] [(.ref b_16), (.ref r_78)])) X_78 hx rfl rfl rfl (pc0 := 214) (pc' := 217) (same := false) rfl (hb hby at_214) rfl (decide_eq_false fun q => (Ne.symm ne_b_16_r_78) (Value.ref.inj q)) (by decide) (by decide) ?_
        show Steps p.tables e below (T_78.setTop (mkF m 217 #[.val (.long q1), .second, .val (.int p2), .val (.int p3), .val (.int p4), .val (.int (0 : Int32)), .val (.int (2 : Int32)), .val (.ref b_1), .val (.ref b_2), .val (.ref b_10), .val (.ref b_13), .val (.ref b_16), .val (.ref b_20), .val (.ref b_1), .val (.ref b_16), .val (.ref r_78), .unset] [])) t
        refine XS.aload X_78.here hx rfl (hb hby at_217) rfl rfl ?_
        show Steps p.tables e below (T_78.setTop (mkF m 219 #[.val (.long q1), .second, .val (.int p2), .val (.int p3), .val (.int p4), .val (.int (0 : Int32)), .val (.int (2 : Int32)), .val (.ref b_1), .val (.ref b_2), .val (.ref b_10), .val (.ref b_13), .val (.ref b_16), .val (.ref b_20), .val (.ref b_1), .val (.ref b_16), .val (.ref r_78), .unset] [(.ref r_78)])) t
        refine XS.aload X_78.here hx rfl (hb hby at_219) rfl rfl ?_
        show Steps p.tables e below (T_78.setTop (mkF m 221 #[.val (.long q1), .second, .val (.int p2), .val (.int p3), .val (.int p4), .val (.int (0 : Int32)), .val (.int (2 : Int32)), .val (.ref b_1), .val (.ref b_2), .val (.ref b_10), .val (.ref b_13), .val (.ref b_16), .val (.ref b_20), .val (.ref b_1), .val (.ref b_16), .val (.ref r_78), .unset] [(.ref b_1), (.ref r_78)])) t
        refine Jvm.RoadKit.acmp (g := (mkF m 221 #[.val (.long q1), .second, .val (.int p2), .val (.int p3), .val (.int p4), .val (.int (0 : Int32)), .val (.int (2 : Int32)), .val (.ref b_1), .val (.ref b_2), .val (.ref b_10), .val (.ref b_13), .val (.ref b_16), .val (.ref b_20), .val (.ref b_1), .val (.ref b_16), .val (.ref r_78), .unset] [(.ref b_1), (.ref r_78)])) X_78 hx rfl rfl rfl (pc0 := 221) (pc' := 224) (same := false) rfl (hb hby at_221) rfl (decide_eq_false fun q => (Ne.symm ne_b_1_r_78) (Value.ref.inj q)) (by decide) (by decide) ?_
        show Steps p.tables e below (T_78.setTop (mkF m 224 #[.val (.long q1), .second, .val (.int p2), .val (.int p3), .val (.int p4), .val (.int (0 : Int32)), .val (.int (2 : Int32)), .val (.ref b_1), .val (.ref b_2), .val (.ref b_10), .val (.ref b_13), .val (.ref b_16), .val (.ref b_20), .val (.ref b_1), .val (.ref b_16), .val (.ref r_78), .unset] [])) t
        refine XS.aload X_78.here hx rfl (hb hby at_224) rfl rfl ?_
        show Steps p.tables e below (T_78.setTop (mkF m 226 #[.val (.long q1), .second, .val (.int p2), .val (.int p3), .val (.int p4), .val (.int (0 : Int32)), .val (.int (2 : Int32)), .val (.ref b_1), .val (.ref b_2), .val (.ref b_10), .val (.ref b_13), .val (.ref b_16), .val (.ref b_20), .val (.ref b_1), .val (.ref b_16), .val (.ref r_78), .unset] [(.ref r_78)])) t
        refine XS.lloadN X_78.here hx rfl (hb hby at_226) rfl ?_
        exact kt
      obtain ⟨_, _, ⟨T_86, L_86, k_86, n_86⟩, -, X_86, ⟨Lc_86, hQ_86, l_86, y_86, z_86⟩, st_86⟩ := Jvm.LawKit.callS X_78 hx (y := (⟨"com/example/thin_table/thintable/model/KeyOrderNewestValuePinLaw", "head", "([BJ)Z"⟩ : MethodName)) hown (mvT hZ (hw _ (List.mem_of_getElem? (i := 13) rfl))) (mvT hZ (hw _ (List.mem_of_getElem? (i := 14) rfl))) (mvT hZ (hw _ (List.mem_of_getElem? (i := 3) rfl))) (mvT hZ (hw _ (List.mem_of_getElem? (i := 15) rfl))) (by decide) (backOf (W := 0) (rhead2 l Z a0 hw [] (r_78) (q1) p3 kB_78 T_78.heap n0 Z_78 V_78) hZ (hw _ (List.mem_of_getElem? (i := 15) rfl)) (hw _ (List.mem_of_getElem? (i := 3) rfl)) (by decide) (by decide)) (g := (mkF m 227 #[.val (.long q1), .second, .val (.int p2), .val (.int p3), .val (.int p4), .val (.int (0 : Int32)), .val (.int (2 : Int32)), .val (.ref b_1), .val (.ref b_2), .val (.ref b_10), .val (.ref b_13), .val (.ref b_16), .val (.ref b_20), .val (.ref b_1), .val (.ref b_16), .val (.ref r_78), .unset] [(.long q1), (.ref r_78)])) rfl (by rw [hml]; rfl) (argsL := [(.ref r_78), (.long q1)]) (rest := []) (lenOf pd_3 rfl) rfl (by show 2 * 0 + _ ≤ _; exact Nat.le_of_eq rfl) (hb hby at_227) (fun _ _ => ⟨rfl, rfl, (by decide : 7 + 0 ≤ _), (by decide : 35 + 0 ≤ _)⟩)
      dsimp only [Pt.U, Pt.locs, Pt.cells, Pt.slots] at X_86 l_86 y_86 z_86 st_86 hQ_86
      subst l_86 y_86 z_86
      obtain ⟨rfl, N_86q, e_86⟩ := hQ_86
      have N_86 := Fr.app N_78 N_86q
      refine own_go (g' := (mkF m 230 #[.val (.long q1), .second, .val (.int p2), .val (.int p3), .val (.int p4), .val (.int (0 : Int32)), .val (.int (2 : Int32)), .val (.ref b_1), .val (.ref b_2), .val (.ref b_10), .val (.ref b_13), .val (.ref b_16), .val (.ref b_20), .val (.ref b_1), .val (.ref b_16), .val (.ref r_78), .unset] [(.int (1 : Int32))])) st_86 ?_
      refine own_go (T' := T_86) (g' := (mkF m 238 #[.val (.long q1), .second, .val (.int p2), .val (.int p3), .val (.int p4), .val (.int (0 : Int32)), .val (.int (2 : Int32)), .val (.ref b_1), .val (.ref b_2), .val (.ref b_10), .val (.ref b_13), .val (.ref b_16), .val (.ref b_20), .val (.ref b_1), .val (.ref b_16), .val (.ref r_78), .unset] [(.int p3), (.int (2 : Int32)), (.ref r_78)])) (fun t kt => ?_) ?_
      · show Steps p.tables e below (T_86.setTop (mkF m 230 #[.val (.long q1), .second, .val (.int p2), .val (.int p3), .val (.int p4), .val (.int (0 : Int32)), .val (.int (2 : Int32)), .val (.ref b_1), .val (.ref b_2), .val (.ref b_10), .val (.ref b_13), .val (.ref b_16), .val (.ref b_20), .val (.ref b_1), .val (.ref b_16), .val (.ref r_78), .unset] [(.int (1 : Int32))])) t
        refine XS.ifNo X_86.here hx rfl (hb hby at_230) rfl ((if0 _ _).trans (feq (by decide : ¬ ((1 : Int32) = (0 : Int32)))).1) ?_
        show Steps p.tables e below (T_86.setTop (mkF m 233 #[.val (.long q1), .second, .val (.int p2), .val (.int p3), .val (.int p4), .val (.int (0 : Int32)), .val (.int (2 : Int32)), .val (.ref b_1), .val (.ref b_2), .val (.ref b_10), .val (.ref b_13), .val (.ref b_16), .val (.ref b_20), .val (.ref b_1), .val (.ref b_16), .val (.ref r_78), .unset] [])) t
        refine XS.aload X_86.here hx rfl (hb hby at_233) rfl rfl ?_
        show Steps p.tables e below (T_86.setTop (mkF m 235 #[.val (.long q1), .second, .val (.int p2), .val (.int p3), .val (.int p4), .val (.int (0 : Int32)), .val (.int (2 : Int32)), .val (.ref b_1), .val (.ref b_2), .val (.ref b_10), .val (.ref b_13), .val (.ref b_16), .val (.ref b_20), .val (.ref b_1), .val (.ref b_16), .val (.ref r_78), .unset] [(.ref r_78)])) t
        refine XS.iload X_86.here hx rfl (hb hby at_235) rfl ?_
        show Steps p.tables e below (T_86.setTop (mkF m 237 #[.val (.long q1), .second, .val (.int p2), .val (.int p3), .val (.int p4), .val (.int (0 : Int32)), .val (.int (2 : Int32)), .val (.ref b_1), .val (.ref b_2), .val (.ref b_10), .val (.ref b_13), .val (.ref b_16), .val (.ref b_20), .val (.ref b_1), .val (.ref b_16), .val (.ref r_78), .unset] [(.int (2 : Int32)), (.ref r_78)])) t
        refine XS.iloadN X_86.here hx rfl (hb hby at_237) rfl ?_
        exact kt
      obtain ⟨_, _, ⟨T_87, L_87, k_87, n_87⟩, -, X_87, ⟨Lc_87, hQ_87, l_87, y_87, z_87⟩, st_87⟩ := Jvm.LawKit.callS X_86 hx (y := (⟨"com/example/thin_table/thintable/model/KeyOrderNewestValuePinLaw", "tail", "([BII)Z"⟩ : MethodName)) hown (mvT hZ (hw _ (List.mem_of_getElem? (i := 16) rfl))) (mvT hZ (hw _ (List.mem_of_getElem? (i := 17) rfl))) (mvT hZ (hw _ (List.mem_of_getElem? (i := 3) rfl))) (mvT hZ (hw _ (List.mem_of_getElem? (i := 18) rfl))) (by decide) (backOf (W := 0) (rtail2 l Z a0 hw [] r_78 q1 p3 kB_78 T_78.heap n0 Z_78 V_78) hZ (hw _ (List.mem_of_getElem? (i := 18) rfl)) (hw _ (List.mem_of_getElem? (i := 3) rfl)) (by decide) (by decide)) (g := (mkF m 238 #[.val (.long q1), .second, .val (.int p2), .val (.int p3), .val (.int p4), .val (.int (0 : Int32)), .val (.int (2 : Int32)), .val (.ref b_1), .val (.ref b_2), .val (.ref b_10), .val (.ref b_13), .val (.ref b_16), .val (.ref b_20), .val (.ref b_1), .val (.ref b_16), .val (.ref r_78), .unset] [(.int p3), (.int (2 : Int32)), (.ref r_78)])) rfl (by rw [hml]; rfl) (argsL := [(.ref r_78), (.int (2 : Int32)), (.int p3)]) (rest := []) (lenOf pd_4 rfl) rfl (by show 2 * 0 + _ ≤ _; exact Nat.le_of_eq rfl) (hb hby at_238) (fun _ _ => ⟨rfl, e_86, (by decide : 7 + 0 ≤ _), (by decide : 35 + 0 ≤ _)⟩)
      dsimp only [Pt.U, Pt.locs, Pt.cells, Pt.slots] at X_87 l_87 y_87 z_87 st_87 hQ_87
      subst l_87 y_87 z_87
      obtain ⟨rfl, N_87q, e_87⟩ := hQ_87
      have N_87 := Fr.app N_86 N_87q
      refine own_go (g' := (mkF m 241 #[.val (.long q1), .second, .val (.int p2), .val (.int p3), .val (.int p4), .val (.int (0 : Int32)), .val (.int (2 : Int32)), .val (.ref b_1), .val (.ref b_2), .val (.ref b_10), .val (.ref b_13), .val (.ref b_16), .val (.ref b_20), .val (.ref b_1), .val (.ref b_16), .val (.ref r_78), .unset] [(.int (1 : Int32))])) st_87 ?_
      refine own_go (T' := T_87) (g' := (mkF m 262 #[.val (.long q1), .second, .val (.int p2), .val (.int p3), .val (.int p4), .val (.int (0 : Int32)), .val (.int (2 : Int32)), .val (.ref b_1), .val (.ref b_2), .val (.ref b_10), .val (.ref b_13), .val (.ref b_16), .val (.ref b_20), .val (.ref b_1), .val (.ref b_16), .val (.ref r_78), .val (.int (1 : Int32))] [(.ref b_1), (.ref b_1)])) (fun t kt => ?_) ?_
      · show Steps p.tables e below (T_87.setTop (mkF m 241 #[.val (.long q1), .second, .val (.int p2), .val (.int p3), .val (.int p4), .val (.int (0 : Int32)), .val (.int (2 : Int32)), .val (.ref b_1), .val (.ref b_2), .val (.ref b_10), .val (.ref b_13), .val (.ref b_16), .val (.ref b_20), .val (.ref b_1), .val (.ref b_16), .val (.ref r_78), .unset] [(.int (1 : Int32))])) t
        refine XS.ifNo X_87.here hx rfl (hb hby at_241) rfl ((if0 _ _).trans (feq (by decide : ¬ ((1 : Int32) = (0 : Int32)))).1) ?_
        show Steps p.tables e below (T_87.setTop (mkF m 244 #[.val (.long q1), .second, .val (.int p2), .val (.int p3), .val (.int p4), .val (.int (0 : Int32)), .val (.int (2 : Int32)), .val (.ref b_1), .val (.ref b_2), .val (.ref b_10), .val (.ref b_13), .val (.ref b_16), .val (.ref b_20), .val (.ref b_1), .val (.ref b_16), .val (.ref r_78), .unset] [])) t
        refine XS.iconst X_87.here hx rfl (hb hby at_244) ?_
        show Steps p.tables e below (T_87.setTop (mkF m 245 #[.val (.long q1), .second, .val (.int p2), .val (.int p3), .val (.int p4), .val (.int (0 : Int32)), .val (.int (2 : Int32)), .val (.ref b_1), .val (.ref b_2), .val (.ref b_10), .val (.ref b_13), .val (.ref b_16), .val (.ref b_20), .val (.ref b_1), .val (.ref b_16), .val (.ref r_78), .unset] [(.int (1 : Int32))])) t
        refine XS.goto X_87.here hx rfl (pc0 := 245) (pc' := 249) rfl (hb hby at_245) (by decide) (by decide) ?_
        show Steps p.tables e below (T_87.setTop (mkF m 249 #[.val (.long q1), .second, .val (.int p2), .val (.int p3), .val (.int p4), .val (.int (0 : Int32)), .val (.int (2 : Int32)), .val (.ref b_1), .val (.ref b_2), .val (.ref b_10), .val (.ref b_13), .val (.ref b_16), .val (.ref b_20), .val (.ref b_1), .val (.ref b_16), .val (.ref r_78), .unset] [(.int (1 : Int32))])) t
        refine XS.istore X_87.here hx rfl (hb hby at_249) rfl (l' := #[.val (.long q1), .second, .val (.int p2), .val (.int p3), .val (.int p4), .val (.int (0 : Int32)), .val (.int (2 : Int32)), .val (.ref b_1), .val (.ref b_2), .val (.ref b_10), .val (.ref b_13), .val (.ref b_16), .val (.ref b_20), .val (.ref b_1), .val (.ref b_16), .val (.ref r_78), .val (.int (1 : Int32))]) rfl ?_
        show Steps p.tables e below (T_87.setTop (mkF m 251 #[.val (.long q1), .second, .val (.int p2), .val (.int p3), .val (.int p4), .val (.int (0 : Int32)), .val (.int (2 : Int32)), .val (.ref b_1), .val (.ref b_2), .val (.ref b_10), .val (.ref b_13), .val (.ref b_16), .val (.ref b_20), .val (.ref b_1), .val (.ref b_16), .val (.ref r_78), .val (.int (1 : Int32))] [])) t
        refine XS.iload X_87.here hx rfl (hb hby at_251) rfl ?_
        show Steps p.tables e below (T_87.setTop (mkF m 253 #[.val (.long q1), .second, .val (.int p2), .val (.int p3), .val (.int p4), .val (.int (0 : Int32)), .val (.int (2 : Int32)), .val (.ref b_1), .val (.ref b_2), .val (.ref b_10), .val (.ref b_13), .val (.ref b_16), .val (.ref b_20), .val (.ref b_1), .val (.ref b_16), .val (.ref r_78), .val (.int (1 : Int32))] [(.int (1 : Int32))])) t
        refine XS.ifYes X_87.here hx rfl (pc0 := 253) (pc' := 258) rfl (hb hby at_253) rfl ((if0 _ _).trans (feq (by decide : ¬ ((1 : Int32) = (0 : Int32)))).2) (by decide) (by decide) ?_
        show Steps p.tables e below (T_87.setTop (mkF m 258 #[.val (.long q1), .second, .val (.int p2), .val (.int p3), .val (.int p4), .val (.int (0 : Int32)), .val (.int (2 : Int32)), .val (.ref b_1), .val (.ref b_2), .val (.ref b_10), .val (.ref b_13), .val (.ref b_16), .val (.ref b_20), .val (.ref b_1), .val (.ref b_16), .val (.ref r_78), .val (.int (1 : Int32))] [])) t
        refine XS.aload X_87.here hx rfl (hb hby at_258) rfl rfl ?_
        show Steps p.tables e below (T_87.setTop (mkF m 260 #[.val (.long q1), .second, .val (.int p2), .val (.int p3), .val (.int p4), .val (.int (0 : Int32)), .val (.int (2 : Int32)), .val (.ref b_1), .val (.ref b_2), .val (.ref b_10), .val (.ref b_13), .val (.ref b_16), .val (.ref b_20), .val (.ref b_1), .val (.ref b_16), .val (.ref r_78), .val (.int (1 : Int32))] [(.ref b_1)])) t
        refine XS.aload X_87.here hx rfl (hb hby at_260) rfl rfl ?_
        exact kt
      have f_88 := (f_76.keep K_78 nin0)
      have vq_89 := f_88
      obtain ⟨c_89, a_89, -, s_89, m_89, -, -⟩ := vq_89
      refine own_go (T' := T_87) (g' := (mkF m 263 #[.val (.long q1), .second, .val (.int p2), .val (.int p3), .val (.int p4), .val (.int (0 : Int32)), .val (.int (2 : Int32)), .val (.ref b_1), .val (.ref b_2), .val (.ref b_10), .val (.ref b_13), .val (.ref b_16), .val (.ref b_20), .val (.ref b_1), .val (.ref b_16), .val (.ref r_78), .val (.int (1 : Int32))] [(.int (8 : Int32)), (.ref b_1)])) (fun t kt => ?_) ?_
      · refine X_87.arraylength hx (by rw [e_87]; exact a_89.1) (State.isArrayOf_alike hZ.alike a_89.2.1) (g := (mkF m 262 #[.val (.long q1), .second, .val (.int p2), .val (.int p3), .val (.int p4), .val (.int (0 : Int32)), .val (.int (2 : Int32)), .val (.ref b_1), .val (.ref b_2), .val (.ref b_10), .val (.ref b_13), .val (.ref b_16), .val (.ref b_20), .val (.ref b_1), .val (.ref b_16), .val (.ref r_78), .val (.int (1 : Int32))] [(.ref b_1), (.ref b_1)])) rfl rfl (hb hby at_262) _ ?_
        rw [len_of s_89 m_89]
        exact kt
      refine own_go (T' := T_87) (g' := (mkF m 269 #[.val (.long q1), .second, .val (.int p2), .val (.int p3), .val (.int p4), .val (.int (0 : Int32)), .val (.int (2 : Int32)), .val (.ref b_1), .val (.ref b_2), .val (.ref b_10), .val (.ref b_13), .val (.ref b_16), .val (.ref b_20), .val (.ref b_1), .val (.ref b_16), .val (.ref r_78), .val (.int (1 : Int32))] [(.ref b_1), (.ref b_1), (.int (7 : Int32)), (.ref b_1)])) (fun t kt => ?_) ?_
      · show Steps p.tables e below (T_87.setTop (mkF m 263 #[.val (.long q1), .second, .val (.int p2), .val (.int p3), .val (.int p4), .val (.int (0 : Int32)), .val (.int (2 : Int32)), .val (.ref b_1), .val (.ref b_2), .val (.ref b_10), .val (.ref b_13), .val (.ref b_16), .val (.ref b_20), .val (.ref b_1), .val (.ref b_16), .val (.ref r_78), .val (.int (1 : Int32))] [(.int (8 : Int32)), (.ref b_1)])) t
        refine XS.iconst X_87.here hx rfl (hb hby at_263) ?_
        show Steps p.tables e below (T_87.setTop (mkF m 264 #[.val (.long q1), .second, .val (.int p2), .val (.int p3), .val (.int p4), .val (.int (0 : Int32)), .val (.int (2 : Int32)), .val (.ref b_1), .val (.ref b_2), .val (.ref b_10), .val (.ref b_13), .val (.ref b_16), .val (.ref b_20), .val (.ref b_1), .val (.ref b_16), .val (.ref r_78), .val (.int (1 : Int32))] [(.int (1 : Int32)), (.int (8 : Int32)), (.ref b_1)])) t
        refine XS.isub X_87.here hx rfl (hb hby at_264) rfl ?_
        show Steps p.tables e below (T_87.setTop (mkF m 265 #[.val (.long q1), .second, .val (.int p2), .val (.int p3), .val (.int p4), .val (.int (0 : Int32)), .val (.int (2 : Int32)), .val (.ref b_1), .val (.ref b_2), .val (.ref b_10), .val (.ref b_13), .val (.ref b_16), .val (.ref b_20), .val (.ref b_1), .val (.ref b_16), .val (.ref r_78), .val (.int (1 : Int32))] [(.int (7 : Int32)), (.ref b_1)])) t
        refine XS.aload X_87.here hx rfl (hb hby at_265) rfl rfl ?_
        show Steps p.tables e below (T_87.setTop (mkF m 267 #[.val (.long q1), .second, .val (.int p2), .val (.int p3), .val (.int p4), .val (.int (0 : Int32)), .val (.int (2 : Int32)), .val (.ref b_1), .val (.ref b_2), .val (.ref b_10), .val (.ref b_13), .val (.ref b_16), .val (.ref b_20), .val (.ref b_1), .val (.ref b_16), .val (.ref r_78), .val (.int (1 : Int32))] [(.ref b_1), (.int (7 : Int32)), (.ref b_1)])) t
        refine XS.aload X_87.here hx rfl (hb hby at_267) rfl rfl ?_
        exact kt
      have vq_90 := f_88
      obtain ⟨c_90, a_90, -, s_90, m_90, -, -⟩ := vq_90
      refine own_go (T' := T_87) (g' := (mkF m 270 #[.val (.long q1), .second, .val (.int p2), .val (.int p3), .val (.int p4), .val (.int (0 : Int32)), .val (.int (2 : Int32)), .val (.ref b_1), .val (.ref b_2), .val (.ref b_10), .val (.ref b_13), .val (.ref b_16), .val (.ref b_20), .val (.ref b_1), .val (.ref b_16), .val (.ref r_78), .val (.int (1 : Int32))] [(.int (8 : Int32)), (.ref b_1), (.int (7 : Int32)), (.ref b_1)])) (fun t kt => ?_) ?_
      · refine X_87.arraylength hx (by rw [e_87]; exact a_90.1) (State.isArrayOf_alike hZ.alike a_90.2.1) (g := (mkF m 269 #[.val (.long q1), .second, .val (.int p2), .val (.int p3), .val (.int p4), .val (.int (0 : Int32)), .val (.int (2 : Int32)), .val (.ref b_1), .val (.ref b_2), .val (.ref b_10), .val (.ref b_13), .val (.ref b_16), .val (.ref b_20), .val (.ref b_1), .val (.ref b_16), .val (.ref r_78), .val (.int (1 : Int32))] [(.ref b_1), (.ref b_1), (.int (7 : Int32)), (.ref b_1)])) rfl rfl (hb hby at_269) _ ?_
        rw [len_of s_90 m_90]
        exact kt
      refine own_go (T' := T_87) (g' := (mkF m 272 #[.val (.long q1), .second, .val (.int p2), .val (.int p3), .val (.int p4), .val (.int (0 : Int32)), .val (.int (2 : Int32)), .val (.ref b_1), .val (.ref b_2), .val (.ref b_10), .val (.ref b_13), .val (.ref b_16), .val (.ref b_20), .val (.ref b_1), .val (.ref b_16), .val (.ref r_78), .val (.int (1 : Int32))] [(.int (7 : Int32)), (.ref b_1), (.int (7 : Int32)), (.ref b_1)])) (fun t kt => ?_) ?_
      · show Steps p.tables e below (T_87.setTop (mkF m 270 #[.val (.long q1), .second, .val (.int p2), .val (.int p3), .val (.int p4), .val (.int (0 : Int32)), .val (.int (2 : Int32)), .val (.ref b_1), .val (.ref b_2), .val (.ref b_10), .val (.ref b_13), .val (.ref b_16), .val (.ref b_20), .val (.ref b_1), .val (.ref b_16), .val (.ref r_78), .val (.int (1 : Int32))] [(.int (8 : Int32)), (.ref b_1), (.int (7 : Int32)), (.ref b_1)])) t
        refine XS.iconst X_87.here hx rfl (hb hby at_270) ?_
        show Steps p.tables e below (T_87.setTop (mkF m 271 #[.val (.long q1), .second, .val (.int p2), .val (.int p3), .val (.int p4), .val (.int (0 : Int32)), .val (.int (2 : Int32)), .val (.ref b_1), .val (.ref b_2), .val (.ref b_10), .val (.ref b_13), .val (.ref b_16), .val (.ref b_20), .val (.ref b_1), .val (.ref b_16), .val (.ref r_78), .val (.int (1 : Int32))] [(.int (1 : Int32)), (.int (8 : Int32)), (.ref b_1), (.int (7 : Int32)), (.ref b_1)])) t
        refine XS.isub X_87.here hx rfl (hb hby at_271) rfl ?_
        exact kt
      have vq_91 := f_88
      obtain ⟨c_91, a_91, q_91, s_91, m_91, H_91, G_91⟩ := vq_91
      have hin_91 : ¬ ((7 : Int32) < 0 ∨ c_91.slots.size ≤ ((7 : Int32)).toNatClampNeg) := inb_of s_91 ⟨by decide, by decide⟩
      have hat_91 : c_91.slots[((7 : Int32)).toNatClampNeg]? = some (.int (own_b0 q1)) := H_91.at hin_91 rfl
      refine own_go (T' := T_87) (g' := (mkF m 273 #[.val (.long q1), .second, .val (.int p2), .val (.int p3), .val (.int p4), .val (.int (0 : Int32)), .val (.int (2 : Int32)), .val (.ref b_1), .val (.ref b_2), .val (.ref b_10), .val (.ref b_13), .val (.ref b_16), .val (.ref b_20), .val (.ref b_1), .val (.ref b_16), .val (.ref r_78), .val (.int (1 : Int32))] [(.int (own_b0 q1)), (.int (7 : Int32)), (.ref b_1)])) (fun t kt => ?_) ?_
      · refine X_87.baloadBytes hx (j := (7 : Int32)) (v := (.int (own_b0 q1))) (by rw [e_87]; exact a_91.1) (State.isArrayOf_alike hZ.alike a_91.2.1) a_91.2.2 hin_91 hat_91 (g := (mkF m 272 #[.val (.long q1), .second, .val (.int p2), .val (.int p3), .val (.int p4), .val (.int (0 : Int32)), .val (.int (2 : Int32)), .val (.ref b_1), .val (.ref b_2), .val (.ref b_10), .val (.ref b_13), .val (.ref b_16), .val (.ref b_20), .val (.ref b_1), .val (.ref b_16), .val (.ref r_78), .val (.int (1 : Int32))] [(.int (7 : Int32)), (.ref b_1), (.int (7 : Int32)), (.ref b_1)])) rfl rfl (hb hby at_272) _ ?_
        exact kt
      refine own_go (T' := T_87) (g' := (mkF m 276 #[.val (.long q1), .second, .val (.int p2), .val (.int p3), .val (.int p4), .val (.int (0 : Int32)), .val (.int (2 : Int32)), .val (.ref b_1), .val (.ref b_2), .val (.ref b_10), .val (.ref b_13), .val (.ref b_16), .val (.ref b_20), .val (.ref b_1), .val (.ref b_16), .val (.ref r_78), .val (.int (1 : Int32))] [(.int (((own_b0 q1) ^^^ (1 : Int32)).toInt8.toInt32)), (.int (7 : Int32)), (.ref b_1)])) (fun t kt => ?_) ?_
      · show Steps p.tables e below (T_87.setTop (mkF m 273 #[.val (.long q1), .second, .val (.int p2), .val (.int p3), .val (.int p4), .val (.int (0 : Int32)), .val (.int (2 : Int32)), .val (.ref b_1), .val (.ref b_2), .val (.ref b_10), .val (.ref b_13), .val (.ref b_16), .val (.ref b_20), .val (.ref b_1), .val (.ref b_16), .val (.ref r_78), .val (.int (1 : Int32))] [(.int (own_b0 q1)), (.int (7 : Int32)), (.ref b_1)])) t
        refine XS.iconst X_87.here hx rfl (hb hby at_273) ?_
        show Steps p.tables e below (T_87.setTop (mkF m 274 #[.val (.long q1), .second, .val (.int p2), .val (.int p3), .val (.int p4), .val (.int (0 : Int32)), .val (.int (2 : Int32)), .val (.ref b_1), .val (.ref b_2), .val (.ref b_10), .val (.ref b_13), .val (.ref b_16), .val (.ref b_20), .val (.ref b_1), .val (.ref b_16), .val (.ref r_78), .val (.int (1 : Int32))] [(.int (1 : Int32)), (.int (own_b0 q1)), (.int (7 : Int32)), (.ref b_1)])) t
        refine XS.ixor X_87.here hx rfl (hb hby at_274) rfl ?_
        show Steps p.tables e below (T_87.setTop (mkF m 275 #[.val (.long q1), .second, .val (.int p2), .val (.int p3), .val (.int p4), .val (.int (0 : Int32)), .val (.int (2 : Int32)), .val (.ref b_1), .val (.ref b_2), .val (.ref b_10), .val (.ref b_13), .val (.ref b_16), .val (.ref b_20), .val (.ref b_1), .val (.ref b_16), .val (.ref r_78), .val (.int (1 : Int32))] [(.int ((own_b0 q1) ^^^ (1 : Int32))), (.int (7 : Int32)), (.ref b_1)])) t
        refine XS.i2b X_87.here hx rfl (hb hby at_275) rfl ?_
        exact kt
      have vq_92 := f_88
      obtain ⟨c_92, a_92, q_92, s_92, m_92, H_92, G_92⟩ := vq_92
      have hin_92 : ¬ ((7 : Int32) < 0 ∨ c_92.slots.size ≤ ((7 : Int32)).toNatClampNeg) := inb_of s_92 ⟨by decide, by decide⟩
      obtain ⟨T_92, h_92, X_92, e_92, W_92, st_92⟩ := stB X_87 hx hZ e_87 a_92 (j := (7 : Int32)) hin_92 (g := (mkF m 276 #[.val (.long q1), .second, .val (.int p2), .val (.int p3), .val (.int p4), .val (.int (0 : Int32)), .val (.int (2 : Int32)), .val (.ref b_1), .val (.ref b_2), .val (.ref b_10), .val (.ref b_13), .val (.ref b_16), .val (.ref b_20), .val (.ref b_1), .val (.ref b_16), .val (.ref r_78), .val (.int (1 : Int32))] [(.int (((own_b0 q1) ^^^ (1 : Int32)).toInt8.toInt32)), (.int (7 : Int32)), (.ref b_1)])) rfl rfl (hb hby at_276)
      have V_92 : Arv Z h_92 b_1 k_1 .byte (8 : Int32) [(.int (own_by q1 56)), (.int (own_by q1 48)), (.int (own_by q1 40)), (.int (own_by q1 32)), (.int (own_by q1 24)), (.int (own_by q1 16)), (.int (own_by q1 8)), (.int (nar .byte (((own_b0 q1) ^^^ (1 : Int32)).toInt8.toInt32)))] (.int (0 : Int32)) := Arv.set a_92 q_92 s_92 m_92 H_92 G_92 (fits_nar_byte _) W_92 7 rfl (Nat.le_of_ble_eq_true rfl)
      have Z_92 : n0 ≤ h_92.size := Nat.le_trans Z_78 (Keep.of_wr W_92).1
      have N_92 := Fr.snoc X_92 N_87 g_b_1
      refine own_go (g' := (mkF m 277 #[.val (.long q1), .second, .val (.int p2), .val (.int p3), .val (.int p4), .val (.int (0 : Int32)), .val (.int (2 : Int32)), .val (.ref b_1), .val (.ref b_2), .val (.ref b_10), .val (.ref b_13), .val (.ref b_16), .val (.ref b_20), .val (.ref b_1), .val (.ref b_16), .val (.ref r_78), .val (.int (1 : Int32))] [])) st_92 ?_
      refine own_go (T' := T_92) (g' := (mkF m 288 #[.val (.long q1), .second, .val (.int p2), .val (.int p3), .val (.int p4), .val (.int (0 : Int32)), .val (.int (2 : Int32)), .val (.ref b_1), .val (.ref b_2), .val (.ref b_10), .val (.ref b_13), .val (.ref b_16), .val (.ref b_20), .val (.ref b_1), .val (.ref b_16), .val (.ref r_78), .val (.int (1 : Int32))] [(.int (0 : Int32)), (.ref b_16), (.int (0 : Int32)), (.ref b_16)])) (fun t kt => ?_) ?_
      · show Steps p.tables e below (T_92.setTop (mkF m 277 #[.val (.long q1), .second, .val (.int p2), .val (.int p3), .val (.int p4), .val (.int (0 : Int32)), .val (.int (2 : Int32)), .val (.ref b_1), .val (.ref b_2), .val (.ref b_10), .val (.ref b_13), .val (.ref b_16), .val (.ref b_20), .val (.ref b_1), .val (.ref b_16), .val (.ref r_78), .val (.int (1 : Int32))] [])) t
        refine XS.iload X_92.here hx rfl (hb hby at_277) rfl ?_
        show Steps p.tables e below (T_92.setTop (mkF m 279 #[.val (.long q1), .second, .val (.int p2), .val (.int p3), .val (.int p4), .val (.int (0 : Int32)), .val (.int (2 : Int32)), .val (.ref b_1), .val (.ref b_2), .val (.ref b_10), .val (.ref b_13), .val (.ref b_16), .val (.ref b_20), .val (.ref b_1), .val (.ref b_16), .val (.ref r_78), .val (.int (1 : Int32))] [(.int (2 : Int32))])) t
        refine XS.ifNo X_92.here hx rfl (hb hby at_279) rfl ((if0 _ _).trans (tlt (by decide : (0 : Int32) < (2 : Int32))).2.2.2) ?_
        show Steps p.tables e below (T_92.setTop (mkF m 282 #[.val (.long q1), .second, .val (.int p2), .val (.int p3), .val (.int p4), .val (.int (0 : Int32)), .val (.int (2 : Int32)), .val (.ref b_1), .val (.ref b_2), .val (.ref b_10), .val (.ref b_13), .val (.ref b_16), .val (.ref b_20), .val (.ref b_1), .val (.ref b_16), .val (.ref r_78), .val (.int (1 : Int32))] [])) t
        refine XS.aload X_92.here hx rfl (hb hby at_282) rfl rfl ?_
        show Steps p.tables e below (T_92.setTop (mkF m 284 #[.val (.long q1), .second, .val (.int p2), .val (.int p3), .val (.int p4), .val (.int (0 : Int32)), .val (.int (2 : Int32)), .val (.ref b_1), .val (.ref b_2), .val (.ref b_10), .val (.ref b_13), .val (.ref b_16), .val (.ref b_20), .val (.ref b_1), .val (.ref b_16), .val (.ref r_78), .val (.int (1 : Int32))] [(.ref b_16)])) t
        refine XS.iconst X_92.here hx rfl (hb hby at_284) ?_
        show Steps p.tables e below (T_92.setTop (mkF m 285 #[.val (.long q1), .second, .val (.int p2), .val (.int p3), .val (.int p4), .val (.int (0 : Int32)), .val (.int (2 : Int32)), .val (.ref b_1), .val (.ref b_2), .val (.ref b_10), .val (.ref b_13), .val (.ref b_16), .val (.ref b_20), .val (.ref b_1), .val (.ref b_16), .val (.ref r_78), .val (.int (1 : Int32))] [(.int (0 : Int32)), (.ref b_16)])) t
        refine XS.aload X_92.here hx rfl (hb hby at_285) rfl rfl ?_
        show Steps p.tables e below (T_92.setTop (mkF m 287 #[.val (.long q1), .second, .val (.int p2), .val (.int p3), .val (.int p4), .val (.int (0 : Int32)), .val (.int (2 : Int32)), .val (.ref b_1), .val (.ref b_2), .val (.ref b_10), .val (.ref b_13), .val (.ref b_16), .val (.ref b_20), .val (.ref b_1), .val (.ref b_16), .val (.ref r_78), .val (.int (1 : Int32))] [(.ref b_16), (.int (0 : Int32)), (.ref b_16)])) t
        refine XS.iconst X_92.here hx rfl (hb hby at_287) ?_
        exact kt
      have f_94 := ((f_77.keep K_78 nin0).other W_92 (Ne.symm ne_b_1_b_16))
      have vq_93 := f_94
      obtain ⟨c_93, a_93, q_93, s_93, m_93, H_93, G_93⟩ := vq_93
      have hin_93 : ¬ ((0 : Int32) < 0 ∨ c_93.slots.size ≤ ((0 : Int32)).toNatClampNeg) := inb_of s_93 ⟨by decide, by decide⟩
      have hat_93 : c_93.slots[((0 : Int32)).toNatClampNeg]? = some (.int (nar .byte (p3.toInt8.toInt32))) := H_93.at hin_93 rfl
      refine own_go (T' := T_92) (g' := (mkF m 289 #[.val (.long q1), .second, .val (.int p2), .val (.int p3), .val (.int p4), .val (.int (0 : Int32)), .val (.int (2 : Int32)), .val (.ref b_1), .val (.ref b_2), .val (.ref b_10), .val (.ref b_13), .val (.ref b_16), .val (.ref b_20), .val (.ref b_1), .val (.ref b_16), .val (.ref r_78), .val (.int (1 : Int32))] [(.int (nar .byte (p3.toInt8.toInt32))), (.int (0 : Int32)), (.ref b_16)])) (fun t kt => ?_) ?_
      · refine X_92.baloadBytes hx (j := (0 : Int32)) (v := (.int (nar .byte (p3.toInt8.toInt32)))) (by rw [e_92]; exact a_93.1) (State.isArrayOf_alike hZ.alike a_93.2.1) a_93.2.2 hin_93 hat_93 (g := (mkF m 288 #[.val (.long q1), .second, .val (.int p2), .val (.int p3), .val (.int p4), .val (.int (0 : Int32)), .val (.int (2 : Int32)), .val (.ref b_1), .val (.ref b_2), .val (.ref b_10), .val (.ref b_13), .val (.ref b_16), .val (.ref b_20), .val (.ref b_1), .val (.ref b_16), .val (.ref r_78), .val (.int (1 : Int32))] [(.int (0 : Int32)), (.ref b_16), (.int (0 : Int32)), (.ref b_16)])) rfl rfl (hb hby at_288) _ ?_
        exact kt
      refine own_go (T' := T_92) (g' := (mkF m 292 #[.val (.long q1), .second, .val (.int p2), .val (.int p3), .val (.int p4), .val (.int (0 : Int32)), .val (.int (2 : Int32)), .val (.ref b_1), .val (.ref b_2), .val (.ref b_10), .val (.ref b_13), .val (.ref b_16), .val (.ref b_20), .val (.ref b_1), .val (.ref b_16), .val (.ref r_78), .val (.int (1 : Int32))] [(.int (((nar .byte (p3.toInt8.toInt32)) ^^^ (1 : Int32)).toInt8.toInt32)), (.int (0 : Int32)), (.ref b_16)])) (fun t kt => ?_) ?_
      · show Steps p.tables e below (T_92.setTop (mkF m 289 #[.val (.long q1), .second, .val (.int p2), .val (.int p3), .val (.int p4), .val (.int (0 : Int32)), .val (.int (2 : Int32)), .val (.ref b_1), .val (.ref b_2), .val (.ref b_10), .val (.ref b_13), .val (.ref b_16), .val (.ref b_20), .val (.ref b_1), .val (.ref b_16), .val (.ref r_78), .val (.int (1 : Int32))] [(.int (nar .byte (p3.toInt8.toInt32))), (.int (0 : Int32)), (.ref b_16)])) t
        refine XS.iconst X_92.here hx rfl (hb hby at_289) ?_
        show Steps p.tables e below (T_92.setTop (mkF m 290 #[.val (.long q1), .second, .val (.int p2), .val (.int p3), .val (.int p4), .val (.int (0 : Int32)), .val (.int (2 : Int32)), .val (.ref b_1), .val (.ref b_2), .val (.ref b_10), .val (.ref b_13), .val (.ref b_16), .val (.ref b_20), .val (.ref b_1), .val (.ref b_16), .val (.ref r_78), .val (.int (1 : Int32))] [(.int (1 : Int32)), (.int (nar .byte (p3.toInt8.toInt32))), (.int (0 : Int32)), (.ref b_16)])) t
        refine XS.ixor X_92.here hx rfl (hb hby at_290) rfl ?_
        show Steps p.tables e below (T_92.setTop (mkF m 291 #[.val (.long q1), .second, .val (.int p2), .val (.int p3), .val (.int p4), .val (.int (0 : Int32)), .val (.int (2 : Int32)), .val (.ref b_1), .val (.ref b_2), .val (.ref b_10), .val (.ref b_13), .val (.ref b_16), .val (.ref b_20), .val (.ref b_1), .val (.ref b_16), .val (.ref r_78), .val (.int (1 : Int32))] [(.int ((nar .byte (p3.toInt8.toInt32)) ^^^ (1 : Int32))), (.int (0 : Int32)), (.ref b_16)])) t
        refine XS.i2b X_92.here hx rfl (hb hby at_291) rfl ?_
        exact kt
      have vq_95 := f_94
      obtain ⟨c_95, a_95, q_95, s_95, m_95, H_95, G_95⟩ := vq_95
      have hin_95 : ¬ ((0 : Int32) < 0 ∨ c_95.slots.size ≤ ((0 : Int32)).toNatClampNeg) := inb_of s_95 ⟨by decide, by decide⟩
      obtain ⟨T_95, h_95, X_95, e_95, W_95, st_95⟩ := stB X_92 hx hZ e_92 a_95 (j := (0 : Int32)) hin_95 (g := (mkF m 292 #[.val (.long q1), .second, .val (.int p2), .val (.int p3), .val (.int p4), .val (.int (0 : Int32)), .val (.int (2 : Int32)), .val (.ref b_1), .val (.ref b_2), .val (.ref b_10), .val (.ref b_13), .val (.ref b_16), .val (.ref b_20), .val (.ref b_1), .val (.ref b_16), .val (.ref r_78), .val (.int (1 : Int32))] [(.int (((nar .byte (p3.toInt8.toInt32)) ^^^ (1 : Int32)).toInt8.toInt32)), (.int (0 : Int32)), (.ref b_16)])) rfl rfl (hb hby at_292)
      have V_95 : Arv Z h_95 b_16 k_16 .byte (2 : Int32) [(.int (nar .byte (((nar .byte (p3.toInt8.toInt32)) ^^^ (1 : Int32)).toInt8.toInt32))), (.int (nar .byte (((p3.toUInt32 >>> ((8 : Int32) &&& 31).toUInt32).toInt32).toInt8.toInt32)))] (.int (0 : Int32)) := Arv.set a_95 q_95 s_95 m_95 H_95 G_95 (fits_nar_byte _) W_95 0 rfl (Nat.le_of_ble_eq_true rfl)
      have Z_95 : n0 ≤ h_95.size := Nat.le_trans Z_92 (Keep.of_wr W_95).1
      have N_95 := Fr.snoc X_95 N_92 g_b_16
      refine own_go (g' := (mkF m 293 #[.val (.long q1), .second, .val (.int p2), .val (.int p3), .val (.int p4), .val (.int (0 : Int32)), .val (.int (2 : Int32)), .val (.ref b_1), .val (.ref b_2), .val (.ref b_10), .val (.ref b_13), .val (.ref b_16), .val (.ref b_20), .val (.ref b_1), .val (.ref b_16), .val (.ref r_78), .val (.int (1 : Int32))] [])) st_95 ?_
      refine own_go (T' := T_95) (g' := (mkF m 297 #[.val (.long q1), .second, .val (.int p2), .val (.int p3), .val (.int p4), .val (.int (0 : Int32)), .val (.int (2 : Int32)), .val (.ref b_1), .val (.ref b_2), .val (.ref b_10), .val (.ref b_13), .val (.ref b_16), .val (.ref b_20), .val (.ref b_1), .val (.ref b_16), .val (.ref r_78), .val (.int (1 : Int32))] [(.int (7 : Int32)), (.ref r_78)])) (fun t kt => ?_) ?_
      · show Steps p.tables e below (T_95.setTop (mkF m 293 #[.val (.long q1), .second, .val (.int p2), .val (.int p3), .val (.int p4), .val (.int (0 : Int32)), .val (.int (2 : Int32)), .val (.ref b_1), .val (.ref b_2), .val (.ref b_10), .val (.ref b_13), .val (.ref b_16), .val (.ref b_20), .val (.ref b_1), .val (.ref b_16), .val (.ref r_78), .val (.int (1 : Int32))] [])) t
        refine XS.aload X_95.here hx rfl (hb hby at_293) rfl rfl ?_
        show Steps p.tables e below (T_95.setTop (mkF m 295 #[.val (.long q1), .second, .val (.int p2), .val (.int p3), .val (.int p4), .val (.int (0 : Int32)), .val (.int (2 : Int32)), .val (.ref b_1), .val (.ref b_2), .val (.ref b_10), .val (.ref b_13), .val (.ref b_16), .val (.ref b_20), .val (.ref b_1), .val (.ref b_16), .val (.ref r_78), .val (.int (1 : Int32))] [(.ref r_78)])) t
        refine XS.bipush X_95.here hx rfl (hb hby at_295) ?_
        exact kt
      have f_97 := ((V_78.other W_92 (Ne.symm ne_b_1_r_78)).other W_95 (Ne.symm ne_b_16_r_78))
      have vq_96 := f_97
      obtain ⟨c_96, a_96, q_96, s_96, m_96, H_96, G_96⟩ := vq_96
      have hin_96 : ¬ ((7 : Int32) < 0 ∨ c_96.slots.size ≤ ((7 : Int32)).toNatClampNeg) := inb_of s_96 ⟨by decide, by decide⟩
      have hat_96 : c_96.slots[((7 : Int32)).toNatClampNeg]? = some (.int (own_b0 q1)) := H_96.at hin_96 rfl
      refine own_go (T' := T_95) (g' := (mkF m 298 #[.val (.long q1), .second, .val (.int p2), .val (.int p3), .val (.int p4), .val (.int (0 : Int32)), .val (.int (2 : Int32)), .val (.ref b_1), .val (.ref b_2), .val (.ref b_10), .val (.ref b_13), .val (.ref b_16), .val (.ref b_20), .val (.ref b_1), .val (.ref b_16), .val (.ref r_78), .val (.int (1 : Int32))] [(.int (own_b0 q1))])) (fun t kt => ?_) ?_
      · refine X_95.baloadBytes hx (j := (7 : Int32)) (v := (.int (own_b0 q1))) (by rw [e_95]; exact a_96.1) (State.isArrayOf_alike hZ.alike a_96.2.1) a_96.2.2 hin_96 hat_96 (g := (mkF m 297 #[.val (.long q1), .second, .val (.int p2), .val (.int p3), .val (.int p4), .val (.int (0 : Int32)), .val (.int (2 : Int32)), .val (.ref b_1), .val (.ref b_2), .val (.ref b_10), .val (.ref b_13), .val (.ref b_16), .val (.ref b_20), .val (.ref b_1), .val (.ref b_16), .val (.ref r_78), .val (.int (1 : Int32))] [(.int (7 : Int32)), (.ref r_78)])) rfl rfl (hb hby at_297) _ ?_
        exact kt
      refine own_go (T' := T_95) (g' := (mkF m 313 #[.val (.long q1), .second, .val (.int p2), .val (.int p3), .val (.int p4), .val (.int (0 : Int32)), .val (.int (2 : Int32)), .val (.ref b_1), .val (.ref b_2), .val (.ref b_10), .val (.ref b_13), .val (.ref b_16), .val (.ref b_20), .val (.ref b_1), .val (.ref b_16), .val (.ref r_78), .val (.int (1 : Int32))] [(.int (8 : Int32)), (.ref r_78)])) (fun t kt => ?_) ?_
      · show Steps p.tables e below (T_95.setTop (mkF m 298 #[.val (.long q1), .second, .val (.int p2), .val (.int p3), .val (.int p4), .val (.int (0 : Int32)), .val (.int (2 : Int32)), .val (.ref b_1), .val (.ref b_2), .val (.ref b_10), .val (.ref b_13), .val (.ref b_16), .val (.ref b_20), .val (.ref b_1), .val (.ref b_16), .val (.ref r_78), .val (.int (1 : Int32))] [(.int (own_b0 q1))])) t
        refine XS.lloadN X_95.here hx rfl (hb hby at_298) rfl ?_
        show Steps p.tables e below (T_95.setTop (mkF m 299 #[.val (.long q1), .second, .val (.int p2), .val (.int p3), .val (.int p4), .val (.int (0 : Int32)), .val (.int (2 : Int32)), .val (.ref b_1), .val (.ref b_2), .val (.ref b_10), .val (.ref b_13), .val (.ref b_16), .val (.ref b_20), .val (.ref b_1), .val (.ref b_16), .val (.ref r_78), .val (.int (1 : Int32))] [(.long q1), (.int (own_b0 q1))])) t
        refine XS.l2i X_95.here hx rfl (hb hby at_299) rfl ?_
        show Steps p.tables e below (T_95.setTop (mkF m 300 #[.val (.long q1), .second, .val (.int p2), .val (.int p3), .val (.int p4), .val (.int (0 : Int32)), .val (.int (2 : Int32)), .val (.ref b_1), .val (.ref b_2), .val (.ref b_10), .val (.ref b_13), .val (.ref b_16), .val (.ref b_20), .val (.ref b_1), .val (.ref b_16), .val (.ref r_78), .val (.int (1 : Int32))] [(.int (q1.toInt32)), (.int (own_b0 q1))])) t
        refine XS.i2b X_95.here hx rfl (hb hby at_300) rfl ?_
        show Steps p.tables e below (T_95.setTop (mkF m 301 #[.val (.long q1), .second, .val (.int p2), .val (.int p3), .val (.int p4), .val (.int (0 : Int32)), .val (.int (2 : Int32)), .val (.ref b_1), .val (.ref b_2), .val (.ref b_10), .val (.ref b_13), .val (.ref b_16), .val (.ref b_20), .val (.ref b_1), .val (.ref b_16), .val (.ref r_78), .val (.int (1 : Int32))] [(.int ((q1.toInt32).toInt8.toInt32)), (.int (own_b0 q1))])) t
        refine XS.icmpNo X_95.here hx rfl (hb hby at_301) rfl (teq (own_b0_eq q1 : (own_b0 q1) = ((q1.toInt32).toInt8.toInt32))).2 ?_
        show Steps p.tables e below (T_95.setTop (mkF m 304 #[.val (.long q1), .second, .val (.int p2), .val (.int p3), .val (.int p4), .val (.int (0 : Int32)), .val (.int (2 : Int32)), .val (.ref b_1), .val (.ref b_2), .val (.ref b_10), .val (.ref b_13), .val (.ref b_16), .val (.ref b_20), .val (.ref b_1), .val (.ref b_16), .val (.ref r_78), .val (.int (1 : Int32))] [])) t
        refine XS.iload X_95.here hx rfl (hb hby at_304) rfl ?_
        show Steps p.tables e below (T_95.setTop (mkF m 306 #[.val (.long q1), .second, .val (.int p2), .val (.int p3), .val (.int p4), .val (.int (0 : Int32)), .val (.int (2 : Int32)), .val (.ref b_1), .val (.ref b_2), .val (.ref b_10), .val (.ref b_13), .val (.ref b_16), .val (.ref b_20), .val (.ref b_1), .val (.ref b_16), .val (.ref r_78), .val (.int (1 : Int32))] [(.int (2 : Int32))])) t
        refine XS.ifNo X_95.here hx rfl (hb hby at_306) rfl ((if0 _ _).trans (feq (by decide : ¬ ((2 : Int32) = (0 : Int32)))).1) ?_
        show Steps p.tables e below (T_95.setTop (mkF m 309 #[.val (.long q1), .second, .val (.int p2), .val (.int p3), .val (.int p4), .val (.int (0 : Int32)), .val (.int (2 : Int32)), .val (.ref b_1), .val (.ref b_2), .val (.ref b_10), .val (.ref b_13), .val (.ref b_16), .val (.ref b_20), .val (.ref b_1), .val (.ref b_16), .val (.ref r_78), .val (.int (1 : Int32))] [])) t
        refine XS.aload X_95.here hx rfl (hb hby at_309) rfl rfl ?_
        show Steps p.tables e below (T_95.setTop (mkF m 311 #[.val (.long q1), .second, .val (.int p2), .val (.int p3), .val (.int p4), .val (.int (0 : Int32)), .val (.int (2 : Int32)), .val (.ref b_1), .val (.ref b_2), .val (.ref b_10), .val (.ref b_13), .val (.ref b_16), .val (.ref b_20), .val (.ref b_1), .val (.ref b_16), .val (.ref r_78), .val (.int (1 : Int32))] [(.ref r_78)])) t
        refine XS.bipush X_95.here hx rfl (hb hby at_311) ?_
        exact kt
      have vq_98 := f_97
      obtain ⟨c_98, a_98, q_98, s_98, m_98, H_98, G_98⟩ := vq_98
      have hin_98 : ¬ ((8 : Int32) < 0 ∨ c_98.slots.size ≤ ((8 : Int32)).toNatClampNeg) := inb_of s_98 ⟨by decide, by decide⟩
      have hat_98 : c_98.slots[((8 : Int32)).toNatClampNeg]? = some (.int (nar .byte (p3.toInt8.toInt32))) := H_98.at hin_98 rfl
      refine own_go (T' := T_95) (g' := (mkF m 314 #[.val (.long q1), .second, .val (.int p2), .val (.int p3), .val (.int p4), .val (.int (0 : Int32)), .val (.int (2 : Int32)), .val (.ref b_1), .val (.ref b_2), .val (.ref b_10), .val (.ref b_13), .val (.ref b_16), .val (.ref b_20), .val (.ref b_1), .val (.ref b_16), .val (.ref r_78), .val (.int (1 : Int32))] [(.int (nar .byte (p3.toInt8.toInt32)))])) (fun t kt => ?_) ?_
      · refine X_95.baloadBytes hx (j := (8 : Int32)) (v := (.int (nar .byte (p3.toInt8.toInt32)))) (by rw [e_95]; exact a_98.1) (State.isArrayOf_alike hZ.alike a_98.2.1) a_98.2.2 hin_98 hat_98 (g := (mkF m 313 #[.val (.long q1), .second, .val (.int p2), .val (.int p3), .val (.int p4), .val (.int (0 : Int32)), .val (.int (2 : Int32)), .val (.ref b_1), .val (.ref b_2), .val (.ref b_10), .val (.ref b_13), .val (.ref b_16), .val (.ref b_20), .val (.ref b_1), .val (.ref b_16), .val (.ref r_78), .val (.int (1 : Int32))] [(.int (8 : Int32)), (.ref r_78)])) rfl rfl (hb hby at_313) _ ?_
        exact kt
      refine own_go (T' := T_95) (g' := (mkF m 324 #[.val (.long q1), .second, .val (.int p2), .val (.int p3), .val (.int p4), .val (.int (0 : Int32)), .val (.int (2 : Int32)), .val (.ref b_1), .val (.ref b_2), .val (.ref b_10), .val (.ref b_13), .val (.ref b_16), .val (.ref b_20), .val (.ref b_1), .val (.ref b_16), .val (.ref r_78), .val (.int (1 : Int32))] [(.int (1 : Int32))])) (fun t kt => ?_) ?_
      · show Steps p.tables e below (T_95.setTop (mkF m 314 #[.val (.long q1), .second, .val (.int p2), .val (.int p3), .val (.int p4), .val (.int (0 : Int32)), .val (.int (2 : Int32)), .val (.ref b_1), .val (.ref b_2), .val (.ref b_10), .val (.ref b_13), .val (.ref b_16), .val (.ref b_20), .val (.ref b_1), .val (.ref b_16), .val (.ref r_78), .val (.int (1 : Int32))] [(.int (nar .byte (p3.toInt8.toInt32)))])) t
        refine XS.iloadN X_95.here hx rfl (hb hby at_314) rfl ?_
        show Steps p.tables e below (T_95.setTop (mkF m 315 #[.val (.long q1), .second, .val (.int p2), .val (.int p3), .val (.int p4), .val (.int (0 : Int32)), .val (.int (2 : Int32)), .val (.ref b_1), .val (.ref b_2), .val (.ref b_10), .val (.ref b_13), .val (.ref b_16), .val (.ref b_20), .val (.ref b_1), .val (.ref b_16), .val (.ref r_78), .val (.int (1 : Int32))] [(.int p3), (.int (nar .byte (p3.toInt8.toInt32)))])) t
        refine XS.i2b X_95.here hx rfl (hb hby at_315) rfl ?_
        show Steps p.tables e below (T_95.setTop (mkF m 316 #[.val (.long q1), .second, .val (.int p2), .val (.int p3), .val (.int p4), .val (.int (0 : Int32)), .val (.int (2 : Int32)), .val (.ref b_1), .val (.ref b_2), .val (.ref b_10), .val (.ref b_13), .val (.ref b_16), .val (.ref b_20), .val (.ref b_1), .val (.ref b_16), .val (.ref r_78), .val (.int (1 : Int32))] [(.int (p3.toInt8.toInt32)), (.int (nar .byte (p3.toInt8.toInt32)))])) t
        refine XS.icmpNo X_95.here hx rfl (hb hby at_316) rfl (teq (own_nar _ : (nar .byte (p3.toInt8.toInt32)) = (p3.toInt8.toInt32))).2 ?_
        show Steps p.tables e below (T_95.setTop (mkF m 319 #[.val (.long q1), .second, .val (.int p2), .val (.int p3), .val (.int p4), .val (.int (0 : Int32)), .val (.int (2 : Int32)), .val (.ref b_1), .val (.ref b_2), .val (.ref b_10), .val (.ref b_13), .val (.ref b_16), .val (.ref b_20), .val (.ref b_1), .val (.ref b_16), .val (.ref r_78), .val (.int (1 : Int32))] [])) t
        refine XS.iconst X_95.here hx rfl (hb hby at_319) ?_
        show Steps p.tables e below (T_95.setTop (mkF m 320 #[.val (.long q1), .second, .val (.int p2), .val (.int p3), .val (.int p4), .val (.int (0 : Int32)), .val (.int (2 : Int32)), .val (.ref b_1), .val (.ref b_2), .val (.ref b_10), .val (.ref b_13), .val (.ref b_16), .val (.ref b_20), .val (.ref b_1), .val (.ref b_16), .val (.ref r_78), .val (.int (1 : Int32))] [(.int (1 : Int32))])) t
        refine XS.goto X_95.here hx rfl (pc0 := 320) (pc' := 324) rfl (hb hby at_320) (by decide) (by decide) ?_
        exact kt
      obtain ⟨fs, hr, hrun, hended, hW, hsame⟩ := X_95.leave (v := some (.int (1 : Int32))) (fun h => by rw [Bd.returns] at h; cases h)
      refine ⟨_, _, ?_, hrun, hended, _, _, rfl, ?_, ⟨_, rfl⟩, hW, hsame.mono (by decide) (by decide)⟩
      · exact retN X_95 hx (t := .boolean) Bd.returns (by simp) (hb hby at_324) hr
      · show Q_rm0 Z _ _ _ _ h0 n0 _ T_95.heap _
        rw [e_95]
        exact ⟨rfl, N_95⟩
    · refine own_go (T' := T_33) (g' := (mkF m 189 #[.val (.long q1), .second, .val (.int p2), .val (.int p3), .val (.int p4), .val (.int (0 : Int32)), .val (.int (3 : Int32)), .val (.ref b_1), .val (.ref b_2), .val (.ref b_10), .val (.ref b_13), .val (.ref b_16), .val (.ref b_20), .val (.ref b_1), .val (.ref b_20), .unset, .unset] [(.ref b_20), (.ref b_1)])) (fun t kt => ?_) ?_
      · show Steps p.tables e below (T_33.setTop (mkF m 135 #[.val (.long q1), .second, .val (.int p2), .val (.int p3), .val (.int p4), .val (.int (0 : Int32)), .val (.int (3 : Int32)), .val (.ref b_1), .val (.ref b_2), .val (.ref b_10), .val (.ref b_13), .val (.ref b_16), .val (.ref b_20), .unset, .unset, .unset, .unset] [])) t
        refine XS.iload X_33.here hx rfl (hb hby at_135) rfl ?_
        show Steps p.tables e below (T_33.setTop (mkF m 137 #[.val (.long q1), .second, .val (.int p2), .val (.int p3), .val (.int p4), .val (.int (0 : Int32)), .val (.int (3 : Int32)), .val (.ref b_1), .val (.ref b_2), .val (.ref b_10), .val (.ref b_13), .val (.ref b_16), .val (.ref b_20), .unset, .unset, .unset, .unset] [(.int (0 : Int32))])) t
        refine XS.ifYes X_33.here hx rfl (pc0 := 137) (pc' := 145) rfl (hb hby at_137) rfl ((if0 _ _).trans (teq (by decide : (0 : Int32) = (0 : Int32))).1) (by decide) (by decide) ?_
        show Steps p.tables e below (T_33.setTop (mkF m 145 #[.val (.long q1), .second, .val (.int p2), .val (.int p3), .val (.int p4), .val (.int (0 : Int32)), .val (.int (3 : Int32)), .val (.ref b_1), .val (.ref b_2), .val (.ref b_10), .val (.ref b_13), .val (.ref b_16), .val (.ref b_20), .unset, .unset, .unset, .unset] [])) t
        refine XS.aload X_33.here hx rfl (hb hby at_145) rfl rfl ?_
        show Steps p.tables e below (T_33.setTop (mkF m 147 #[.val (.long q1), .second, .val (.int p2), .val (.int p3), .val (.int p4), .val (.int (0 : Int32)), .val (.int (3 : Int32)), .val (.ref b_1), .val (.ref b_2), .val (.ref b_10), .val (.ref b_13), .val (.ref b_16), .val (.ref b_20), .unset, .unset, .unset, .unset] [(.ref b_1)])) t
        refine XS.astore X_33.here hx rfl (hb hby at_147) rfl rfl (l' := #[.val (.long q1), .second, .val (.int p2), .val (.int p3), .val (.int p4), .val (.int (0 : Int32)), .val (.int (3 : Int32)), .val (.ref b_1), .val (.ref b_2), .val (.ref b_10), .val (.ref b_13), .val (.ref b_16), .val (.ref b_20), .val (.ref b_1), .unset, .unset, .unset]) rfl ?_
        show Steps p.tables e below (T_33.setTop (mkF m 149 #[.val (.long q1), .second, .val (.int p2), .val (.int p3), .val (.int p4), .val (.int (0 : Int32)), .val (.int (3 : Int32)), .val (.ref b_1), .val (.ref b_2), .val (.ref b_10), .val (.ref b_13), .val (.ref b_16), .val (.ref b_20), .val (.ref b_1), .unset, .unset, .unset] [])) t
        refine XS.iload X_33.here hx rfl (hb hby at_149) rfl ?_
        show Steps p.tables e below (T_33.setTop (mkF m 151 #[.val (.long q1), .second, .val (.int p2), .val (.int p3), .val (.int p4), .val (.int (0 : Int32)), .val (.int (3 : Int32)), .val (.ref b_1), .val (.ref b_2), .val (.ref b_10), .val (.ref b_13), .val (.ref b_16), .val (.ref b_20), .val (.ref b_1), .unset, .unset, .unset] [(.int (3 : Int32))])) t
        refine XS.ifYes X_33.here hx rfl (pc0 := 151) (pc' := 159) rfl (hb hby at_151) rfl ((if0 _ _).trans (feq (by decide : ¬ ((3 : Int32) = (0 : Int32)))).2) (by decide) (by decide) ?_
        show Steps p.tables e below (T_33.setTop (mkF m 159 #[.val (.long q1), .second, .val (.int p2), .val (.int p3), .val (.int p4), .val (.int (0 : Int32)), .val (.int (3 : Int32)), .val (.ref b_1), .val (.ref b_2), .val (.ref b_10), .val (.ref b_13), .val (.ref b_16), .val (.ref b_20), .val (.ref b_1), .unset, .unset, .unset] [])) t
        refine XS.iload X_33.here hx rfl (hb hby at_159) rfl ?_
        show Steps p.tables e below (T_33.setTop (mkF m 161 #[.val (.long q1), .second, .val (.int p2), .val (.int p3), .val (.int p4), .val (.int (0 : Int32)), .val (.int (3 : Int32)), .val (.ref b_1), .val (.ref b_2), .val (.ref b_10), .val (.ref b_13), .val (.ref b_16), .val (.ref b_20), .val (.ref b_1), .unset, .unset, .unset] [(.int (3 : Int32))])) t
        refine XS.iconst X_33.here hx rfl (hb hby at_161) ?_
        show Steps p.tables e below (T_33.setTop (mkF m 162 #[.val (.long q1), .second, .val (.int p2), .val (.int p3), .val (.int p4), .val (.int (0 : Int32)), .val (.int (3 : Int32)), .val (.ref b_1), .val (.ref b_2), .val (.ref b_10), .val (.ref b_13), .val (.ref b_16), .val (.ref b_20), .val (.ref b_1), .unset, .unset, .unset] [(.int (1 : Int32)), (.int (3 : Int32))])) t
        refine XS.icmpYes X_33.here hx rfl (pc0 := 162) (pc' := 170) rfl (hb hby at_162) rfl (feq (by decide : ¬ ((3 : Int32) = (1 : Int32)))).2 (by decide) (by decide) ?_
        show Steps p.tables e below (T_33.setTop (mkF m 170 #[.val (.long q1), .second, .val (.int p2), .val (.int p3), .val (.int p4), .val (.int (0 : Int32)), .val (.int (3 : Int32)), .val (.ref b_1), .val (.ref b_2), .val (.ref b_10), .val (.ref b_13), .val (.ref b_16), .val (.ref b_20), .val (.ref b_1), .unset, .unset, .unset] [])) t
        refine XS.iload X_33.here hx rfl (hb hby at_170) rfl ?_
        show Steps p.tables e below (T_33.setTop (mkF m 172 #[.val (.long q1), .second, .val (.int p2), .val (.int p3), .val (.int p4), .val (.int (0 : Int32)), .val (.int (3 : Int32)), .val (.ref b_1), .val (.ref b_2), .val (.ref b_10), .val (.ref b_13), .val (.ref b_16), .val (.ref b_20), .val (.ref b_1), .unset, .unset, .unset] [(.int (3 : Int32))])) t
        refine XS.iconst X_33.here hx rfl (hb hby at_172) ?_
        show Steps p.tables e below (T_33.setTop (mkF m 173 #[.val (.long q1), .second, .val (.int p2), .val (.int p3), .val (.int p4), .val (.int (0 : Int32)), .val (.int (3 : Int32)), .val (.ref b_1), .val (.ref b_2), .val (.ref b_10), .val (.ref b_13), .val (.ref b_16), .val (.ref b_20), .val (.ref b_1), .unset, .unset, .unset] [(.int (2 : Int32)), (.int (3 : Int32))])) t
        refine XS.icmpYes X_33.here hx rfl (pc0 := 173) (pc' := 181) rfl (hb hby at_173) rfl (feq (by decide : ¬ ((3 : Int32) = (2 : Int32)))).2 (by decide) (by decide) ?_
        show Steps p.tables e below (T_33.setTop (mkF m 181 #[.val (.long q1), .second, .val (.int p2), .val (.int p3), .val (.int p4), .val (.int (0 : Int32)), .val (.int (3 : Int32)), .val (.ref b_1), .val (.ref b_2), .val (.ref b_10), .val (.ref b_13), .val (.ref b_16), .val (.ref b_20), .val (.ref b_1), .unset, .unset, .unset] [])) t
        refine XS.aload X_33.here hx rfl (hb hby at_181) rfl rfl ?_
        show Steps p.tables e below (T_33.setTop (mkF m 183 #[.val (.long q1), .second, .val (.int p2), .val (.int p3), .val (.int p4), .val (.int (0 : Int32)), .val (.int (3 : Int32)), .val (.ref b_1), .val (.ref b_2), .val (.ref b_10), .val (.ref b_13), .val (.ref b_16), .val (.ref b_20), .val (.ref b_1), .unset, .unset, .unset] [(.ref b_20)])) t
        refine XS.astore X_33.here hx rfl (hb hby at_183) rfl rfl (l' := #[.val (.long q1), .second, .val (.int p2), .val (.int p3), .val (.int p4), .val (.int (0 : Int32)), .val (.int (3 : Int32)), .val (.ref b_1), .val (.ref b_2), .val (.ref b_10), .val (.ref b_13), .val (.ref b_16), .val (.ref b_20), .val (.ref b_1), .val (.ref b_20), .unset, .unset]) rfl ?_
        show Steps p.tables e below (T_33.setTop (mkF m 185 #[.val (.long q1), .second, .val (.int p2), .val (.int p3), .val (.int p4), .val (.int (0 : Int32)), .val (.int (3 : Int32)), .val (.ref b_1), .val (.ref b_2), .val (.ref b_10), .val (.ref b_13), .val (.ref b_16), .val (.ref b_20), .val (.ref b_1), .val (.ref b_20), .unset, .unset] [])) t
        refine XS.aload X_33.here hx rfl (hb hby at_185) rfl rfl ?_
        show Steps p.tables e below (T_33.setTop (mkF m 187 #[.val (.long q1), .second, .val (.int p2), .val (.int p3), .val (.int p4), .val (.int (0 : Int32)), .val (.int (3 : Int32)), .val (.ref b_1), .val (.ref b_2), .val (.ref b_10), .val (.ref b_13), .val (.ref b_16), .val (.ref b_20), .val (.ref b_1), .val (.ref b_20), .unset, .unset] [(.ref b_1)])) t
        refine XS.aload X_33.here hx rfl (hb hby at_187) rfl rfl ?_
        exact kt
      have f_99 := ((((((((((((((V_4.other W_5 ne_b_1_b_2).other W_7 ne_b_1_b_2).other W_8 ne_b_1_b_2).keep K_9 (ninS ne_b_1_b_2 nin0)).ext E_10).ext E_13).ext E_16).ext E_20).other W_25 ne_b_1_b_13).other W_27 ne_b_1_b_16).other W_29 ne_b_1_b_16).other W_30 ne_b_1_b_20).other W_32 ne_b_1_b_20).other W_33 ne_b_1_b_20)
      obtain ⟨_, _, ⟨T_100, L_100, k_100, n_100⟩, -, X_100, ⟨Lc_100, hQ_100, l_100, y_100, z_100⟩, st_100⟩ := Jvm.LawKit.callS X_33 hx (y := (⟨"com/example/thin_table/thintable/model/KeyOrder", "newestValue", "([B[B)[B"⟩ : MethodName)) hown (mvT hZ (hw _ (List.mem_of_getElem? (i := 5) rfl))) (mvT hZ (hw _ (List.mem_of_getElem? (i := 6) rfl))) (mvT hZ (hw _ (List.mem_of_getElem? (i := 7) rfl))) (mvT hZ (hw _ (List.mem_of_getElem? (i := 8) rfl))) (by decide) (backOf (W := 0) (rnew8_3 l Z a0 hw [] (b_1) (b_20) k_1 k_20 [(.int (own_by q1 56)), (.int (own_by q1 48)), (.int (own_by q1 40)), (.int (own_by q1 32)), (.int (own_by q1 24)), (.int (own_by q1 16)), (.int (own_by q1 8)), (.int (own_b0 q1))] [(.int (nar .byte (p3.toInt8.toInt32))), (.int (nar .byte (((p3.toUInt32 >>> ((8 : Int32) &&& 31).toUInt32).toInt32).toInt8.toInt32))), (.int (nar .byte (((p3.toUInt32 >>> ((16 : Int32) &&& 31).toUInt32).toInt32).toInt8.toInt32)))] h_33 n0 Z_33 f_99 V_33) hZ (hw _ (List.mem_of_getElem? (i := 8) rfl)) (hw _ (List.mem_of_getElem? (i := 7) rfl)) (by decide) (by decide)) (g := (mkF m 189 #[.val (.long q1), .second, .val (.int p2), .val (.int p3), .val (.int p4), .val (.int (0 : Int32)), .val (.int (3 : Int32)), .val (.ref b_1), .val (.ref b_2), .val (.ref b_10), .val (.ref b_13), .val (.ref b_16), .val (.ref b_20), .val (.ref b_1), .val (.ref b_20), .unset, .unset] [(.ref b_20), (.ref b_1)])) rfl (by rw [hml]; rfl) (argsL := [(.ref b_1), (.ref b_20)]) (rest := []) (lenOf pd_1 rfl) rfl (by show 2 * 0 + _ ≤ _; exact Nat.le_of_eq rfl) (hb hby at_189) (fun _ _ => ⟨rfl, e_33, (by decide : 6 + 1 ≤ _), (by decide : 25 + 11 ≤ _)⟩)
      dsimp only [Pt.U, Pt.locs, Pt.cells, Pt.slots] at X_100 l_100 y_100 z_100 st_100 hQ_100
      subst l_100 y_100 z_100
      obtain ⟨r_100, kB_100, rfl, N_100q, K_100, sr_100, V_100⟩ := hQ_100
      have N_100 := Fr.app N_33 N_100q
      have f_101 := (((((((f_21.ext E_20).wr W_25).wr W_27).wr W_29).wr W_30).wr W_32).wr W_33)
      have ne_b_1_r_100 : b_1 ≠ r_100 := Nat.ne_of_lt (Nat.lt_of_lt_of_le f_101.lt sr_100)
      have f_102 := (((((((f_22.ext E_20).wr W_25).wr W_27).wr W_29).wr W_30).wr W_32).wr W_33)
      have ne_b_2_r_100 : b_2 ≠ r_100 := Nat.ne_of_lt (Nat.lt_of_lt_of_le f_102.lt sr_100)
      have f_103 := (((((((f_23.ext E_20).wr W_25).wr W_27).wr W_29).wr W_30).wr W_32).wr W_33)
      have ne_b_10_r_100 : b_10 ≠ r_100 := Nat.ne_of_lt (Nat.lt_of_lt_of_le f_103.lt sr_100)
      have f_104 := (((((((f_24.ext E_20).wr W_25).wr W_27).wr W_29).wr W_30).wr W_32).wr W_33)
      have ne_b_13_r_100 : b_13 ≠ r_100 := Nat.ne_of_lt (Nat.lt_of_lt_of_le f_104.lt sr_100)
      have f_105 := (((((((B_16.ext E_20).wr W_25).wr W_27).wr W_29).wr W_30).wr W_32).wr W_33)
      have ne_b_16_r_100 : b_16 ≠ r_100 := Nat.ne_of_lt (Nat.lt_of_lt_of_le f_105.lt sr_100)
      have f_106 := ((((((B_20.wr W_25).wr W_27).wr W_29).wr W_30).wr W_32).wr W_33)
      have ne_b_20_r_100 : b_20 ≠ r_100 := Nat.ne_of_lt (Nat.lt_of_lt_of_le f_106.lt sr_100)
      have g_r_100 : n0 ≤ r_100 := Nat.le_trans Z_33 sr_100
      have Z_100 : n0 ≤ T_100.heap.size := Nat.le_trans Z_33 K_100.1
      refine own_go (g' := (mkF m 192 #[.val (.long q1), .second, .val (.int p2), .val (.int p3), .val (.int p4), .val (.int (0 : Int32)), .val (.int (3 : Int32)), .val (.ref b_1), .val (.ref b_2), .val (.ref b_10), .val (.ref b_13), .val (.ref b_16), .val (.ref b_20), .val (.ref b_1), .val (.ref b_20), .unset, .unset] [(.ref r_100)])) st_100 ?_
      replace V_100 : Arv Z T_100.heap r_100 kB_100 .byte (11 : Int32) [(.int (own_by q1 56)), (.int (own_by q1 48)), (.int (own_by q1 40)), (.int (own_by q1 32)), (.int (own_by q1 24)), (.int (own_by q1 16)), (.int (own_by q1 8)), (.int (own_b0 q1)), (.int (nar .byte (p3.toInt8.toInt32))), (.int (nar .byte (((p3.toUInt32 >>> ((8 : Int32) &&& 31).toUInt32).toInt32).toInt8.toInt32))), (.int (nar .byte (((p3.toUInt32 >>> ((16 : Int32) &&& 31).toUInt32).toInt32).toInt8.toInt32)))] (.int (0 : Int32)) := V_100
      refine own_go (T' := T_100) (g' := (mkF m 201 #[.val (.long q1), .second, .val (.int p2), .val (.int p3), .val (.int p4), .val (.int (0 : Int32)), .val (.int (3 : Int32)), .val (.ref b_1), .val (.ref b_2), .val (.ref b_10), .val (.ref b_13), .val (.ref b_16), .val (.ref b_20), .val (.ref b_1), .val (.ref b_20), .val (.ref r_100), .unset] [(.ref r_100)])) (fun t kt => ?_) ?_
      · show Steps p.tables e below (T_100.setTop (mkF m 192 #[.val (.long q1), .second, .val (.int p2), .val (.int p3), .val (.int p4), .val (.int (0 : Int32)), .val (.int (3 : Int32)), .val (.ref b_1), .val (.ref b_2), .val (.ref b_10), .val (.ref b_13), .val (.ref b_16), .val (.ref b_20), .val (.ref b_1), .val (.ref b_20), .unset, .unset] [(.ref r_100)])) t
        refine XS.astore X_100.here hx rfl (hb hby at_192) rfl rfl (l' := #[.val (.long q1), .second, .val (.int p2), .val (.int p3), .val (.int p4), .val (.int (0 : Int32)), .val (.int (3 : Int32)), .val (.ref b_1), .val (.ref b_2), .val (.ref b_10), .val (.ref b_13), .val (.ref b_16), .val (.ref b_20), .val (.ref b_1), .val (.ref b_20), .val (.ref r_100), .unset]) rfl ?_
        show Steps p.tables e below (T_100.setTop (mkF m 194 #[.val (.long q1), .second, .val (.int p2), .val (.int p3), .val (.int p4), .val (.int (0 : Int32)), .val (.int (3 : Int32)), .val (.ref b_1), .val (.ref b_2), .val (.ref b_10), .val (.ref b_13), .val (.ref b_16), .val (.ref b_20), .val (.ref b_1), .val (.ref b_20), .val (.ref r_100), .unset] [])) t
        refine XS.aload X_100.here hx rfl (hb hby at_194) rfl rfl ?_
        show Steps p.tables e below (T_100.setTop (mkF m 196 #[.val (.long q1), .second, .val (.int p2), .val (.int p3), .val (.int p4), .val (.int (0 : Int32)), .val (.int (3 : Int32)), .val (.ref b_1), .val (.ref b_2), .val (.ref b_10), .val (.ref b_13), .val (.ref b_16), .val (.ref b_20), .val (.ref b_1), .val (.ref b_20), .val (.ref r_100), .unset] [(.ref r_100)])) t
        refine XS.ifnullNo X_100.here hx rfl (hb hby at_196) rfl ?_
        show Steps p.tables e below (T_100.setTop (mkF m 199 #[.val (.long q1), .second, .val (.int p2), .val (.int p3), .val (.int p4), .val (.int (0 : Int32)), .val (.int (3 : Int32)), .val (.ref b_1), .val (.ref b_2), .val (.ref b_10), .val (.ref b_13), .val (.ref b_16), .val (.ref b_20), .val (.ref b_1), .val (.ref b_20), .val (.ref r_100), .unset] [])) t
        refine XS.aload X_100.here hx rfl (hb hby at_199) rfl rfl ?_
        exact kt
      have vq_107 := V_100
      obtain ⟨c_107, a_107, -, s_107, m_107, -, -⟩ := vq_107
      refine own_go (T' := T_100) (g' := (mkF m 202 #[.val (.long q1), .second, .val (.int p2), .val (.int p3), .val (.int p4), .val (.int (0 : Int32)), .val (.int (3 : Int32)), .val (.ref b_1), .val (.ref b_2), .val (.ref b_10), .val (.ref b_13), .val (.ref b_16), .val (.ref b_20), .val (.ref b_1), .val (.ref b_20), .val (.ref r_100), .unset] [(.int (11 : Int32))])) (fun t kt => ?_) ?_
      · refine X_100.arraylength hx a_107.1 (State.isArrayOf_alike hZ.alike a_107.2.1) (g := (mkF m 201 #[.val (.long q1), .second, .val (.int p2), .val (.int p3), .val (.int p4), .val (.int (0 : Int32)), .val (.int (3 : Int32)), .val (.ref b_1), .val (.ref b_2), .val (.ref b_10), .val (.ref b_13), .val (.ref b_16), .val (.ref b_20), .val (.ref b_1), .val (.ref b_20), .val (.ref r_100), .unset] [(.ref r_100)])) rfl rfl (hb hby at_201) _ ?_
        rw [len_of s_107 m_107]
        exact kt
      refine own_go (T' := T_100) (g' := (mkF m 227 #[.val (.long q1), .second, .val (.int p2), .val (.int p3), .val (.int p4), .val (.int (0 : Int32)), .val (.int (3 : Int32)), .val (.ref b_1), .val (.ref b_2), .val (.ref b_10), .val (.ref b_13), .val (.ref b_16), .val (.ref b_20), .val (.ref b_1), .val (.ref b_20), .val (.ref r_100), .unset] [(.long q1), (.ref r_100)])) (fun t kt => ?_) ?_
      · show Steps p.tables e below (T_100.setTop (mkF m 202 #[.val (.long q1), .second, .val (.int p2), .val (.int p3), .val (.int p4), .val (.int (0 : Int32)), .val (.int (3 : Int32)), .val (.ref b_1), .val (.ref b_2), .val (.ref b_10), .val (.ref b_13), .val (.ref b_16), .val (.ref b_20), .val (.ref b_1), .val (.ref b_20), .val (.ref r_100), .unset] [(.int (11 : Int32))])) t
        refine XS.bipush X_100.here hx rfl (hb hby at_202) ?_
        show Steps p.tables e below (T_100.setTop (mkF m 204 #[.val (.long q1), .second, .val (.int p2), .val (.int p3), .val (.int p4), .val (.int (0 : Int32)), .val (.int (3 : Int32)), .val (.ref b_1), .val (.ref b_2), .val (.ref b_10), .val (.ref b_13), .val (.ref b_16), .val (.ref b_20), .val (.ref b_1), .val (.ref b_20), .val (.ref r_100), .unset] [(.int (8 : Int32)), (.int (11 : Int32))])) t
        refine XS.iload X_100.here hx rfl (hb hby at_204) rfl ?_
        show Steps p.tables e below (T_100.setTop (mkF m 206 #[.val (.long q1), .second, .val (.int p2), .val (.int p3), .val (.int p4), .val (.int (0 : Int32)), .val (.int (3 : Int32)), .val (.ref b_1), .val (.ref b_2), .val (.ref b_10), .val (.ref b_13), .val (.ref b_16), .val (.ref b_20), .val (.ref b_1), .val (.ref b_20), .val (.ref r_100), .unset] [(.int (3 : Int32)), (.int (8 : Int32)), (.int (11 : Int32))])) t
        refine XS.iadd X_100.here hx rfl (hb hby at_206) rfl ?_
        show Steps p.tables e below (T_100.setTop (mkF m 207 #[.val (.long q1), .second, .val (.int p2), .val (.int p3), .val (.int p4), .val (.int (0 : Int32)), .val (.int (3 : Int32)), .val (.ref b_1), .val (.ref b_2), .val (.ref b_10), .val (.ref b_13), .val (.ref b_16), .val (.ref b_20), .val (.ref b_1), .val (.ref b_20), .val (.ref r_100), .unset] [(.int (11 : Int32)), (.int (11 : Int32))])) t
        refine XS.icmpNo X_100.here hx rfl (hb hby at_207) rfl (teq (by decide : (11 : Int32) = (11 : Int32))).2 ?_
        show Steps p.tables e below (T_100.setTop (mkF m 210 #[.val (.long q1), .second, .val (.int p2), .val (.int p3), .val (.int p4), .val (.int (0 : Int32)), .val (.int (3 : Int32)), .val (.ref b_1), .val (.ref b_2), .val (.ref b_10), .val (.ref b_13), .val (.ref b_16), .val (.ref b_20), .val (.ref b_1), .val (.ref b_20), .val (.ref r_100), .unset] [])) t
        refine XS.aload X_100.here hx rfl (hb hby at_210) rfl rfl ?_
        show Steps p.tables e below (T_100.setTop (mkF m 212 #[.val (.long q1), .second, .val (.int p2), .val (.int p3), .val (.int p4), .val (.int (0 : Int32)), .val (.int (3 : Int32)), .val (.ref b_1), .val (.ref b_2), .val (.ref b_10), .val (.ref b_13), .val (.ref b_16), .val (.ref b_20), .val (.ref b_1), .val (.ref b_20), .val (.ref r_100), .unset] [(.ref r_100)])) t
        refine XS.aload X_100.here hx rfl (hb hby at_212) rfl rfl ?_
        show Steps p.tables e below (T_100.setTop (mkF m 214 #[.val (.long q1), .second, .val (.int p2), .val (.int p3), .val (.int p4), .val (.int (0 : Int32)), .val (.int (3 : Int32)), .val (.ref b_1), .val (.ref b_2), .val (.ref b_10), .val (.ref b_13), .val (.ref b_16), .val (.ref b_20), .val (.ref b_1), .val (.ref b_20), .val (.ref r_100), .unset] [(.ref b_20), (.ref r_100)])) t
        refine Jvm.RoadKit.acmp (g := (mkF m 214 #[.val (.long q1), .second, .val (.int p2), .val (.int p3), .val (.int p4), .val (.int (0 : Int32)), .val (.int (3 : Int32)), .val (.ref b_1), .val (.ref b_2), .val (.ref b_10), .val (.ref b_13), .val (.ref b_16), .val (.ref b_20), .val (.ref b_1), .val (.ref b_20), .val (.ref r_100), .unset] [(.ref b_20), (.ref r_100)])) X_100 hx rfl rfl rfl (pc0 := 214) (pc' := 217) (same := false) rfl (hb hby at_214) rfl (decide_eq_false fun q => (Ne.symm ne_b_20_r_100) (Value.ref.inj q)) (by decide) (by decide) ?_
        show Steps p.tables e below (T_100.setTop (mkF m 217 #[.val (.long q1), .second, .val (.int p2), .val (.int p3), .val (.int p4), .val (.int (0 : Int32)), .val (.int (3 : Int32)), .val (.ref b_1), .val (.ref b_2), .val (.ref b_10), .val (.ref b_13), .val (.ref b_16), .val (.ref b_20), .val (.ref b_1), .val (.ref b_20), .val (.ref r_100), .unset] [])) t
        refine XS.aload X_100.here hx rfl (hb hby at_217) rfl rfl ?_
        show Steps p.tables e below (T_100.setTop (mkF m 219 #[.val (.long q1), .second, .val (.int p2), .val (.int p3), .val (.int p4), .val (.int (0 : Int32)), .val (.int (3 : Int32)), .val (.ref b_1), .val (.ref b_2), .val (.ref b_10), .val (.ref b_13), .val (.ref b_16), .val (.ref b_20), .val (.ref b_1), .val (.ref b_20), .val (.ref r_100), .unset] [(.ref r_100)])) t
        refine XS.aload X_100.here hx rfl (hb hby at_219) rfl rfl ?_
        show Steps p.tables e below (T_100.setTop (mkF m 221 #[.val (.long q1), .second, .val (.int p2), .val (.int p3), .val (.int p4), .val (.int (0 : Int32)), .val (.int (3 : Int32)), .val (.ref b_1), .val (.ref b_2), .val (.ref b_10), .val (.ref b_13), .val (.ref b_16), .val (.ref b_20), .val (.ref b_1), .val (.ref b_20), .val (.ref r_100), .unset] [(.ref b_1), (.ref r_100)])) t
        refine Jvm.RoadKit.acmp (g := (mkF m 221 #[.val (.long q1), .second, .val (.int p2), .val (.int p3), .val (.int p4), .val (.int (0 : Int32)), .val (.int (3 : Int32)), .val (.ref b_1), .val (.ref b_2), .val (.ref b_10), .val (.ref b_13), .val (.ref b_16), .val (.ref b_20), .val (.ref b_1), .val (.ref b_20), .val (.ref r_100), .unset] [(.ref b_1), (.ref r_100)])) X_100 hx rfl rfl rfl (pc0 := 221) (pc' := 224) (same := false) rfl (hb hby at_221) rfl (decide_eq_false fun q => (Ne.symm ne_b_1_r_100) (Value.ref.inj q)) (by decide) (by decide) ?_
        show Steps p.tables e below (T_100.setTop (mkF m 224 #[.val (.long q1), .second, .val (.int p2), .val (.int p3), .val (.int p4), .val (.int (0 : Int32)), .val (.int (3 : Int32)), .val (.ref b_1), .val (.ref b_2), .val (.ref b_10), .val (.ref b_13), .val (.ref b_16), .val (.ref b_20), .val (.ref b_1), .val (.ref b_20), .val (.ref r_100), .unset] [])) t
        refine XS.aload X_100.here hx rfl (hb hby at_224) rfl rfl ?_
        show Steps p.tables e below (T_100.setTop (mkF m 226 #[.val (.long q1), .second, .val (.int p2), .val (.int p3), .val (.int p4), .val (.int (0 : Int32)), .val (.int (3 : Int32)), .val (.ref b_1), .val (.ref b_2), .val (.ref b_10), .val (.ref b_13), .val (.ref b_16), .val (.ref b_20), .val (.ref b_1), .val (.ref b_20), .val (.ref r_100), .unset] [(.ref r_100)])) t
        refine XS.lloadN X_100.here hx rfl (hb hby at_226) rfl ?_
        exact kt
      obtain ⟨_, _, ⟨T_108, L_108, k_108, n_108⟩, -, X_108, ⟨Lc_108, hQ_108, l_108, y_108, z_108⟩, st_108⟩ := Jvm.LawKit.callS X_100 hx (y := (⟨"com/example/thin_table/thintable/model/KeyOrderNewestValuePinLaw", "head", "([BJ)Z"⟩ : MethodName)) hown (mvT hZ (hw _ (List.mem_of_getElem? (i := 13) rfl))) (mvT hZ (hw _ (List.mem_of_getElem? (i := 14) rfl))) (mvT hZ (hw _ (List.mem_of_getElem? (i := 3) rfl))) (mvT hZ (hw _ (List.mem_of_getElem? (i := 15) rfl))) (by decide) (backOf (W := 0) (rhead3 l Z a0 hw [] (r_100) (q1) p3 kB_100 T_100.heap n0 Z_100 V_100) hZ (hw _ (List.mem_of_getElem? (i := 15) rfl)) (hw _ (List.mem_of_getElem? (i := 3) rfl)) (by decide) (by decide)) (g := (mkF m 227 #[.val (.long q1), .second, .val (.int p2), .val (.int p3), .val (.int p4), .val (.int (0 : Int32)), .val (.int (3 : Int32)), .val (.ref b_1), .val (.ref b_2), .val (.ref b_10), .val (.ref b_13), .val (.ref b_16), .val (.ref b_20), .val (.ref b_1), .val (.ref b_20), .val (.ref r_100), .unset] [(.long q1), (.ref r_100)])) rfl (by rw [hml]; rfl) (argsL := [(.ref r_100), (.long q1)]) (rest := []) (lenOf pd_3 rfl) rfl (by show 2 * 0 + _ ≤ _; exact Nat.le_of_eq rfl) (hb hby at_227) (fun _ _ => ⟨rfl, rfl, (by decide : 7 + 0 ≤ _), (by decide : 36 + 0 ≤ _)⟩)
      dsimp only [Pt.U, Pt.locs, Pt.cells, Pt.slots] at X_108 l_108 y_108 z_108 st_108 hQ_108
      subst l_108 y_108 z_108
      obtain ⟨rfl, N_108q, e_108⟩ := hQ_108
      have N_108 := Fr.app N_100 N_108q
      refine own_go (g' := (mkF m 230 #[.val (.long q1), .second, .val (.int p2), .val (.int p3), .val (.int p4), .val (.int (0 : Int32)), .val (.int (3 : Int32)), .val (.ref b_1), .val (.ref b_2), .val (.ref b_10), .val (.ref b_13), .val (.ref b_16), .val (.ref b_20), .val (.ref b_1), .val (.ref b_20), .val (.ref r_100), .unset] [(.int (1 : Int32))])) st_108 ?_
      refine own_go (T' := T_108) (g' := (mkF m 238 #[.val (.long q1), .second, .val (.int p2), .val (.int p3), .val (.int p4), .val (.int (0 : Int32)), .val (.int (3 : Int32)), .val (.ref b_1), .val (.ref b_2), .val (.ref b_10), .val (.ref b_13), .val (.ref b_16), .val (.ref b_20), .val (.ref b_1), .val (.ref b_20), .val (.ref r_100), .unset] [(.int p3), (.int (3 : Int32)), (.ref r_100)])) (fun t kt => ?_) ?_
      · show Steps p.tables e below (T_108.setTop (mkF m 230 #[.val (.long q1), .second, .val (.int p2), .val (.int p3), .val (.int p4), .val (.int (0 : Int32)), .val (.int (3 : Int32)), .val (.ref b_1), .val (.ref b_2), .val (.ref b_10), .val (.ref b_13), .val (.ref b_16), .val (.ref b_20), .val (.ref b_1), .val (.ref b_20), .val (.ref r_100), .unset] [(.int (1 : Int32))])) t
        refine XS.ifNo X_108.here hx rfl (hb hby at_230) rfl ((if0 _ _).trans (feq (by decide : ¬ ((1 : Int32) = (0 : Int32)))).1) ?_
        show Steps p.tables e below (T_108.setTop (mkF m 233 #[.val (.long q1), .second, .val (.int p2), .val (.int p3), .val (.int p4), .val (.int (0 : Int32)), .val (.int (3 : Int32)), .val (.ref b_1), .val (.ref b_2), .val (.ref b_10), .val (.ref b_13), .val (.ref b_16), .val (.ref b_20), .val (.ref b_1), .val (.ref b_20), .val (.ref r_100), .unset] [])) t
        refine XS.aload X_108.here hx rfl (hb hby at_233) rfl rfl ?_
        show Steps p.tables e below (T_108.setTop (mkF m 235 #[.val (.long q1), .second, .val (.int p2), .val (.int p3), .val (.int p4), .val (.int (0 : Int32)), .val (.int (3 : Int32)), .val (.ref b_1), .val (.ref b_2), .val (.ref b_10), .val (.ref b_13), .val (.ref b_16), .val (.ref b_20), .val (.ref b_1), .val (.ref b_20), .val (.ref r_100), .unset] [(.ref r_100)])) t
        refine XS.iload X_108.here hx rfl (hb hby at_235) rfl ?_
        show Steps p.tables e below (T_108.setTop (mkF m 237 #[.val (.long q1), .second, .val (.int p2), .val (.int p3), .val (.int p4), .val (.int (0 : Int32)), .val (.int (3 : Int32)), .val (.ref b_1), .val (.ref b_2), .val (.ref b_10), .val (.ref b_13), .val (.ref b_16), .val (.ref b_20), .val (.ref b_1), .val (.ref b_20), .val (.ref r_100), .unset] [(.int (3 : Int32)), (.ref r_100)])) t
        refine XS.iloadN X_108.here hx rfl (hb hby at_237) rfl ?_
        exact kt
      obtain ⟨_, _, ⟨T_109, L_109, k_109, n_109⟩, -, X_109, ⟨Lc_109, hQ_109, l_109, y_109, z_109⟩, st_109⟩ := Jvm.LawKit.callS X_108 hx (y := (⟨"com/example/thin_table/thintable/model/KeyOrderNewestValuePinLaw", "tail", "([BII)Z"⟩ : MethodName)) hown (mvT hZ (hw _ (List.mem_of_getElem? (i := 16) rfl))) (mvT hZ (hw _ (List.mem_of_getElem? (i := 17) rfl))) (mvT hZ (hw _ (List.mem_of_getElem? (i := 3) rfl))) (mvT hZ (hw _ (List.mem_of_getElem? (i := 18) rfl))) (by decide) (backOf (W := 0) (rtail3 l Z a0 hw [] r_100 q1 p3 kB_100 T_100.heap n0 Z_100 V_100) hZ (hw _ (List.mem_of_getElem? (i := 18) rfl)) (hw _ (List.mem_of_getElem? (i := 3) rfl)) (by decide) (by decide)) (g := (mkF m 238 #[.val (.long q1), .second, .val (.int p2), .val (.int p3), .val (.int p4), .val (.int (0 : Int32)), .val (.int (3 : Int32)), .val (.ref b_1), .val (.ref b_2), .val (.ref b_10), .val (.ref b_13), .val (.ref b_16), .val (.ref b_20), .val (.ref b_1), .val (.ref b_20), .val (.ref r_100), .unset] [(.int p3), (.int (3 : Int32)), (.ref r_100)])) rfl (by rw [hml]; rfl) (argsL := [(.ref r_100), (.int (3 : Int32)), (.int p3)]) (rest := []) (lenOf pd_4 rfl) rfl (by show 2 * 0 + _ ≤ _; exact Nat.le_of_eq rfl) (hb hby at_238) (fun _ _ => ⟨rfl, e_108, (by decide : 7 + 0 ≤ _), (by decide : 36 + 0 ≤ _)⟩)
      dsimp only [Pt.U, Pt.locs, Pt.cells, Pt.slots] at X_109 l_109 y_109 z_109 st_109 hQ_109
      subst l_109 y_109 z_109
      obtain ⟨rfl, N_109q, e_109⟩ := hQ_109
      have N_109 := Fr.app N_108 N_109q
      refine own_go (g' := (mkF m 241 #[.val (.long q1), .second, .val (.int p2), .val (.int p3), .val (.int p4), .val (.int (0 : Int32)), .val (.int (3 : Int32)), .val (.ref b_1), .val (.ref b_2), .val (.ref b_10), .val (.ref b_13), .val (.ref b_16), .val (.ref b_20), .val (.ref b_1), .val (.ref b_20), .val (.ref r_100), .unset] [(.int (1 : Int32))])) st_109 ?_
      refine own_go (T' := T_109) (g' := (mkF m 262 #[.val (.long q1), .second, .val (.int p2), .val (.int p3), .val (.int p4), .val (.int (0 : Int32)), .val (.int (3 : Int32)), .val (.ref b_1), .val (.ref b_2), .val (.ref b_10), .val (.ref b_13), .val (.ref b_16), .val (.ref b_20), .val (.ref b_1), .val (.ref b_20), .val (.ref r_100), .val (.int (1 : Int32))] [(.ref b_1), (.ref b_1)])) (fun t kt => ?_) ?_
      · show Steps p.tables e below (T_109.setTop (mkF m 241 #[.val (.long q1), .second, .val (.int p2), .val (.int p3), .val (.int p4), .val (.int (0 : Int32)), .val (.int (3 : Int32)), .val (.ref b_1), .val (.ref b_2), .val (.ref b_10), .val (.ref b_13), .val (.ref b_16), .val (.ref b_20), .val (.ref b_1), .val (.ref b_20), .val (.ref r_100), .unset] [(.int (1 : Int32))])) t
        refine XS.ifNo X_109.here hx rfl (hb hby at_241) rfl ((if0 _ _).trans (feq (by decide : ¬ ((1 : Int32) = (0 : Int32)))).1) ?_
        show Steps p.tables e below (T_109.setTop (mkF m 244 #[.val (.long q1), .second, .val (.int p2), .val (.int p3), .val (.int p4), .val (.int (0 : Int32)), .val (.int (3 : Int32)), .val (.ref b_1), .val (.ref b_2), .val (.ref b_10), .val (.ref b_13), .val (.ref b_16), .val (.ref b_20), .val (.ref b_1), .val (.ref b_20), .val (.ref r_100), .unset] [])) t
        refine XS.iconst X_109.here hx rfl (hb hby at_244) ?_
        show Steps p.tables e below (T_109.setTop (mkF m 245 #[.val (.long q1), .second, .val (.int p2), .val (.int p3), .val (.int p4), .val (.int (0 : Int32)), .val (.int (3 : Int32)), .val (.ref b_1), .val (.ref b_2), .val (.ref b_10), .val (.ref b_13), .val (.ref b_16), .val (.ref b_20), .val (.ref b_1), .val (.ref b_20), .val (.ref r_100), .unset] [(.int (1 : Int32))])) t
        refine XS.goto X_109.here hx rfl (pc0 := 245) (pc' := 249) rfl (hb hby at_245) (by decide) (by decide) ?_
        show Steps p.tables e below (T_109.setTop (mkF m 249 #[.val (.long q1), .second, .val (.int p2), .val (.int p3), .val (.int p4), .val (.int (0 : Int32)), .val (.int (3 : Int32)), .val (.ref b_1), .val (.ref b_2), .val (.ref b_10), .val (.ref b_13), .val (.ref b_16), .val (.ref b_20), .val (.ref b_1), .val (.ref b_20), .val (.ref r_100), .unset] [(.int (1 : Int32))])) t
        refine XS.istore X_109.here hx rfl (hb hby at_249) rfl (l' := #[.val (.long q1), .second, .val (.int p2), .val (.int p3), .val (.int p4), .val (.int (0 : Int32)), .val (.int (3 : Int32)), .val (.ref b_1), .val (.ref b_2), .val (.ref b_10), .val (.ref b_13), .val (.ref b_16), .val (.ref b_20), .val (.ref b_1), .val (.ref b_20), .val (.ref r_100), .val (.int (1 : Int32))]) rfl ?_
        show Steps p.tables e below (T_109.setTop (mkF m 251 #[.val (.long q1), .second, .val (.int p2), .val (.int p3), .val (.int p4), .val (.int (0 : Int32)), .val (.int (3 : Int32)), .val (.ref b_1), .val (.ref b_2), .val (.ref b_10), .val (.ref b_13), .val (.ref b_16), .val (.ref b_20), .val (.ref b_1), .val (.ref b_20), .val (.ref r_100), .val (.int (1 : Int32))] [])) t
        refine XS.iload X_109.here hx rfl (hb hby at_251) rfl ?_
        show Steps p.tables e below (T_109.setTop (mkF m 253 #[.val (.long q1), .second, .val (.int p2), .val (.int p3), .val (.int p4), .val (.int (0 : Int32)), .val (.int (3 : Int32)), .val (.ref b_1), .val (.ref b_2), .val (.ref b_10), .val (.ref b_13), .val (.ref b_16), .val (.ref b_20), .val (.ref b_1), .val (.ref b_20), .val (.ref r_100), .val (.int (1 : Int32))] [(.int (1 : Int32))])) t
        refine XS.ifYes X_109.here hx rfl (pc0 := 253) (pc' := 258) rfl (hb hby at_253) rfl ((if0 _ _).trans (feq (by decide : ¬ ((1 : Int32) = (0 : Int32)))).2) (by decide) (by decide) ?_
        show Steps p.tables e below (T_109.setTop (mkF m 258 #[.val (.long q1), .second, .val (.int p2), .val (.int p3), .val (.int p4), .val (.int (0 : Int32)), .val (.int (3 : Int32)), .val (.ref b_1), .val (.ref b_2), .val (.ref b_10), .val (.ref b_13), .val (.ref b_16), .val (.ref b_20), .val (.ref b_1), .val (.ref b_20), .val (.ref r_100), .val (.int (1 : Int32))] [])) t
        refine XS.aload X_109.here hx rfl (hb hby at_258) rfl rfl ?_
        show Steps p.tables e below (T_109.setTop (mkF m 260 #[.val (.long q1), .second, .val (.int p2), .val (.int p3), .val (.int p4), .val (.int (0 : Int32)), .val (.int (3 : Int32)), .val (.ref b_1), .val (.ref b_2), .val (.ref b_10), .val (.ref b_13), .val (.ref b_16), .val (.ref b_20), .val (.ref b_1), .val (.ref b_20), .val (.ref r_100), .val (.int (1 : Int32))] [(.ref b_1)])) t
        refine XS.aload X_109.here hx rfl (hb hby at_260) rfl rfl ?_
        exact kt
      have f_110 := (f_99.keep K_100 nin0)
      have vq_111 := f_110
      obtain ⟨c_111, a_111, -, s_111, m_111, -, -⟩ := vq_111
      refine own_go (T' := T_109) (g' := (mkF m 263 #[.val (.long q1), .second, .val (.int p2), .val (.int p3), .val (.int p4), .val (.int (0 : Int32)), .val (.int (3 : Int32)), .val (.ref b_1), .val (.ref b_2), .val (.ref b_10), .val (.ref b_13), .val (.ref b_16), .val (.ref b_20), .val (.ref b_1), .val (.ref b_20), .val (.ref r_100), .val (.int (1 : Int32))] [(.int (8 : Int32)), (.ref b_1)])) (fun t kt => ?_) ?_
      · refine X_109.arraylength hx (by rw [e_109]; exact a_111.1) (State.isArrayOf_alike hZ.alike a_111.2.1) (g := (mkF m 262 #[.val (.long q1), .second, .val (.int p2), .val (.int p3), .val (.int p4), .val (.int (0 : Int32)), .val (.int (3 : Int32)), .val (.ref b_1), .val (.ref b_2), .val (.ref b_10), .val (.ref b_13), .val (.ref b_16), .val (.ref b_20), .val (.ref b_1), .val (.ref b_20), .val (.ref r_100), .val (.int (1 : Int32))] [(.ref b_1), (.ref b_1)])) rfl rfl (hb hby at_262) _ ?_
        rw [len_of s_111 m_111]
        exact kt
      refine own_go (T' := T_109) (g' := (mkF m 269 #[.val (.long q1), .second, .val (.int p2), .val (.int p3), .val (.int p4), .val (.int (0 : Int32)), .val (.int (3 : Int32)), .val (.ref b_1), .val (.ref b_2), .val (.ref b_10), .val (.ref b_13), .val (.ref b_16), .val (.ref b_20), .val (.ref b_1), .val (.ref b_20), .val (.ref r_100), .val (.int (1 : Int32))] [(.ref b_1), (.ref b_1), (.int (7 : Int32)), (.ref b_1)])) (fun t kt => ?_) ?_
      · show Steps p.tables e below (T_109.setTop (mkF m 263 #[.val (.long q1), .second, .val (.int p2), .val (.int p3), .val (.int p4), .val (.int (0 : Int32)), .val (.int (3 : Int32)), .val (.ref b_1), .val (.ref b_2), .val (.ref b_10), .val (.ref b_13), .val (.ref b_16), .val (.ref b_20), .val (.ref b_1), .val (.ref b_20), .val (.ref r_100), .val (.int (1 : Int32))] [(.int (8 : Int32)), (.ref b_1)])) t
        refine XS.iconst X_109.here hx rfl (hb hby at_263) ?_
        show Steps p.tables e below (T_109.setTop (mkF m 264 #[.val (.long q1), .second, .val (.int p2), .val (.int p3), .val (.int p4), .val (.int (0 : Int32)), .val (.int (3 : Int32)), .val (.ref b_1), .val (.ref b_2), .val (.ref b_10), .val (.ref b_13), .val (.ref b_16), .val (.ref b_20), .val (.ref b_1), .val (.ref b_20), .val (.ref r_100), .val (.int (1 : Int32))] [(.int (1 : Int32)), (.int (8 : Int32)), (.ref b_1)])) t
        refine XS.isub X_109.here hx rfl (hb hby at_264) rfl ?_
        show Steps p.tables e below (T_109.setTop (mkF m 265 #[.val (.long q1), .second, .val (.int p2), .val (.int p3), .val (.int p4), .val (.int (0 : Int32)), .val (.int (3 : Int32)), .val (.ref b_1), .val (.ref b_2), .val (.ref b_10), .val (.ref b_13), .val (.ref b_16), .val (.ref b_20), .val (.ref b_1), .val (.ref b_20), .val (.ref r_100), .val (.int (1 : Int32))] [(.int (7 : Int32)), (.ref b_1)])) t
        refine XS.aload X_109.here hx rfl (hb hby at_265) rfl rfl ?_
        show Steps p.tables e below (T_109.setTop (mkF m 267 #[.val (.long q1), .second, .val (.int p2), .val (.int p3), .val (.int p4), .val (.int (0 : Int32)), .val (.int (3 : Int32)), .val (.ref b_1), .val (.ref b_2), .val (.ref b_10), .val (.ref b_13), .val (.ref b_16), .val (.ref b_20), .val (.ref b_1), .val (.ref b_20), .val (.ref r_100), .val (.int (1 : Int32))] [(.ref b_1), (.int (7 : Int32)), (.ref b_1)])) t
        refine XS.aload X_109.here hx rfl (hb hby at_267) rfl rfl ?_
        exact kt
      have vq_112 := f_110
      obtain ⟨c_112, a_112, -, s_112, m_112, -, -⟩ := vq_112
      refine own_go (T' := T_109) (g' := (mkF m 270 #[.val (.long q1), .second, .val (.int p2), .val (.int p3), .val (.int p4), .val (.int (0 : Int32)), .val (.int (3 : Int32)), .val (.ref b_1), .val (.ref b_2), .val (.ref b_10), .val (.ref b_13), .val (.ref b_16), .val (.ref b_20), .val (.ref b_1), .val (.ref b_20), .val (.ref r_100), .val (.int (1 : Int32))] [(.int (8 : Int32)), (.ref b_1), (.int (7 : Int32)), (.ref b_1)])) (fun t kt => ?_) ?_
      · refine X_109.arraylength hx (by rw [e_109]; exact a_112.1) (State.isArrayOf_alike hZ.alike a_112.2.1) (g := (mkF m 269 #[.val (.long q1), .second, .val (.int p2), .val (.int p3), .val (.int p4), .val (.int (0 : Int32)), .val (.int (3 : Int32)), .val (.ref b_1), .val (.ref b_2), .val (.ref b_10), .val (.ref b_13), .val (.ref b_16), .val (.ref b_20), .val (.ref b_1), .val (.ref b_20), .val (.ref r_100), .val (.int (1 : Int32))] [(.ref b_1), (.ref b_1), (.int (7 : Int32)), (.ref b_1)])) rfl rfl (hb hby at_269) _ ?_
        rw [len_of s_112 m_112]
        exact kt
      refine own_go (T' := T_109) (g' := (mkF m 272 #[.val (.long q1), .second, .val (.int p2), .val (.int p3), .val (.int p4), .val (.int (0 : Int32)), .val (.int (3 : Int32)), .val (.ref b_1), .val (.ref b_2), .val (.ref b_10), .val (.ref b_13), .val (.ref b_16), .val (.ref b_20), .val (.ref b_1), .val (.ref b_20), .val (.ref r_100), .val (.int (1 : Int32))] [(.int (7 : Int32)), (.ref b_1), (.int (7 : Int32)), (.ref b_1)])) (fun t kt => ?_) ?_
      · show Steps p.tables e below (T_109.setTop (mkF m 270 #[.val (.long q1), .second, .val (.int p2), .val (.int p3), .val (.int p4), .val (.int (0 : Int32)), .val (.int (3 : Int32)), .val (.ref b_1), .val (.ref b_2), .val (.ref b_10), .val (.ref b_13), .val (.ref b_16), .val (.ref b_20), .val (.ref b_1), .val (.ref b_20), .val (.ref r_100), .val (.int (1 : Int32))] [(.int (8 : Int32)), (.ref b_1), (.int (7 : Int32)), (.ref b_1)])) t
        refine XS.iconst X_109.here hx rfl (hb hby at_270) ?_
        show Steps p.tables e below (T_109.setTop (mkF m 271 #[.val (.long q1), .second, .val (.int p2), .val (.int p3), .val (.int p4), .val (.int (0 : Int32)), .val (.int (3 : Int32)), .val (.ref b_1), .val (.ref b_2), .val (.ref b_10), .val (.ref b_13), .val (.ref b_16), .val (.ref b_20), .val (.ref b_1), .val (.ref b_20), .val (.ref r_100), .val (.int (1 : Int32))] [(.int (1 : Int32)), (.int (8 : Int32)), (.ref b_1), (.int (7 : Int32)), (.ref b_1)])) t
        refine XS.isub X_109.here hx rfl (hb hby at_271) rfl ?_
        exact kt
      have vq_113 := f_110
      obtain ⟨c_113, a_113, q_113, s_113, m_113, H_113, G_113⟩ := vq_113
      have hin_113 : ¬ ((7 : Int32) < 0 ∨ c_113.slots.size ≤ ((7 : Int32)).toNatClampNeg) := inb_of s_113 ⟨by decide, by decide⟩
      have hat_113 : c_113.slots[((7 : Int32)).toNatClampNeg]? = some (.int (own_b0 q1)) := H_113.at hin_113 rfl
      refine own_go (T' := T_109) (g' := (mkF m 273 #[.val (.long q1), .second, .val (.int p2), .val (.int p3), .val (.int p4), .val (.int (0 : Int32)), .val (.int (3 : Int32)), .val (.ref b_1), .val (.ref b_2), .val (.ref b_10), .val (.ref b_13), .val (.ref b_16), .val (.ref b_20), .val (.ref b_1), .val (.ref b_20), .val (.ref r_100), .val (.int (1 : Int32))] [(.int (own_b0 q1)), (.int (7 : Int32)), (.ref b_1)])) (fun t kt => ?_) ?_
      · refine X_109.baloadBytes hx (j := (7 : Int32)) (v := (.int (own_b0 q1))) (by rw [e_109]; exact a_113.1) (State.isArrayOf_alike hZ.alike a_113.2.1) a_113.2.2 hin_113 hat_113 (g := (mkF m 272 #[.val (.long q1), .second, .val (.int p2), .val (.int p3), .val (.int p4), .val (.int (0 : Int32)), .val (.int (3 : Int32)), .val (.ref b_1), .val (.ref b_2), .val (.ref b_10), .val (.ref b_13), .val (.ref b_16), .val (.ref b_20), .val (.ref b_1), .val (.ref b_20), .val (.ref r_100), .val (.int (1 : Int32))] [(.int (7 : Int32)), (.ref b_1), (.int (7 : Int32)), (.ref b_1)])) rfl rfl (hb hby at_272) _ ?_
        exact kt
      refine own_go (T' := T_109) (g' := (mkF m 276 #[.val (.long q1), .second, .val (.int p2), .val (.int p3), .val (.int p4), .val (.int (0 : Int32)), .val (.int (3 : Int32)), .val (.ref b_1), .val (.ref b_2), .val (.ref b_10), .val (.ref b_13), .val (.ref b_16), .val (.ref b_20), .val (.ref b_1), .val (.ref b_20), .val (.ref r_100), .val (.int (1 : Int32))] [(.int (((own_b0 q1) ^^^ (1 : Int32)).toInt8.toInt32)), (.int (7 : Int32)), (.ref b_1)])) (fun t kt => ?_) ?_
      · show Steps p.tables e below (T_109.setTop (mkF m 273 #[.val (.long q1), .second, .val (.int p2), .val (.int p3), .val (.int p4), .val (.int (0 : Int32)), .val (.int (3 : Int32)), .val (.ref b_1), .val (.ref b_2), .val (.ref b_10), .val (.ref b_13), .val (.ref b_16), .val (.ref b_20), .val (.ref b_1), .val (.ref b_20), .val (.ref r_100), .val (.int (1 : Int32))] [(.int (own_b0 q1)), (.int (7 : Int32)), (.ref b_1)])) t
        refine XS.iconst X_109.here hx rfl (hb hby at_273) ?_
        show Steps p.tables e below (T_109.setTop (mkF m 274 #[.val (.long q1), .second, .val (.int p2), .val (.int p3), .val (.int p4), .val (.int (0 : Int32)), .val (.int (3 : Int32)), .val (.ref b_1), .val (.ref b_2), .val (.ref b_10), .val (.ref b_13), .val (.ref b_16), .val (.ref b_20), .val (.ref b_1), .val (.ref b_20), .val (.ref r_100), .val (.int (1 : Int32))] [(.int (1 : Int32)), (.int (own_b0 q1)), (.int (7 : Int32)), (.ref b_1)])) t
        refine XS.ixor X_109.here hx rfl (hb hby at_274) rfl ?_
        show Steps p.tables e below (T_109.setTop (mkF m 275 #[.val (.long q1), .second, .val (.int p2), .val (.int p3), .val (.int p4), .val (.int (0 : Int32)), .val (.int (3 : Int32)), .val (.ref b_1), .val (.ref b_2), .val (.ref b_10), .val (.ref b_13), .val (.ref b_16), .val (.ref b_20), .val (.ref b_1), .val (.ref b_20), .val (.ref r_100), .val (.int (1 : Int32))] [(.int ((own_b0 q1) ^^^ (1 : Int32))), (.int (7 : Int32)), (.ref b_1)])) t
        refine XS.i2b X_109.here hx rfl (hb hby at_275) rfl ?_
        exact kt
      have vq_114 := f_110
      obtain ⟨c_114, a_114, q_114, s_114, m_114, H_114, G_114⟩ := vq_114
      have hin_114 : ¬ ((7 : Int32) < 0 ∨ c_114.slots.size ≤ ((7 : Int32)).toNatClampNeg) := inb_of s_114 ⟨by decide, by decide⟩
      obtain ⟨T_114, h_114, X_114, e_114, W_114, st_114⟩ := stB X_109 hx hZ e_109 a_114 (j := (7 : Int32)) hin_114 (g := (mkF m 276 #[.val (.long q1), .second, .val (.int p2), .val (.int p3), .val (.int p4), .val (.int (0 : Int32)), .val (.int (3 : Int32)), .val (.ref b_1), .val (.ref b_2), .val (.ref b_10), .val (.ref b_13), .val (.ref b_16), .val (.ref b_20), .val (.ref b_1), .val (.ref b_20), .val (.ref r_100), .val (.int (1 : Int32))] [(.int (((own_b0 q1) ^^^ (1 : Int32)).toInt8.toInt32)), (.int (7 : Int32)), (.ref b_1)])) rfl rfl (hb hby at_276)
      have V_114 : Arv Z h_114 b_1 k_1 .byte (8 : Int32) [(.int (own_by q1 56)), (.int (own_by q1 48)), (.int (own_by q1 40)), (.int (own_by q1 32)), (.int (own_by q1 24)), (.int (own_by q1 16)), (.int (own_by q1 8)), (.int (nar .byte (((own_b0 q1) ^^^ (1 : Int32)).toInt8.toInt32)))] (.int (0 : Int32)) := Arv.set a_114 q_114 s_114 m_114 H_114 G_114 (fits_nar_byte _) W_114 7 rfl (Nat.le_of_ble_eq_true rfl)
      have Z_114 : n0 ≤ h_114.size := Nat.le_trans Z_100 (Keep.of_wr W_114).1
      have N_114 := Fr.snoc X_114 N_109 g_b_1
      refine own_go (g' := (mkF m 277 #[.val (.long q1), .second, .val (.int p2), .val (.int p3), .val (.int p4), .val (.int (0 : Int32)), .val (.int (3 : Int32)), .val (.ref b_1), .val (.ref b_2), .val (.ref b_10), .val (.ref b_13), .val (.ref b_16), .val (.ref b_20), .val (.ref b_1), .val (.ref b_20), .val (.ref r_100), .val (.int (1 : Int32))] [])) st_114 ?_
      refine own_go (T' := T_114) (g' := (mkF m 288 #[.val (.long q1), .second, .val (.int p2), .val (.int p3), .val (.int p4), .val (.int (0 : Int32)), .val (.int (3 : Int32)), .val (.ref b_1), .val (.ref b_2), .val (.ref b_10), .val (.ref b_13), .val (.ref b_16), .val (.ref b_20), .val (.ref b_1), .val (.ref b_20), .val (.ref r_100), .val (.int (1 : Int32))] [(.int (0 : Int32)), (.ref b_20), (.int (0 : Int32)), (.ref b_20)])) (fun t kt => ?_) ?_
      · show Steps p.tables e below (T_114.setTop (mkF m 277 #[.val (.long q1), .second, .val (.int p2), .val (.int p3), .val (.int p4), .val (.int (0 : Int32)), .val (.int (3 : Int32)), .val (.ref b_1), .val (.ref b_2), .val (.ref b_10), .val (.ref b_13), .val (.ref b_16), .val (.ref b_20), .val (.ref b_1), .val (.ref b_20), .val (.ref r_100), .val (.int (1 : Int32))] [])) t
        refine XS.iload X_114.here hx rfl (hb hby at_277) rfl ?_
        show Steps p.tables e below (T_114.setTop (mkF m 279 #[.val (.long q1), .second, .val (.int p2), .val (.int p3), .val (.int p4), .val (.int (0 : Int32)), .val (.int (3 : Int32)), .val (.ref b_1), .val (.ref b_2), .val (.ref b_10), .val (.ref b_13), .val (.ref b_16), .val (.ref b_20), .val (.ref b_1), .val (.ref b_20), .val (.ref r_100), .val (.int (1 : Int32))] [(.int (3 : Int32))])) t
        refine XS.ifNo X_114.here hx rfl (hb hby at_279) rfl ((if0 _ _).trans (tlt (by decide : (0 : Int32) < (3 : Int32))).2.2.2) ?_
        show Steps p.tables e below (T_114.setTop (mkF m 282 #[.val (.long q1), .second, .val (.int p2), .val (.int p3), .val (.int p4), .val (.int (0 : Int32)), .val (.int (3 : Int32)), .val (.ref b_1), .val (.ref b_2), .val (.ref b_10), .val (.ref b_13), .val (.ref b_16), .val (.ref b_20), .val (.ref b_1), .val (.ref b_20), .val (.ref r_100), .val (.int (1 : Int32))] [])) t
        refine XS.aload X_114.here hx rfl (hb hby at_282) rfl rfl ?_
        show Steps p.tables e below (T_114.setTop (mkF m 284 #[.val (.long q1), .second, .val (.int p2), .val (.int p3), .val (.int p4), .val (.int (0 : Int32)), .val (.int (3 : Int32)), .val (.ref b_1), .val (.ref b_2), .val (.ref b_10), .val (.ref b_13), .val (.ref b_16), .val (.ref b_20), .val (.ref b_1), .val (.ref b_20), .val (.ref r_100), .val (.int (1 : Int32))] [(.ref b_20)])) t
        refine XS.iconst X_114.here hx rfl (hb hby at_284) ?_
        show Steps p.tables e below (T_114.setTop (mkF m 285 #[.val (.long q1), .second, .val (.int p2), .val (.int p3), .val (.int p4), .val (.int (0 : Int32)), .val (.int (3 : Int32)), .val (.ref b_1), .val (.ref b_2), .val (.ref b_10), .val (.ref b_13), .val (.ref b_16), .val (.ref b_20), .val (.ref b_1), .val (.ref b_20), .val (.ref r_100), .val (.int (1 : Int32))] [(.int (0 : Int32)), (.ref b_20)])) t
        refine XS.aload X_114.here hx rfl (hb hby at_285) rfl rfl ?_
        show Steps p.tables e below (T_114.setTop (mkF m 287 #[.val (.long q1), .second, .val (.int p2), .val (.int p3), .val (.int p4), .val (.int (0 : Int32)), .val (.int (3 : Int32)), .val (.ref b_1), .val (.ref b_2), .val (.ref b_10), .val (.ref b_13), .val (.ref b_16), .val (.ref b_20), .val (.ref b_1), .val (.ref b_20), .val (.ref r_100), .val (.int (1 : Int32))] [(.ref b_20), (.int (0 : Int32)), (.ref b_20)])) t
        refine XS.iconst X_114.here hx rfl (hb hby at_287) ?_
        exact kt
      have f_116 := ((V_33.keep K_100 nin0).other W_114 (Ne.symm ne_b_1_b_20))
      have vq_115 := f_116
      obtain ⟨c_115, a_115, q_115, s_115, m_115, H_115, G_115⟩ := vq_115
      have hin_115 : ¬ ((0 : Int32) < 0 ∨ c_115.slots.size ≤ ((0 : Int32)).toNatClampNeg) := inb_of s_115 ⟨by decide, by decide⟩
      have hat_115 : c_115.slots[((0 : Int32)).toNatClampNeg]? = some (.int (nar .byte (p3.toInt8.toInt32))) := H_115.at hin_115 rfl
      refine own_go (T' := T_114) (g' := (mkF m 289 #[.val (.long q1), .second, .val (.int p2), .val (.int p3), .val (.int p4), .val (.int (0 : Int32)), .val (.int (3 : Int32)), .val (.ref b_1), .val (.ref b_2), .val (.ref b_10), .val (.ref b_13), .val (.ref b_16), .val (.ref b_20), .val (.ref b_1), .val (.ref b_20), .val (.ref r_100), .val (.int (1 : Int32))] [(.int (nar .byte (p3.toInt8.toInt32))), (.int (0 : Int32)), (.ref b_20)])) (fun t kt => ?_) ?_
      · refine X_114.baloadBytes hx (j := (0 : Int32)) (v := (.int (nar .byte (p3.toInt8.toInt32)))) (by rw [e_114]; exact a_115.1) (State.isArrayOf_alike hZ.alike a_115.2.1) a_115.2.2 hin_115 hat_115 (g := (mkF m 288 #[.val (.long q1), .second, .val (.int p2), .val (.int p3), .val (.int p4), .val (.int (0 : Int32)), .val (.int (3 : Int32)), .val (.ref b_1), .val (.ref b_2), .val (.ref b_10), .val (.ref b_13), .val (.ref b_16), .val (.ref b_20), .val (.ref b_1), .val (.ref b_20), .val (.ref r_100), .val (.int (1 : Int32))] [(.int (0 : Int32)), (.ref b_20), (.int (0 : Int32)), (.ref b_20)])) rfl rfl (hb hby at_288) _ ?_
        exact kt
      refine own_go (T' := T_114) (g' := (mkF m 292 #[.val (.long q1), .second, .val (.int p2), .val (.int p3), .val (.int p4), .val (.int (0 : Int32)), .val (.int (3 : Int32)), .val (.ref b_1), .val (.ref b_2), .val (.ref b_10), .val (.ref b_13), .val (.ref b_16), .val (.ref b_20), .val (.ref b_1), .val (.ref b_20), .val (.ref r_100), .val (.int (1 : Int32))] [(.int (((nar .byte (p3.toInt8.toInt32)) ^^^ (1 : Int32)).toInt8.toInt32)), (.int (0 : Int32)), (.ref b_20)])) (fun t kt => ?_) ?_
      · show Steps p.tables e below (T_114.setTop (mkF m 289 #[.val (.long q1), .second, .val (.int p2), .val (.int p3), .val (.int p4), .val (.int (0 : Int32)), .val (.int (3 : Int32)), .val (.ref b_1), .val (.ref b_2), .val (.ref b_10), .val (.ref b_13), .val (.ref b_16), .val (.ref b_20), .val (.ref b_1), .val (.ref b_20), .val (.ref r_100), .val (.int (1 : Int32))] [(.int (nar .byte (p3.toInt8.toInt32))), (.int (0 : Int32)), (.ref b_20)])) t
        refine XS.iconst X_114.here hx rfl (hb hby at_289) ?_
        show Steps p.tables e below (T_114.setTop (mkF m 290 #[.val (.long q1), .second, .val (.int p2), .val (.int p3), .val (.int p4), .val (.int (0 : Int32)), .val (.int (3 : Int32)), .val (.ref b_1), .val (.ref b_2), .val (.ref b_10), .val (.ref b_13), .val (.ref b_16), .val (.ref b_20), .val (.ref b_1), .val (.ref b_20), .val (.ref r_100), .val (.int (1 : Int32))] [(.int (1 : Int32)), (.int (nar .byte (p3.toInt8.toInt32))), (.int (0 : Int32)), (.ref b_20)])) t
        refine XS.ixor X_114.here hx rfl (hb hby at_290) rfl ?_
        show Steps p.tables e below (T_114.setTop (mkF m 291 #[.val (.long q1), .second, .val (.int p2), .val (.int p3), .val (.int p4), .val (.int (0 : Int32)), .val (.int (3 : Int32)), .val (.ref b_1), .val (.ref b_2), .val (.ref b_10), .val (.ref b_13), .val (.ref b_16), .val (.ref b_20), .val (.ref b_1), .val (.ref b_20), .val (.ref r_100), .val (.int (1 : Int32))] [(.int ((nar .byte (p3.toInt8.toInt32)) ^^^ (1 : Int32))), (.int (0 : Int32)), (.ref b_20)])) t
        refine XS.i2b X_114.here hx rfl (hb hby at_291) rfl ?_
        exact kt
      have vq_117 := f_116
      obtain ⟨c_117, a_117, q_117, s_117, m_117, H_117, G_117⟩ := vq_117
      have hin_117 : ¬ ((0 : Int32) < 0 ∨ c_117.slots.size ≤ ((0 : Int32)).toNatClampNeg) := inb_of s_117 ⟨by decide, by decide⟩
      obtain ⟨T_117, h_117, X_117, e_117, W_117, st_117⟩ := stB X_114 hx hZ e_114 a_117 (j := (0 : Int32)) hin_117 (g := (mkF m 292 #[.val (.long q1), .second, .val (.int p2), .val (.int p3), .val (.int p4), .val (.int (0 : Int32)), .val (.int (3 : Int32)), .val (.ref b_1), .val (.ref b_2), .val (.ref b_10), .val (.ref b_13), .val (.ref b_16), .val (.ref b_20), .val (.ref b_1), .val (.ref b_20), .val (.ref r_100), .val (.int (1 : Int32))] [(.int (((nar .byte (p3.toInt8.toInt32)) ^^^ (1 : Int32)).toInt8.toInt32)), (.int (0 : Int32)), (.ref b_20)])) rfl rfl (hb hby at_292)
      have V_117 : Arv Z h_117 b_20 k_20 .byte (3 : Int32) [(.int (nar .byte (((nar .byte (p3.toInt8.toInt32)) ^^^ (1 : Int32)).toInt8.toInt32))), (.int (nar .byte (((p3.toUInt32 >>> ((8 : Int32) &&& 31).toUInt32).toInt32).toInt8.toInt32))), (.int (nar .byte (((p3.toUInt32 >>> ((16 : Int32) &&& 31).toUInt32).toInt32).toInt8.toInt32)))] (.int (0 : Int32)) := Arv.set a_117 q_117 s_117 m_117 H_117 G_117 (fits_nar_byte _) W_117 0 rfl (Nat.le_of_ble_eq_true rfl)
      have Z_117 : n0 ≤ h_117.size := Nat.le_trans Z_114 (Keep.of_wr W_117).1
      have N_117 := Fr.snoc X_117 N_114 g_b_20
      refine own_go (g' := (mkF m 293 #[.val (.long q1), .second, .val (.int p2), .val (.int p3), .val (.int p4), .val (.int (0 : Int32)), .val (.int (3 : Int32)), .val (.ref b_1), .val (.ref b_2), .val (.ref b_10), .val (.ref b_13), .val (.ref b_16), .val (.ref b_20), .val (.ref b_1), .val (.ref b_20), .val (.ref r_100), .val (.int (1 : Int32))] [])) st_117 ?_
      refine own_go (T' := T_117) (g' := (mkF m 297 #[.val (.long q1), .second, .val (.int p2), .val (.int p3), .val (.int p4), .val (.int (0 : Int32)), .val (.int (3 : Int32)), .val (.ref b_1), .val (.ref b_2), .val (.ref b_10), .val (.ref b_13), .val (.ref b_16), .val (.ref b_20), .val (.ref b_1), .val (.ref b_20), .val (.ref r_100), .val (.int (1 : Int32))] [(.int (7 : Int32)), (.ref r_100)])) (fun t kt => ?_) ?_
      · show Steps p.tables e below (T_117.setTop (mkF m 293 #[.val (.long q1), .second, .val (.int p2), .val (.int p3), .val (.int p4), .val (.int (0 : Int32)), .val (.int (3 : Int32)), .val (.ref b_1), .val (.ref b_2), .val (.ref b_10), .val (.ref b_13), .val (.ref b_16), .val (.ref b_20), .val (.ref b_1), .val (.ref b_20), .val (.ref r_100), .val (.int (1 : Int32))] [])) t
        refine XS.aload X_117.here hx rfl (hb hby at_293) rfl rfl ?_
        show Steps p.tables e below (T_117.setTop (mkF m 295 #[.val (.long q1), .second, .val (.int p2), .val (.int p3), .val (.int p4), .val (.int (0 : Int32)), .val (.int (3 : Int32)), .val (.ref b_1), .val (.ref b_2), .val (.ref b_10), .val (.ref b_13), .val (.ref b_16), .val (.ref b_20), .val (.ref b_1), .val (.ref b_20), .val (.ref r_100), .val (.int (1 : Int32))] [(.ref r_100)])) t
        refine XS.bipush X_117.here hx rfl (hb hby at_295) ?_
        exact kt
      have f_119 := ((V_100.other W_114 (Ne.symm ne_b_1_r_100)).other W_117 (Ne.symm ne_b_20_r_100))
      have vq_118 := f_119
      obtain ⟨c_118, a_118, q_118, s_118, m_118, H_118, G_118⟩ := vq_118
      have hin_118 : ¬ ((7 : Int32) < 0 ∨ c_118.slots.size ≤ ((7 : Int32)).toNatClampNeg) := inb_of s_118 ⟨by decide, by decide⟩
      have hat_118 : c_118.slots[((7 : Int32)).toNatClampNeg]? = some (.int (own_b0 q1)) := H_118.at hin_118 rfl
      refine own_go (T' := T_117) (g' := (mkF m 298 #[.val (.long q1), .second, .val (.int p2), .val (.int p3), .val (.int p4), .val (.int (0 : Int32)), .val (.int (3 : Int32)), .val (.ref b_1), .val (.ref b_2), .val (.ref b_10), .val (.ref b_13), .val (.ref b_16), .val (.ref b_20), .val (.ref b_1), .val (.ref b_20), .val (.ref r_100), .val (.int (1 : Int32))] [(.int (own_b0 q1))])) (fun t kt => ?_) ?_
      · refine X_117.baloadBytes hx (j := (7 : Int32)) (v := (.int (own_b0 q1))) (by rw [e_117]; exact a_118.1) (State.isArrayOf_alike hZ.alike a_118.2.1) a_118.2.2 hin_118 hat_118 (g := (mkF m 297 #[.val (.long q1), .second, .val (.int p2), .val (.int p3), .val (.int p4), .val (.int (0 : Int32)), .val (.int (3 : Int32)), .val (.ref b_1), .val (.ref b_2), .val (.ref b_10), .val (.ref b_13), .val (.ref b_16), .val (.ref b_20), .val (.ref b_1), .val (.ref b_20), .val (.ref r_100), .val (.int (1 : Int32))] [(.int (7 : Int32)), (.ref r_100)])) rfl rfl (hb hby at_297) _ ?_
        exact kt
      refine own_go (T' := T_117) (g' := (mkF m 313 #[.val (.long q1), .second, .val (.int p2), .val (.int p3), .val (.int p4), .val (.int (0 : Int32)), .val (.int (3 : Int32)), .val (.ref b_1), .val (.ref b_2), .val (.ref b_10), .val (.ref b_13), .val (.ref b_16), .val (.ref b_20), .val (.ref b_1), .val (.ref b_20), .val (.ref r_100), .val (.int (1 : Int32))] [(.int (8 : Int32)), (.ref r_100)])) (fun t kt => ?_) ?_
      · show Steps p.tables e below (T_117.setTop (mkF m 298 #[.val (.long q1), .second, .val (.int p2), .val (.int p3), .val (.int p4), .val (.int (0 : Int32)), .val (.int (3 : Int32)), .val (.ref b_1), .val (.ref b_2), .val (.ref b_10), .val (.ref b_13), .val (.ref b_16), .val (.ref b_20), .val (.ref b_1), .val (.ref b_20), .val (.ref r_100), .val (.int (1 : Int32))] [(.int (own_b0 q1))])) t
        refine XS.lloadN X_117.here hx rfl (hb hby at_298) rfl ?_
        show Steps p.tables e below (T_117.setTop (mkF m 299 #[.val (.long q1), .second, .val (.int p2), .val (.int p3), .val (.int p4), .val (.int (0 : Int32)), .val (.int (3 : Int32)), .val (.ref b_1), .val (.ref b_2), .val (.ref b_10), .val (.ref b_13), .val (.ref b_16), .val (.ref b_20), .val (.ref b_1), .val (.ref b_20), .val (.ref r_100), .val (.int (1 : Int32))] [(.long q1), (.int (own_b0 q1))])) t
        refine XS.l2i X_117.here hx rfl (hb hby at_299) rfl ?_
        show Steps p.tables e below (T_117.setTop (mkF m 300 #[.val (.long q1), .second, .val (.int p2), .val (.int p3), .val (.int p4), .val (.int (0 : Int32)), .val (.int (3 : Int32)), .val (.ref b_1), .val (.ref b_2), .val (.ref b_10), .val (.ref b_13), .val (.ref b_16), .val (.ref b_20), .val (.ref b_1), .val (.ref b_20), .val (.ref r_100), .val (.int (1 : Int32))] [(.int (q1.toInt32)), (.int (own_b0 q1))])) t
        refine XS.i2b X_117.here hx rfl (hb hby at_300) rfl ?_
        show Steps p.tables e below (T_117.setTop (mkF m 301 #[.val (.long q1), .second, .val (.int p2), .val (.int p3), .val (.int p4), .val (.int (0 : Int32)), .val (.int (3 : Int32)), .val (.ref b_1), .val (.ref b_2), .val (.ref b_10), .val (.ref b_13), .val (.ref b_16), .val (.ref b_20), .val (.ref b_1), .val (.ref b_20), .val (.ref r_100), .val (.int (1 : Int32))] [(.int ((q1.toInt32).toInt8.toInt32)), (.int (own_b0 q1))])) t
        refine XS.icmpNo X_117.here hx rfl (hb hby at_301) rfl (teq (own_b0_eq q1 : (own_b0 q1) = ((q1.toInt32).toInt8.toInt32))).2 ?_
        show Steps p.tables e below (T_117.setTop (mkF m 304 #[.val (.long q1), .second, .val (.int p2), .val (.int p3), .val (.int p4), .val (.int (0 : Int32)), .val (.int (3 : Int32)), .val (.ref b_1), .val (.ref b_2), .val (.ref b_10), .val (.ref b_13), .val (.ref b_16), .val (.ref b_20), .val (.ref b_1), .val (.ref b_20), .val (.ref r_100), .val (.int (1 : Int32))] [])) t
        refine XS.iload X_117.here hx rfl (hb hby at_304) rfl ?_
        show Steps p.tables e below (T_117.setTop (mkF m 306 #[.val (.long q1), .second, .val (.int p2), .val (.int p3), .val (.int p4), .val (.int (0 : Int32)), .val (.int (3 : Int32)), .val (.ref b_1), .val (.ref b_2), .val (.ref b_10), .val (.ref b_13), .val (.ref b_16), .val (.ref b_20), .val (.ref b_1), .val (.ref b_20), .val (.ref r_100), .val (.int (1 : Int32))] [(.int (3 : Int32))])) t
        refine XS.ifNo X_117.here hx rfl (hb hby at_306) rfl ((if0 _ _).trans (feq (by decide : ¬ ((3 : Int32) = (0 : Int32)))).1) ?_
        show Steps p.tables e below (T_117.setTop (mkF m 309 #[.val (.long q1), .second, .val (.int p2), .val (.int p3), .val (.int p4), .val (.int (0 : Int32)), .val (.int (3 : Int32)), .val (.ref b_1), .val (.ref b_2), .val (.ref b_10), .val (.ref b_13), .val (.ref b_16), .val (.ref b_20), .val (.ref b_1), .val (.ref b_20), .val (.ref r_100), .val (.int (1 : Int32))] [])) t
        refine XS.aload X_117.here hx rfl (hb hby at_309) rfl rfl ?_
        show Steps p.tables e below (T_117.setTop (mkF m 311 #[.val (.long q1), .second, .val (.int p2), .val (.int p3), .val (.int p4), .val (.int (0 : Int32)), .val (.int (3 : Int32)), .val (.ref b_1), .val (.ref b_2), .val (.ref b_10), .val (.ref b_13), .val (.ref b_16), .val (.ref b_20), .val (.ref b_1), .val (.ref b_20), .val (.ref r_100), .val (.int (1 : Int32))] [(.ref r_100)])) t
        refine XS.bipush X_117.here hx rfl (hb hby at_311) ?_
        exact kt
      have vq_120 := f_119
      obtain ⟨c_120, a_120, q_120, s_120, m_120, H_120, G_120⟩ := vq_120
      have hin_120 : ¬ ((8 : Int32) < 0 ∨ c_120.slots.size ≤ ((8 : Int32)).toNatClampNeg) := inb_of s_120 ⟨by decide, by decide⟩
      have hat_120 : c_120.slots[((8 : Int32)).toNatClampNeg]? = some (.int (nar .byte (p3.toInt8.toInt32))) := H_120.at hin_120 rfl
      refine own_go (T' := T_117) (g' := (mkF m 314 #[.val (.long q1), .second, .val (.int p2), .val (.int p3), .val (.int p4), .val (.int (0 : Int32)), .val (.int (3 : Int32)), .val (.ref b_1), .val (.ref b_2), .val (.ref b_10), .val (.ref b_13), .val (.ref b_16), .val (.ref b_20), .val (.ref b_1), .val (.ref b_20), .val (.ref r_100), .val (.int (1 : Int32))] [(.int (nar .byte (p3.toInt8.toInt32)))])) (fun t kt => ?_) ?_
      · refine X_117.baloadBytes hx (j := (8 : Int32)) (v := (.int (nar .byte (p3.toInt8.toInt32)))) (by rw [e_117]; exact a_120.1) (State.isArrayOf_alike hZ.alike a_120.2.1) a_120.2.2 hin_120 hat_120 (g := (mkF m 313 #[.val (.long q1), .second, .val (.int p2), .val (.int p3), .val (.int p4), .val (.int (0 : Int32)), .val (.int (3 : Int32)), .val (.ref b_1), .val (.ref b_2), .val (.ref b_10), .val (.ref b_13), .val (.ref b_16), .val (.ref b_20), .val (.ref b_1), .val (.ref b_20), .val (.ref r_100), .val (.int (1 : Int32))] [(.int (8 : Int32)), (.ref r_100)])) rfl rfl (hb hby at_313) _ ?_
        exact kt
      refine own_go (T' := T_117) (g' := (mkF m 324 #[.val (.long q1), .second, .val (.int p2), .val (.int p3), .val (.int p4), .val (.int (0 : Int32)), .val (.int (3 : Int32)), .val (.ref b_1), .val (.ref b_2), .val (.ref b_10), .val (.ref b_13), .val (.ref b_16), .val (.ref b_20), .val (.ref b_1), .val (.ref b_20), .val (.ref r_100), .val (.int (1 : Int32))] [(.int (1 : Int32))])) (fun t kt => ?_) ?_
      · show Steps p.tables e below (T_117.setTop (mkF m 314 #[.val (.long q1), .second, .val (.int p2), .val (.int p3), .val (.int p4), .val (.int (0 : Int32)), .val (.int (3 : Int32)), .val (.ref b_1), .val (.ref b_2), .val (.ref b_10), .val (.ref b_13), .val (.ref b_16), .val (.ref b_20), .val (.ref b_1), .val (.ref b_20), .val (.ref r_100), .val (.int (1 : Int32))] [(.int (nar .byte (p3.toInt8.toInt32)))])) t
        refine XS.iloadN X_117.here hx rfl (hb hby at_314) rfl ?_
        show Steps p.tables e below (T_117.setTop (mkF m 315 #[.val (.long q1), .second, .val (.int p2), .val (.int p3), .val (.int p4), .val (.int (0 : Int32)), .val (.int (3 : Int32)), .val (.ref b_1), .val (.ref b_2), .val (.ref b_10), .val (.ref b_13), .val (.ref b_16), .val (.ref b_20), .val (.ref b_1), .val (.ref b_20), .val (.ref r_100), .val (.int (1 : Int32))] [(.int p3), (.int (nar .byte (p3.toInt8.toInt32)))])) t
        refine XS.i2b X_117.here hx rfl (hb hby at_315) rfl ?_
        show Steps p.tables e below (T_117.setTop (mkF m 316 #[.val (.long q1), .second, .val (.int p2), .val (.int p3), .val (.int p4), .val (.int (0 : Int32)), .val (.int (3 : Int32)), .val (.ref b_1), .val (.ref b_2), .val (.ref b_10), .val (.ref b_13), .val (.ref b_16), .val (.ref b_20), .val (.ref b_1), .val (.ref b_20), .val (.ref r_100), .val (.int (1 : Int32))] [(.int (p3.toInt8.toInt32)), (.int (nar .byte (p3.toInt8.toInt32)))])) t
        refine XS.icmpNo X_117.here hx rfl (hb hby at_316) rfl (teq (own_nar _ : (nar .byte (p3.toInt8.toInt32)) = (p3.toInt8.toInt32))).2 ?_
        show Steps p.tables e below (T_117.setTop (mkF m 319 #[.val (.long q1), .second, .val (.int p2), .val (.int p3), .val (.int p4), .val (.int (0 : Int32)), .val (.int (3 : Int32)), .val (.ref b_1), .val (.ref b_2), .val (.ref b_10), .val (.ref b_13), .val (.ref b_16), .val (.ref b_20), .val (.ref b_1), .val (.ref b_20), .val (.ref r_100), .val (.int (1 : Int32))] [])) t
        refine XS.iconst X_117.here hx rfl (hb hby at_319) ?_
        show Steps p.tables e below (T_117.setTop (mkF m 320 #[.val (.long q1), .second, .val (.int p2), .val (.int p3), .val (.int p4), .val (.int (0 : Int32)), .val (.int (3 : Int32)), .val (.ref b_1), .val (.ref b_2), .val (.ref b_10), .val (.ref b_13), .val (.ref b_16), .val (.ref b_20), .val (.ref b_1), .val (.ref b_20), .val (.ref r_100), .val (.int (1 : Int32))] [(.int (1 : Int32))])) t
        refine XS.goto X_117.here hx rfl (pc0 := 320) (pc' := 324) rfl (hb hby at_320) (by decide) (by decide) ?_
        exact kt
      obtain ⟨fs, hr, hrun, hended, hW, hsame⟩ := X_117.leave (v := some (.int (1 : Int32))) (fun h => by rw [Bd.returns] at h; cases h)
      refine ⟨_, _, ?_, hrun, hended, _, _, rfl, ?_, ⟨_, rfl⟩, hW, hsame.mono (by decide) (by decide)⟩
      · exact retN X_117 hx (t := .boolean) Bd.returns (by simp) (hb hby at_324) hr
      · show Q_rm0 Z _ _ _ _ h0 n0 _ T_117.heap _
        rw [e_117]
        exact ⟨rfl, N_117⟩
  · rcases hn4 with rfl | rfl | rfl | rfl
    · refine own_go (T' := T_33) (g' := (mkF m 189 #[.val (.long q1), .second, .val (.int p2), .val (.int p3), .val (.int p4), .val (.int (1 : Int32)), .val (.int (0 : Int32)), .val (.ref b_1), .val (.ref b_2), .val (.ref b_10), .val (.ref b_13), .val (.ref b_16), .val (.ref b_20), .val (.ref b_2), .val (.ref b_10), .unset, .unset] [(.ref b_10), (.ref b_2)])) (fun t kt => ?_) ?_
      · show Steps p.tables e below (T_33.setTop (mkF m 135 #[.val (.long q1), .second, .val (.int p2), .val (.int p3), .val (.int p4), .val (.int (1 : Int32)), .val (.int (0 : Int32)), .val (.ref b_1), .val (.ref b_2), .val (.ref b_10), .val (.ref b_13), .val (.ref b_16), .val (.ref b_20), .unset, .unset, .unset, .unset] [])) t
        refine XS.iload X_33.here hx rfl (hb hby at_135) rfl ?_
        show Steps p.tables e below (T_33.setTop (mkF m 137 #[.val (.long q1), .second, .val (.int p2), .val (.int p3), .val (.int p4), .val (.int (1 : Int32)), .val (.int (0 : Int32)), .val (.ref b_1), .val (.ref b_2), .val (.ref b_10), .val (.ref b_13), .val (.ref b_16), .val (.ref b_20), .unset, .unset, .unset, .unset] [(.int (1 : Int32))])) t
        refine XS.ifNo X_33.here hx rfl (hb hby at_137) rfl ((if0 _ _).trans (feq (by decide : ¬ ((1 : Int32) = (0 : Int32)))).1) ?_
        show Steps p.tables e below (T_33.setTop (mkF m 140 #[.val (.long q1), .second, .val (.int p2), .val (.int p3), .val (.int p4), .val (.int (1 : Int32)), .val (.int (0 : Int32)), .val (.ref b_1), .val (.ref b_2), .val (.ref b_10), .val (.ref b_13), .val (.ref b_16), .val (.ref b_20), .unset, .unset, .unset, .unset] [])) t
        refine XS.aload X_33.here hx rfl (hb hby at_140) rfl rfl ?_
        show Steps p.tables e below (T_33.setTop (mkF m 142 #[.val (.long q1), .second, .val (.int p2), .val (.int p3), .val (.int p4), .val (.int (1 : Int32)), .val (.int (0 : Int32)), .val (.ref b_1), .val (.ref b_2), .val (.ref b_10), .val (.ref b_13), .val (.ref b_16), .val (.ref b_20), .unset, .unset, .unset, .unset] [(.ref b_2)])) t
        refine XS.goto X_33.here hx rfl (pc0 := 142) (pc' := 147) rfl (hb hby at_142) (by decide) (by decide) ?_
        show Steps p.tables e below (T_33.setTop (mkF m 147 #[.val (.long q1), .second, .val (.int p2), .val (.int p3), .val (.int p4), .val (.int (1 : Int32)), .val (.int (0 : Int32)), .val (.ref b_1), .val (.ref b_2), .val (.ref b_10), .val (.ref b_13), .val (.ref b_16), .val (.ref b_20), .unset, .unset, .unset, .unset] [(.ref b_2)])) t
        refine XS.astore X_33.here hx rfl (hb hby at_147) rfl rfl (l' := #[.val (.long q1), .second, .val (.int p2), .val (.int p3), .val (.int p4), .val (.int (1 : Int32)), .val (.int (0 : Int32)), .val (.ref b_1), .val (.ref b_2), .val (.ref b_10), .val (.ref b_13), .val (.ref b_16), .val (.ref b_20), .val (.ref b_2), .unset, .unset, .unset]) rfl ?_
        show Steps p.tables e below (T_33.setTop (mkF m 149 #[.val (.long q1), .second, .val (.int p2), .val (.int p3), .val (.int p4), .val (.int (1 : Int32)), .val (.int (0 : Int32)), .val (.ref b_1), .val (.ref b_2), .val (.ref b_10), .val (.ref b_13), .val (.ref b_16), .val (.ref b_20), .val (.ref b_2), .unset, .unset, .unset] [])) t
        refine XS.iload X_33.here hx rfl (hb hby at_149) rfl ?_
        show Steps p.tables e below (T_33.setTop (mkF m 151 #[.val (.long q1), .second, .val (.int p2), .val (.int p3), .val (.int p4), .val (.int (1 : Int32)), .val (.int (0 : Int32)), .val (.ref b_1), .val (.ref b_2), .val (.ref b_10), .val (.ref b_13), .val (.ref b_16), .val (.ref b_20), .val (.ref b_2), .unset, .unset, .unset] [(.int (0 : Int32))])) t
        refine XS.ifNo X_33.here hx rfl (hb hby at_151) rfl ((if0 _ _).trans (teq (by decide : (0 : Int32) = (0 : Int32))).2) ?_
        show Steps p.tables e below (T_33.setTop (mkF m 154 #[.val (.long q1), .second, .val (.int p2), .val (.int p3), .val (.int p4), .val (.int (1 : Int32)), .val (.int (0 : Int32)), .val (.ref b_1), .val (.ref b_2), .val (.ref b_10), .val (.ref b_13), .val (.ref b_16), .val (.ref b_20), .val (.ref b_2), .unset, .unset, .unset] [])) t
        refine XS.aload X_33.here hx rfl (hb hby at_154) rfl rfl ?_
        show Steps p.tables e below (T_33.setTop (mkF m 156 #[.val (.long q1), .second, .val (.int p2), .val (.int p3), .val (.int p4), .val (.int (1 : Int32)), .val (.int (0 : Int32)), .val (.ref b_1), .val (.ref b_2), .val (.ref b_10), .val (.ref b_13), .val (.ref b_16), .val (.ref b_20), .val (.ref b_2), .unset, .unset, .unset] [(.ref b_10)])) t
        refine XS.goto X_33.here hx rfl (pc0 := 156) (pc' := 183) rfl (hb hby at_156) (by decide) (by decide) ?_
        show Steps p.tables e below (T_33.setTop (mkF m 183 #[.val (.long q1), .second, .val (.int p2), .val (.int p3), .val (.int p4), .val (.int (1 : Int32)), .val (.int (0 : Int32)), .val (.ref b_1), .val (.ref b_2), .val (.ref b_10), .val (.ref b_13), .val (.ref b_16), .val (.ref b_20), .val (.ref b_2), .unset, .unset, .unset] [(.ref b_10)])) t
        refine XS.astore X_33.here hx rfl (hb hby at_183) rfl rfl (l' := #[.val (.long q1), .second, .val (.int p2), .val (.int p3), .val (.int p4), .val (.int (1 : Int32)), .val (.int (0 : Int32)), .val (.ref b_1), .val (.ref b_2), .val (.ref b_10), .val (.ref b_13), .val (.ref b_16), .val (.ref b_20), .val (.ref b_2), .val (.ref b_10), .unset, .unset]) rfl ?_
        show Steps p.tables e below (T_33.setTop (mkF m 185 #[.val (.long q1), .second, .val (.int p2), .val (.int p3), .val (.int p4), .val (.int (1 : Int32)), .val (.int (0 : Int32)), .val (.ref b_1), .val (.ref b_2), .val (.ref b_10), .val (.ref b_13), .val (.ref b_16), .val (.ref b_20), .val (.ref b_2), .val (.ref b_10), .unset, .unset] [])) t
        refine XS.aload X_33.here hx rfl (hb hby at_185) rfl rfl ?_
        show Steps p.tables e below (T_33.setTop (mkF m 187 #[.val (.long q1), .second, .val (.int p2), .val (.int p3), .val (.int p4), .val (.int (1 : Int32)), .val (.int (0 : Int32)), .val (.ref b_1), .val (.ref b_2), .val (.ref b_10), .val (.ref b_13), .val (.ref b_16), .val (.ref b_20), .val (.ref b_2), .val (.ref b_10), .unset, .unset] [(.ref b_2)])) t
        refine XS.aload X_33.here hx rfl (hb hby at_187) rfl rfl ?_
        exact kt
      have f_121 := ((((((((((V_9.ext E_10).ext E_13).ext E_16).ext E_20).other W_25 ne_b_2_b_13).other W_27 ne_b_2_b_16).other W_29 ne_b_2_b_16).other W_30 ne_b_2_b_20).other W_32 ne_b_2_b_20).other W_33 ne_b_2_b_20)
      have f_122 := (((((((((V_10.ext E_13).ext E_16).ext E_20).other W_25 ne_b_10_b_13).other W_27 ne_b_10_b_16).other W_29 ne_b_10_b_16).other W_30 ne_b_10_b_20).other W_32 ne_b_10_b_20).other W_33 ne_b_10_b_20)
      obtain ⟨_, _, ⟨T_123, L_123, k_123, n_123⟩, -, X_123, ⟨Lc_123, hQ_123, l_123, y_123, z_123⟩, st_123⟩ := Jvm.LawKit.callS X_33 hx (y := (⟨"com/example/thin_table/thintable/model/KeyOrder", "newestValue", "([B[B)[B"⟩ : MethodName)) hown (mvT hZ (hw _ (List.mem_of_getElem? (i := 5) rfl))) (mvT hZ (hw _ (List.mem_of_getElem? (i := 6) rfl))) (mvT hZ (hw _ (List.mem_of_getElem? (i := 7) rfl))) (mvT hZ (hw _ (List.mem_of_getElem? (i := 8) rfl))) (by decide) (backOf (W := 0) (rnew11_0 l Z a0 hw [] (b_2) (b_10) k_2 k_10 [(.int (nar .byte (p2.toInt8.toInt32))), (.int (nar .byte (((p2.toUInt32 >>> ((8 : Int32) &&& 31).toUInt32).toInt32).toInt8.toInt32))), (.int (nar .byte (((p2.toUInt32 >>> ((16 : Int32) &&& 31).toUInt32).toInt32).toInt8.toInt32))), (.int (own_by q1 56)), (.int (own_by q1 48)), (.int (own_by q1 40)), (.int (own_by q1 32)), (.int (own_by q1 24)), (.int (own_by q1 16)), (.int (own_by q1 8)), (.int (own_b0 q1))] [] h_33 n0 Z_33 f_121 f_122) hZ (hw _ (List.mem_of_getElem? (i := 8) rfl)) (hw _ (List.mem_of_getElem? (i := 7) rfl)) (by decide) (by decide)) (g := (mkF m 189 #[.val (.long q1), .second, .val (.int p2), .val (.int p3), .val (.int p4), .val (.int (1 : Int32)), .val (.int (0 : Int32)), .val (.ref b_1), .val (.ref b_2), .val (.ref b_10), .val (.ref b_13), .val (.ref b_16), .val (.ref b_20), .val (.ref b_2), .val (.ref b_10), .unset, .unset] [(.ref b_10), (.ref b_2)])) rfl (by rw [hml]; rfl) (argsL := [(.ref b_2), (.ref b_10)]) (rest := []) (lenOf pd_1 rfl) rfl (by show 2 * 0 + _ ≤ _; exact Nat.le_of_eq rfl) (hb hby at_189) (fun _ _ => ⟨rfl, e_33, (by decide : 6 + 1 ≤ _), (by decide : 25 + 8 ≤ _)⟩)
      dsimp only [Pt.U, Pt.locs, Pt.cells, Pt.slots] at X_123 l_123 y_123 z_123 st_123 hQ_123
      subst l_123 y_123 z_123
      obtain ⟨r_123, kB_123, rfl, N_123q, K_123, sr_123, V_123⟩ := hQ_123
      have N_123 := Fr.app N_33 N_123q
      have f_124 := (((((((f_21.ext E_20).wr W_25).wr W_27).wr W_29).wr W_30).wr W_32).wr W_33)
      have ne_b_1_r_123 : b_1 ≠ r_123 := Nat.ne_of_lt (Nat.lt_of_lt_of_le f_124.lt sr_123)
      have f_125 := (((((((f_22.ext E_20).wr W_25).wr W_27).wr W_29).wr W_30).wr W_32).wr W_33)
      have ne_b_2_r_123 : b_2 ≠ r_123 := Nat.ne_of_lt (Nat.lt_of_lt_of_le f_125.lt sr_123)
      have f_126 := (((((((f_23.ext E_20).wr W_25).wr W_27).wr W_29).wr W_30).wr W_32).wr W_33)
      have ne_b_10_r_123 : b_10 ≠ r_123 := Nat.ne_of_lt (Nat.lt_of_lt_of_le f_126.lt sr_123)
      have f_127 := (((((((f_24.ext E_20).wr W_25).wr W_27).wr W_29).wr W_30).wr W_32).wr W_33)
      have ne_b_13_r_123 : b_13 ≠ r_123 := Nat.ne_of_lt (Nat.lt_of_lt_of_le f_127.lt sr_123)
      have f_128 := (((((((B_16.ext E_20).wr W_25).wr W_27).wr W_29).wr W_30).wr W_32).wr W_33)
      have ne_b_16_r_123 : b_16 ≠ r_123 := Nat.ne_of_lt (Nat.lt_of_lt_of_le f_128.lt sr_123)
      have f_129 := ((((((B_20.wr W_25).wr W_27).wr W_29).wr W_30).wr W_32).wr W_33)
      have ne_b_20_r_123 : b_20 ≠ r_123 := Nat.ne_of_lt (Nat.lt_of_lt_of_le f_129.lt sr_123)
      have g_r_123 : n0 ≤ r_123 := Nat.le_trans Z_33 sr_123
      have Z_123 : n0 ≤ T_123.heap.size := Nat.le_trans Z_33 K_123.1
      refine own_go (g' := (mkF m 192 #[.val (.long q1), .second, .val (.int p2), .val (.int p3), .val (.int p4), .val (.int (1 : Int32)), .val (.int (0 : Int32)), .val (.ref b_1), .val (.ref b_2), .val (.ref b_10), .val (.ref b_13), .val (.ref b_16), .val (.ref b_20), .val (.ref b_2), .val (.ref b_10), .unset, .unset] [(.ref r_123)])) st_123 ?_
      replace V_123 : Arv Z T_123.heap r_123 kB_123 .byte (8 : Int32) [(.int (own_by q1 56)), (.int (own_by q1 48)), (.int (own_by q1 40)), (.int (own_by q1 32)), (.int (own_by q1 24)), (.int (own_by q1 16)), (.int (own_by q1 8)), (.int (own_b0 q1))] (.int (0 : Int32)) := V_123
      refine own_go (T' := T_123) (g' := (mkF m 201 #[.val (.long q1), .second, .val (.int p2), .val (.int p3), .val (.int p4), .val (.int (1 : Int32)), .val (.int (0 : Int32)), .val (.ref b_1), .val (.ref b_2), .val (.ref b_10), .val (.ref b_13), .val (.ref b_16), .val (.ref b_20), .val (.ref b_2), .val (.ref b_10), .val (.ref r_123), .unset] [(.ref r_123)])) (fun t kt => ?_) ?_
      · show Steps p.tables e below (T_123.setTop (mkF m 192 #[.val (.long q1), .second, .val (.int p2), .val (.int p3), .val (.int p4), .val (.int (1 : Int32)), .val (.int (0 : Int32)), .val (.ref b_1), .val (.ref b_2), .val (.ref b_10), .val (.ref b_13), .val (.ref b_16), .val (.ref b_20), .val (.ref b_2), .val (.ref b_10), .unset, .unset] [(.ref r_123)])) t
        refine XS.astore X_123.here hx rfl (hb hby at_192) rfl rfl (l' := #[.val (.long q1), .second, .val (.int p2), .val (.int p3), .val (.int p4), .val (.int (1 : Int32)), .val (.int (0 : Int32)), .val (.ref b_1), .val (.ref b_2), .val (.ref b_10), .val (.ref b_13), .val (.ref b_16), .val (.ref b_20), .val (.ref b_2), .val (.ref b_10), .val (.ref r_123), .unset]) rfl ?_
        show Steps p.tables e below (T_123.setTop (mkF m 194 #[.val (.long q1), .second, .val (.int p2), .val (.int p3), .val (.int p4), .val (.int (1 : Int32)), .val (.int (0 : Int32)), .val (.ref b_1), .val (.ref b_2), .val (.ref b_10), .val (.ref b_13), .val (.ref b_16), .val (.ref b_20), .val (.ref b_2), .val (.ref b_10), .val (.ref r_123), .unset] [])) t
        refine XS.aload X_123.here hx rfl (hb hby at_194) rfl rfl ?_
        show Steps p.tables e below (T_123.setTop (mkF m 196 #[.val (.long q1), .second, .val (.int p2), .val (.int p3), .val (.int p4), .val (.int (1 : Int32)), .val (.int (0 : Int32)), .val (.ref b_1), .val (.ref b_2), .val (.ref b_10), .val (.ref b_13), .val (.ref b_16), .val (.ref b_20), .val (.ref b_2), .val (.ref b_10), .val (.ref r_123), .unset] [(.ref r_123)])) t
        refine XS.ifnullNo X_123.here hx rfl (hb hby at_196) rfl ?_
        show Steps p.tables e below (T_123.setTop (mkF m 199 #[.val (.long q1), .second, .val (.int p2), .val (.int p3), .val (.int p4), .val (.int (1 : Int32)), .val (.int (0 : Int32)), .val (.ref b_1), .val (.ref b_2), .val (.ref b_10), .val (.ref b_13), .val (.ref b_16), .val (.ref b_20), .val (.ref b_2), .val (.ref b_10), .val (.ref r_123), .unset] [])) t
        refine XS.aload X_123.here hx rfl (hb hby at_199) rfl rfl ?_
        exact kt
      have vq_130 := V_123
      obtain ⟨c_130, a_130, -, s_130, m_130, -, -⟩ := vq_130
      refine own_go (T' := T_123) (g' := (mkF m 202 #[.val (.long q1), .second, .val (.int p2), .val (.int p3), .val (.int p4), .val (.int (1 : Int32)), .val (.int (0 : Int32)), .val (.ref b_1), .val (.ref b_2), .val (.ref b_10), .val (.ref b_13), .val (.ref b_16), .val (.ref b_20), .val (.ref b_2), .val (.ref b_10), .val (.ref r_123), .unset] [(.int (8 : Int32))])) (fun t kt => ?_) ?_
      · refine X_123.arraylength hx a_130.1 (State.isArrayOf_alike hZ.alike a_130.2.1) (g := (mkF m 201 #[.val (.long q1), .second, .val (.int p2), .val (.int p3), .val (.int p4), .val (.int (1 : Int32)), .val (.int (0 : Int32)), .val (.ref b_1), .val (.ref b_2), .val (.ref b_10), .val (.ref b_13), .val (.ref b_16), .val (.ref b_20), .val (.ref b_2), .val (.ref b_10), .val (.ref r_123), .unset] [(.ref r_123)])) rfl rfl (hb hby at_201) _ ?_
        rw [len_of s_130 m_130]
        exact kt
      refine own_go (T' := T_123) (g' := (mkF m 227 #[.val (.long q1), .second, .val (.int p2), .val (.int p3), .val (.int p4), .val (.int (1 : Int32)), .val (.int (0 : Int32)), .val (.ref b_1), .val (.ref b_2), .val (.ref b_10), .val (.ref b_13), .val (.ref b_16), .val (.ref b_20), .val (.ref b_2), .val (.ref b_10), .val (.ref r_123), .unset] [(.long q1), (.ref r_123)])) (fun t kt => ?_) ?_
      · show Steps p.tables e below (T_123.setTop (mkF m 202 #[.val (.long q1), .second, .val (.int p2), .val (.int p3), .val (.int p4), .val (.int (1 : Int32)), .val (.int (0 : Int32)), .val (.ref b_1), .val (.ref b_2), .val (.ref b_10), .val (.ref b_13), .val (.ref b_16), .val (.ref b_20), .val (.ref b_2), .val (.ref b_10), .val (.ref r_123), .unset] [(.int (8 : Int32))])) t
        refine XS.bipush X_123.here hx rfl (hb hby at_202) ?_
        show Steps p.tables e below (T_123.setTop (mkF m 204 #[.val (.long q1), .second, .val (.int p2), .val (.int p3), .val (.int p4), .val (.int (1 : Int32)), .val (.int (0 : Int32)), .val (.ref b_1), .val (.ref b_2), .val (.ref b_10), .val (.ref b_13), .val (.ref b_16), .val (.ref b_20), .val (.ref b_2), .val (.ref b_10), .val (.ref r_123), .unset] [(.int (8 : Int32)), (.int (8 : Int32))])) t
        refine XS.iload X_123.here hx rfl (hb hby at_204) rfl ?_
        show Steps p.tables e below (T_123.setTop (mkF m 206 #[.val (.long q1), .second, .val (.int p2), .val (.int p3), .val (.int p4), .val (.int (1 : Int32)), .val (.int (0 : Int32)), .val (.ref b_1), .val (.ref b_2), .val (.ref b_10), .val (.ref b_13), .val (.ref b_16), .val (.ref b_20), .val (.ref b_2), .val (.ref b_10), .val (.ref r_123), .unset] [(.int (0 : Int32)), (.int (8 : Int32)), (.int (8 : Int32))])) t
        refine XS.iadd X_123.here hx rfl (hb hby at_206) rfl ?_
        show Steps p.tables e below (T_123.setTop (mkF m 207 #[.val (.long q1), .second, .val (.int p2), .val (.int p3), .val (.int p4), .val (.int (1 : Int32)), .val (.int (0 : Int32)), .val (.ref b_1), .val (.ref b_2), .val (.ref b_10), .val (.ref b_13), .val (.ref b_16), .val (.ref b_20), .val (.ref b_2), .val (.ref b_10), .val (.ref r_123), .unset] [(.int (8 : Int32)), (.int (8 : Int32))])) t
        refine XS.icmpNo X_123.here hx rfl (hb hby at_207) rfl (teq (by decide : (8 : Int32) = (8 : Int32))).2 ?_
        show Steps p.tables e below (T_123.setTop (mkF m 210 #[.val (.long q1), .second, .val (.int p2), .val (.int p3), .val (.int p4), .val (.int (1 : Int32)), .val (.int (0 : Int32)), .val (.ref b_1), .val (.ref b_2), .val (.ref b_10), .val (.ref b_13), .val (.ref b_16), .val (.ref b_20), .val (.ref b_2), .val (.ref b_10), .val (.ref r_123), .unset] [])) t
        refine XS.aload X_123.here hx rfl (hb hby at_210) rfl rfl ?_
        show Steps p.tables e below (T_123.setTop (mkF m 212 #[.val (.long q1), .second, .val (.int p2), .val (.int p3), .val (.int p4), .val (.int (1 : Int32)), .val (.int (0 : Int32)), .val (.ref b_1), .val (.ref b_2), .val (.ref b_10), .val (.ref b_13), .val (.ref b_16), .val (.ref b_20), .val (.ref b_2), .val (.ref b_10), .val (.ref r_123), .unset] [(.ref r_123)])) t
        refine XS.aload X_123.here hx rfl (hb hby at_212) rfl rfl ?_
        show Steps p.tables e below (T_123.setTop (mkF m 214 #[.val (.long q1), .second, .val (.int p2), .val (.int p3), .val (.int p4), .val (.int (1 : Int32)), .val (.int (0 : Int32)), .val (.ref b_1), .val (.ref b_2), .val (.ref b_10), .val (.ref b_13), .val (.ref b_16), .val (.ref b_20), .val (.ref b_2), .val (.ref b_10), .val (.ref r_123), .unset] [(.ref b_10), (.ref r_123)])) t
        refine Jvm.RoadKit.acmp (g := (mkF m 214 #[.val (.long q1), .second, .val (.int p2), .val (.int p3), .val (.int p4), .val (.int (1 : Int32)), .val (.int (0 : Int32)), .val (.ref b_1), .val (.ref b_2), .val (.ref b_10), .val (.ref b_13), .val (.ref b_16), .val (.ref b_20), .val (.ref b_2), .val (.ref b_10), .val (.ref r_123), .unset] [(.ref b_10), (.ref r_123)])) X_123 hx rfl rfl rfl (pc0 := 214) (pc' := 217) (same := false) rfl (hb hby at_214) rfl (decide_eq_false fun q => (Ne.symm ne_b_10_r_123) (Value.ref.inj q)) (by decide) (by decide) ?_
        show Steps p.tables e below (T_123.setTop (mkF m 217 #[.val (.long q1), .second, .val (.int p2), .val (.int p3), .val (.int p4), .val (.int (1 : Int32)), .val (.int (0 : Int32)), .val (.ref b_1), .val (.ref b_2), .val (.ref b_10), .val (.ref b_13), .val (.ref b_16), .val (.ref b_20), .val (.ref b_2), .val (.ref b_10), .val (.ref r_123), .unset] [])) t
        refine XS.aload X_123.here hx rfl (hb hby at_217) rfl rfl ?_
        show Steps p.tables e below (T_123.setTop (mkF m 219 #[.val (.long q1), .second, .val (.int p2), .val (.int p3), .val (.int p4), .val (.int (1 : Int32)), .val (.int (0 : Int32)), .val (.ref b_1), .val (.ref b_2), .val (.ref b_10), .val (.ref b_13), .val (.ref b_16), .val (.ref b_20), .val (.ref b_2), .val (.ref b_10), .val (.ref r_123), .unset] [(.ref r_123)])) t
        refine XS.aload X_123.here hx rfl (hb hby at_219) rfl rfl ?_
        show Steps p.tables e below (T_123.setTop (mkF m 221 #[.val (.long q1), .second, .val (.int p2), .val (.int p3), .val (.int p4), .val (.int (1 : Int32)), .val (.int (0 : Int32)), .val (.ref b_1), .val (.ref b_2), .val (.ref b_10), .val (.ref b_13), .val (.ref b_16), .val (.ref b_20), .val (.ref b_2), .val (.ref b_10), .val (.ref r_123), .unset] [(.ref b_2), (.ref r_123)])) t
        refine Jvm.RoadKit.acmp (g := (mkF m 221 #[.val (.long q1), .second, .val (.int p2), .val (.int p3), .val (.int p4), .val (.int (1 : Int32)), .val (.int (0 : Int32)), .val (.ref b_1), .val (.ref b_2), .val (.ref b_10), .val (.ref b_13), .val (.ref b_16), .val (.ref b_20), .val (.ref b_2), .val (.ref b_10), .val (.ref r_123), .unset] [(.ref b_2), (.ref r_123)])) X_123 hx rfl rfl rfl (pc0 := 221) (pc' := 224) (same := false) rfl (hb hby at_221) rfl (decide_eq_false fun q => (Ne.symm ne_b_2_r_123) (Value.ref.inj q)) (by decide) (by decide) ?_
        show Steps p.tables e below (T_123.setTop (mkF m 224 #[.val (.long q1), .second, .val (.int p2), .val (.int p3), .val (.int p4), .val (.int (1 : Int32)), .val (.int (0 : Int32)), .val (.ref b_1), .val (.ref b_2), .val (.ref b_10), .val (.ref b_13), .val (.ref b_16), .val (.ref b_20), .val (.ref b_2), .val (.ref b_10), .val (.ref r_123), .unset] [])) t
        refine XS.aload X_123.here hx rfl (hb hby at_224) rfl rfl ?_
        show Steps p.tables e below (T_123.setTop (mkF m 226 #[.val (.long q1), .second, .val (.int p2), .val (.int p3), .val (.int p4), .val (.int (1 : Int32)), .val (.int (0 : Int32)), .val (.ref b_1), .val (.ref b_2), .val (.ref b_10), .val (.ref b_13), .val (.ref b_16), .val (.ref b_20), .val (.ref b_2), .val (.ref b_10), .val (.ref r_123), .unset] [(.ref r_123)])) t
        refine XS.lloadN X_123.here hx rfl (hb hby at_226) rfl ?_
        exact kt
      obtain ⟨_, _, ⟨T_131, L_131, k_131, n_131⟩, -, X_131, ⟨Lc_131, hQ_131, l_131, y_131, z_131⟩, st_131⟩ := Jvm.LawKit.callS X_123 hx (y := (⟨"com/example/thin_table/thintable/model/KeyOrderNewestValuePinLaw", "head", "([BJ)Z"⟩ : MethodName)) hown (mvT hZ (hw _ (List.mem_of_getElem? (i := 13) rfl))) (mvT hZ (hw _ (List.mem_of_getElem? (i := 14) rfl))) (mvT hZ (hw _ (List.mem_of_getElem? (i := 3) rfl))) (mvT hZ (hw _ (List.mem_of_getElem? (i := 15) rfl))) (by decide) (backOf (W := 0) (rhead0 l Z a0 hw [] (r_123) (q1) p3 kB_123 T_123.heap n0 Z_123 V_123) hZ (hw _ (List.mem_of_getElem? (i := 15) rfl)) (hw _ (List.mem_of_getElem? (i := 3) rfl)) (by decide) (by decide)) (g := (mkF m 227 #[.val (.long q1), .second, .val (.int p2), .val (.int p3), .val (.int p4), .val (.int (1 : Int32)), .val (.int (0 : Int32)), .val (.ref b_1), .val (.ref b_2), .val (.ref b_10), .val (.ref b_13), .val (.ref b_16), .val (.ref b_20), .val (.ref b_2), .val (.ref b_10), .val (.ref r_123), .unset] [(.long q1), (.ref r_123)])) rfl (by rw [hml]; rfl) (argsL := [(.ref r_123), (.long q1)]) (rest := []) (lenOf pd_3 rfl) rfl (by show 2 * 0 + _ ≤ _; exact Nat.le_of_eq rfl) (hb hby at_227) (fun _ _ => ⟨rfl, rfl, (by decide : 7 + 0 ≤ _), (by decide : 33 + 0 ≤ _)⟩)
      dsimp only [Pt.U, Pt.locs, Pt.cells, Pt.slots] at X_131 l_131 y_131 z_131 st_131 hQ_131
      subst l_131 y_131 z_131
      obtain ⟨rfl, N_131q, e_131⟩ := hQ_131
      have N_131 := Fr.app N_123 N_131q
      refine own_go (g' := (mkF m 230 #[.val (.long q1), .second, .val (.int p2), .val (.int p3), .val (.int p4), .val (.int (1 : Int32)), .val (.int (0 : Int32)), .val (.ref b_1), .val (.ref b_2), .val (.ref b_10), .val (.ref b_13), .val (.ref b_16), .val (.ref b_20), .val (.ref b_2), .val (.ref b_10), .val (.ref r_123), .unset] [(.int (1 : Int32))])) st_131 ?_
      refine own_go (T' := T_131) (g' := (mkF m 238 #[.val (.long q1), .second, .val (.int p2), .val (.int p3), .val (.int p4), .val (.int (1 : Int32)), .val (.int (0 : Int32)), .val (.ref b_1), .val (.ref b_2), .val (.ref b_10), .val (.ref b_13), .val (.ref b_16), .val (.ref b_20), .val (.ref b_2), .val (.ref b_10), .val (.ref r_123), .unset] [(.int p3), (.int (0 : Int32)), (.ref r_123)])) (fun t kt => ?_) ?_
      · show Steps p.tables e below (T_131.setTop (mkF m 230 #[.val (.long q1), .second, .val (.int p2), .val (.int p3), .val (.int p4), .val (.int (1 : Int32)), .val (.int (0 : Int32)), .val (.ref b_1), .val (.ref b_2), .val (.ref b_10), .val (.ref b_13), .val (.ref b_16), .val (.ref b_20), .val (.ref b_2), .val (.ref b_10), .val (.ref r_123), .unset] [(.int (1 : Int32))])) t
        refine XS.ifNo X_131.here hx rfl (hb hby at_230) rfl ((if0 _ _).trans (feq (by decide : ¬ ((1 : Int32) = (0 : Int32)))).1) ?_
        show Steps p.tables e below (T_131.setTop (mkF m 233 #[.val (.long q1), .second, .val (.int p2), .val (.int p3), .val (.int p4), .val (.int (1 : Int32)), .val (.int (0 : Int32)), .val (.ref b_1), .val (.ref b_2), .val (.ref b_10), .val (.ref b_13), .val (.ref b_16), .val (.ref b_20), .val (.ref b_2), .val (.ref b_10), .val (.ref r_123), .unset] [])) t
        refine XS.aload X_131.here hx rfl (hb hby at_233) rfl rfl ?_
        show Steps p.tables e below (T_131.setTop (mkF m 235 #[.val (.long q1), .second, .val (.int p2), .val (.int p3), .val (.int p4), .val (.int (1 : Int32)), .val (.int (0 : Int32)), .val (.ref b_1), .val (.ref b_2), .val (.ref b_10), .val (.ref b_13), .val (.ref b_16), .val (.ref b_20), .val (.ref b_2), .val (.ref b_10), .val (.ref r_123), .unset] [(.ref r_123)])) t
        refine XS.iload X_131.here hx rfl (hb hby at_235) rfl ?_
        show Steps p.tables e below (T_131.setTop (mkF m 237 #[.val (.long q1), .second, .val (.int p2), .val (.int p3), .val (.int p4), .val (.int (1 : Int32)), .val (.int (0 : Int32)), .val (.ref b_1), .val (.ref b_2), .val (.ref b_10), .val (.ref b_13), .val (.ref b_16), .val (.ref b_20), .val (.ref b_2), .val (.ref b_10), .val (.ref r_123), .unset] [(.int (0 : Int32)), (.ref r_123)])) t
        refine XS.iloadN X_131.here hx rfl (hb hby at_237) rfl ?_
        exact kt
      obtain ⟨_, _, ⟨T_132, L_132, k_132, n_132⟩, -, X_132, ⟨Lc_132, hQ_132, l_132, y_132, z_132⟩, st_132⟩ := Jvm.LawKit.callS X_131 hx (y := (⟨"com/example/thin_table/thintable/model/KeyOrderNewestValuePinLaw", "tail", "([BII)Z"⟩ : MethodName)) hown (mvT hZ (hw _ (List.mem_of_getElem? (i := 16) rfl))) (mvT hZ (hw _ (List.mem_of_getElem? (i := 17) rfl))) (mvT hZ (hw _ (List.mem_of_getElem? (i := 3) rfl))) (mvT hZ (hw _ (List.mem_of_getElem? (i := 18) rfl))) (by decide) (backOf (W := 0) (rtail0 l Z a0 hw [] r_123 q1 p3 kB_123 T_123.heap n0 Z_123 V_123) hZ (hw _ (List.mem_of_getElem? (i := 18) rfl)) (hw _ (List.mem_of_getElem? (i := 3) rfl)) (by decide) (by decide)) (g := (mkF m 238 #[.val (.long q1), .second, .val (.int p2), .val (.int p3), .val (.int p4), .val (.int (1 : Int32)), .val (.int (0 : Int32)), .val (.ref b_1), .val (.ref b_2), .val (.ref b_10), .val (.ref b_13), .val (.ref b_16), .val (.ref b_20), .val (.ref b_2), .val (.ref b_10), .val (.ref r_123), .unset] [(.int p3), (.int (0 : Int32)), (.ref r_123)])) rfl (by rw [hml]; rfl) (argsL := [(.ref r_123), (.int (0 : Int32)), (.int p3)]) (rest := []) (lenOf pd_4 rfl) rfl (by show 2 * 0 + _ ≤ _; exact Nat.le_of_eq rfl) (hb hby at_238) (fun _ _ => ⟨rfl, e_131, (by decide : 7 + 0 ≤ _), (by decide : 33 + 0 ≤ _)⟩)
      dsimp only [Pt.U, Pt.locs, Pt.cells, Pt.slots] at X_132 l_132 y_132 z_132 st_132 hQ_132
      subst l_132 y_132 z_132
      obtain ⟨rfl, N_132q, e_132⟩ := hQ_132
      have N_132 := Fr.app N_131 N_132q
      refine own_go (g' := (mkF m 241 #[.val (.long q1), .second, .val (.int p2), .val (.int p3), .val (.int p4), .val (.int (1 : Int32)), .val (.int (0 : Int32)), .val (.ref b_1), .val (.ref b_2), .val (.ref b_10), .val (.ref b_13), .val (.ref b_16), .val (.ref b_20), .val (.ref b_2), .val (.ref b_10), .val (.ref r_123), .unset] [(.int (1 : Int32))])) st_132 ?_
      refine own_go (T' := T_132) (g' := (mkF m 262 #[.val (.long q1), .second, .val (.int p2), .val (.int p3), .val (.int p4), .val (.int (1 : Int32)), .val (.int (0 : Int32)), .val (.ref b_1), .val (.ref b_2), .val (.ref b_10), .val (.ref b_13), .val (.ref b_16), .val (.ref b_20), .val (.ref b_2), .val (.ref b_10), .val (.ref r_123), .val (.int (1 : Int32))] [(.ref b_2), (.ref b_2)])) (fun t kt => ?_) ?_
      · show Steps p.tables e below (T_132.setTop (mkF m 241 #[.val (.long q1), .second, .val (.int p2), .val (.int p3), .val (.int p4), .val (.int (1 : Int32)), .val (.int (0 : Int32)), .val (.ref b_1), .val (.ref b_2), .val (.ref b_10), .val (.ref b_13), .val (.ref b_16), .val (.ref b_20), .val (.ref b_2), .val (.ref b_10), .val (.ref r_123), .unset] [(.int (1 : Int32))])) t
        refine XS.ifNo X_132.here hx rfl (hb hby at_241) rfl ((if0 _ _).trans (feq (by decide : ¬ ((1 : Int32) = (0 : Int32)))).1) ?_
        show Steps p.tables e below (T_132.setTop (mkF m 244 #[.val (.long q1), .second, .val (.int p2), .val (.int p3), .val (.int p4), .val (.int (1 : Int32)), .val (.int (0 : Int32)), .val (.ref b_1), .val (.ref b_2), .val (.ref b_10), .val (.ref b_13), .val (.ref b_16), .val (.ref b_20), .val (.ref b_2), .val (.ref b_10), .val (.ref r_123), .unset] [])) t
        refine XS.iconst X_132.here hx rfl (hb hby at_244) ?_
        show Steps p.tables e below (T_132.setTop (mkF m 245 #[.val (.long q1), .second, .val (.int p2), .val (.int p3), .val (.int p4), .val (.int (1 : Int32)), .val (.int (0 : Int32)), .val (.ref b_1), .val (.ref b_2), .val (.ref b_10), .val (.ref b_13), .val (.ref b_16), .val (.ref b_20), .val (.ref b_2), .val (.ref b_10), .val (.ref r_123), .unset] [(.int (1 : Int32))])) t
        refine XS.goto X_132.here hx rfl (pc0 := 245) (pc' := 249) rfl (hb hby at_245) (by decide) (by decide) ?_
        show Steps p.tables e below (T_132.setTop (mkF m 249 #[.val (.long q1), .second, .val (.int p2), .val (.int p3), .val (.int p4), .val (.int (1 : Int32)), .val (.int (0 : Int32)), .val (.ref b_1), .val (.ref b_2), .val (.ref b_10), .val (.ref b_13), .val (.ref b_16), .val (.ref b_20), .val (.ref b_2), .val (.ref b_10), .val (.ref r_123), .unset] [(.int (1 : Int32))])) t
        refine XS.istore X_132.here hx rfl (hb hby at_249) rfl (l' := #[.val (.long q1), .second, .val (.int p2), .val (.int p3), .val (.int p4), .val (.int (1 : Int32)), .val (.int (0 : Int32)), .val (.ref b_1), .val (.ref b_2), .val (.ref b_10), .val (.ref b_13), .val (.ref b_16), .val (.ref b_20), .val (.ref b_2), .val (.ref b_10), .val (.ref r_123), .val (.int (1 : Int32))]) rfl ?_
        show Steps p.tables e below (T_132.setTop (mkF m 251 #[.val (.long q1), .second, .val (.int p2), .val (.int p3), .val (.int p4), .val (.int (1 : Int32)), .val (.int (0 : Int32)), .val (.ref b_1), .val (.ref b_2), .val (.ref b_10), .val (.ref b_13), .val (.ref b_16), .val (.ref b_20), .val (.ref b_2), .val (.ref b_10), .val (.ref r_123), .val (.int (1 : Int32))] [])) t
        refine XS.iload X_132.here hx rfl (hb hby at_251) rfl ?_
        show Steps p.tables e below (T_132.setTop (mkF m 253 #[.val (.long q1), .second, .val (.int p2), .val (.int p3), .val (.int p4), .val (.int (1 : Int32)), .val (.int (0 : Int32)), .val (.ref b_1), .val (.ref b_2), .val (.ref b_10), .val (.ref b_13), .val (.ref b_16), .val (.ref b_20), .val (.ref b_2), .val (.ref b_10), .val (.ref r_123), .val (.int (1 : Int32))] [(.int (1 : Int32))])) t
        refine XS.ifYes X_132.here hx rfl (pc0 := 253) (pc' := 258) rfl (hb hby at_253) rfl ((if0 _ _).trans (feq (by decide : ¬ ((1 : Int32) = (0 : Int32)))).2) (by decide) (by decide) ?_
        show Steps p.tables e below (T_132.setTop (mkF m 258 #[.val (.long q1), .second, .val (.int p2), .val (.int p3), .val (.int p4), .val (.int (1 : Int32)), .val (.int (0 : Int32)), .val (.ref b_1), .val (.ref b_2), .val (.ref b_10), .val (.ref b_13), .val (.ref b_16), .val (.ref b_20), .val (.ref b_2), .val (.ref b_10), .val (.ref r_123), .val (.int (1 : Int32))] [])) t
        refine XS.aload X_132.here hx rfl (hb hby at_258) rfl rfl ?_
        show Steps p.tables e below (T_132.setTop (mkF m 260 #[.val (.long q1), .second, .val (.int p2), .val (.int p3), .val (.int p4), .val (.int (1 : Int32)), .val (.int (0 : Int32)), .val (.ref b_1), .val (.ref b_2), .val (.ref b_10), .val (.ref b_13), .val (.ref b_16), .val (.ref b_20), .val (.ref b_2), .val (.ref b_10), .val (.ref r_123), .val (.int (1 : Int32))] [(.ref b_2)])) t
        refine XS.aload X_132.here hx rfl (hb hby at_260) rfl rfl ?_
        exact kt
      have f_133 := (f_121.keep K_123 nin0)
      have vq_134 := f_133
      obtain ⟨c_134, a_134, -, s_134, m_134, -, -⟩ := vq_134
      refine own_go (T' := T_132) (g' := (mkF m 263 #[.val (.long q1), .second, .val (.int p2), .val (.int p3), .val (.int p4), .val (.int (1 : Int32)), .val (.int (0 : Int32)), .val (.ref b_1), .val (.ref b_2), .val (.ref b_10), .val (.ref b_13), .val (.ref b_16), .val (.ref b_20), .val (.ref b_2), .val (.ref b_10), .val (.ref r_123), .val (.int (1 : Int32))] [(.int (11 : Int32)), (.ref b_2)])) (fun t kt => ?_) ?_
      · refine X_132.arraylength hx (by rw [e_132]; exact a_134.1) (State.isArrayOf_alike hZ.alike a_134.2.1) (g := (mkF m 262 #[.val (.long q1), .second, .val (.int p2), .val (.int p3), .val (.int p4), .val (.int (1 : Int32)), .val (.int (0 : Int32)), .val (.ref b_1), .val (.ref b_2), .val (.ref b_10), .val (.ref b_13), .val (.ref b_16), .val (.ref b_20), .val (.ref b_2), .val (.ref b_10), .val (.ref r_123), .val (.int (1 : Int32))] [(.ref b_2), (.ref b_2)])) rfl rfl (hb hby at_262) _ ?_
        rw [len_of s_134 m_134]
        exact kt
      refine own_go (T' := T_132) (g' := (mkF m 269 #[.val (.long q1), .second, .val (.int p2), .val (.int p3), .val (.int p4), .val (.int (1 : Int32)), .val (.int (0 : Int32)), .val (.ref b_1), .val (.ref b_2), .val (.ref b_10), .val (.ref b_13), .val (.ref b_16), .val (.ref b_20), .val (.ref b_2), .val (.ref b_10), .val (.ref r_123), .val (.int (1 : Int32))] [(.ref b_2), (.ref b_2), (.int (10 : Int32)), (.ref b_2)])) (fun t kt => ?_) ?_
      · show Steps p.tables e below (T_132.setTop (mkF m 263 #[.val (.long q1), .second, .val (.int p2), .val (.int p3), .val (.int p4), .val (.int (1 : Int32)), .val (.int (0 : Int32)), .val (.ref b_1), .val (.ref b_2), .val (.ref b_10), .val (.ref b_13), .val (.ref b_16), .val (.ref b_20), .val (.ref b_2), .val (.ref b_10), .val (.ref r_123), .val (.int (1 : Int32))] [(.int (11 : Int32)), (.ref b_2)])) t
        refine XS.iconst X_132.here hx rfl (hb hby at_263) ?_
        show Steps p.tables e below (T_132.setTop (mkF m 264 #[.val (.long q1), .second, .val (.int p2), .val (.int p3), .val (.int p4), .val (.int (1 : Int32)), .val (.int (0 : Int32)), .val (.ref b_1), .val (.ref b_2), .val (.ref b_10), .val (.ref b_13), .val (.ref b_16), .val (.ref b_20), .val (.ref b_2), .val (.ref b_10), .val (.ref r_123), .val (.int (1 : Int32))] [(.int (1 : Int32)), (.int (11 : Int32)), (.ref b_2)])) t
        refine XS.isub X_132.here hx rfl (hb hby at_264) rfl ?_
        show Steps p.tables e below (T_132.setTop (mkF m 265 #[.val (.long q1), .second, .val (.int p2), .val (.int p3), .val (.int p4), .val (.int (1 : Int32)), .val (.int (0 : Int32)), .val (.ref b_1), .val (.ref b_2), .val (.ref b_10), .val (.ref b_13), .val (.ref b_16), .val (.ref b_20), .val (.ref b_2), .val (.ref b_10), .val (.ref r_123), .val (.int (1 : Int32))] [(.int (10 : Int32)), (.ref b_2)])) t
        refine XS.aload X_132.here hx rfl (hb hby at_265) rfl rfl ?_
        show Steps p.tables e below (T_132.setTop (mkF m 267 #[.val (.long q1), .second, .val (.int p2), .val (.int p3), .val (.int p4), .val (.int (1 : Int32)), .val (.int (0 : Int32)), .val (.ref b_1), .val (.ref b_2), .val (.ref b_10), .val (.ref b_13), .val (.ref b_16), .val (.ref b_20), .val (.ref b_2), .val (.ref b_10), .val (.ref r_123), .val (.int (1 : Int32))] [(.ref b_2), (.int (10 : Int32)), (.ref b_2)])) t
        refine XS.aload X_132.here hx rfl (hb hby at_267) rfl rfl ?_
        exact kt
      have vq_135 := f_133
      obtain ⟨c_135, a_135, -, s_135, m_135, -, -⟩ := vq_135
      refine own_go (T' := T_132) (g' := (mkF m 270 #[.val (.long q1), .second, .val (.int p2), .val (.int p3), .val (.int p4), .val (.int (1 : Int32)), .val (.int (0 : Int32)), .val (.ref b_1), .val (.ref b_2), .val (.ref b_10), .val (.ref b_13), .val (.ref b_16), .val (.ref b_20), .val (.ref b_2), .val (.ref b_10), .val (.ref r_123), .val (.int (1 : Int32))] [(.int (11 : Int32)), (.ref b_2), (.int (10 : Int32)), (.ref b_2)])) (fun t kt => ?_) ?_
      · refine X_132.arraylength hx (by rw [e_132]; exact a_135.1) (State.isArrayOf_alike hZ.alike a_135.2.1) (g := (mkF m 269 #[.val (.long q1), .second, .val (.int p2), .val (.int p3), .val (.int p4), .val (.int (1 : Int32)), .val (.int (0 : Int32)), .val (.ref b_1), .val (.ref b_2), .val (.ref b_10), .val (.ref b_13), .val (.ref b_16), .val (.ref b_20), .val (.ref b_2), .val (.ref b_10), .val (.ref r_123), .val (.int (1 : Int32))] [(.ref b_2), (.ref b_2), (.int (10 : Int32)), (.ref b_2)])) rfl rfl (hb hby at_269) _ ?_
        rw [len_of s_135 m_135]
        exact kt
      refine own_go (T' := T_132) (g' := (mkF m 272 #[.val (.long q1), .second, .val (.int p2), .val (.int p3), .val (.int p4), .val (.int (1 : Int32)), .val (.int (0 : Int32)), .val (.ref b_1), .val (.ref b_2), .val (.ref b_10), .val (.ref b_13), .val (.ref b_16), .val (.ref b_20), .val (.ref b_2), .val (.ref b_10), .val (.ref r_123), .val (.int (1 : Int32))] [(.int (10 : Int32)), (.ref b_2), (.int (10 : Int32)), (.ref b_2)])) (fun t kt => ?_) ?_
      · show Steps p.tables e below (T_132.setTop (mkF m 270 #[.val (.long q1), .second, .val (.int p2), .val (.int p3), .val (.int p4), .val (.int (1 : Int32)), .val (.int (0 : Int32)), .val (.ref b_1), .val (.ref b_2), .val (.ref b_10), .val (.ref b_13), .val (.ref b_16), .val (.ref b_20), .val (.ref b_2), .val (.ref b_10), .val (.ref r_123), .val (.int (1 : Int32))] [(.int (11 : Int32)), (.ref b_2), (.int (10 : Int32)), (.ref b_2)])) t
        refine XS.iconst X_132.here hx rfl (hb hby at_270) ?_
        show Steps p.tables e below (T_132.setTop (mkF m 271 #[.val (.long q1), .second, .val (.int p2), .val (.int p3), .val (.int p4), .val (.int (1 : Int32)), .val (.int (0 : Int32)), .val (.ref b_1), .val (.ref b_2), .val (.ref b_10), .val (.ref b_13), .val (.ref b_16), .val (.ref b_20), .val (.ref b_2), .val (.ref b_10), .val (.ref r_123), .val (.int (1 : Int32))] [(.int (1 : Int32)), (.int (11 : Int32)), (.ref b_2), (.int (10 : Int32)), (.ref b_2)])) t
        refine XS.isub X_132.here hx rfl (hb hby at_271) rfl ?_
        exact kt
      have vq_136 := f_133
      obtain ⟨c_136, a_136, q_136, s_136, m_136, H_136, G_136⟩ := vq_136
      have hin_136 : ¬ ((10 : Int32) < 0 ∨ c_136.slots.size ≤ ((10 : Int32)).toNatClampNeg) := inb_of s_136 ⟨by decide, by decide⟩
      have hat_136 : c_136.slots[((10 : Int32)).toNatClampNeg]? = some (.int (own_b0 q1)) := H_136.at hin_136 rfl
      refine own_go (T' := T_132) (g' := (mkF m 273 #[.val (.long q1), .second, .val (.int p2), .val (.int p3), .val (.int p4), .val (.int (1 : Int32)), .val (.int (0 : Int32)), .val (.ref b_1), .val (.ref b_2), .val (.ref b_10), .val (.ref b_13), .val (.ref b_16), .val (.ref b_20), .val (.ref b_2), .val (.ref b_10), .val (.ref r_123), .val (.int (1 : Int32))] [(.int (own_b0 q1)), (.int (10 : Int32)), (.ref b_2)])) (fun t kt => ?_) ?_
      · refine X_132.baloadBytes hx (j := (10 : Int32)) (v := (.int (own_b0 q1))) (by rw [e_132]; exact a_136.1) (State.isArrayOf_alike hZ.alike a_136.2.1) a_136.2.2 hin_136 hat_136 (g := (mkF m 272 #[.val (.long q1), .second, .val (.int p2), .val (.int p3), .val (.int p4), .val (.int (1 : Int32)), .val (.int (0 : Int32)), .val (.ref b_1), .val (.ref b_2), .val (.ref b_10), .val (.ref b_13), .val (.ref b_16), .val (.ref b_20), .val (.ref b_2), .val (.ref b_10), .val (.ref r_123), .val (.int (1 : Int32))] [(.int (10 : Int32)), (.ref b_2), (.int (10 : Int32)), (.ref b_2)])) rfl rfl (hb hby at_272) _ ?_
        exact kt
      refine own_go (T' := T_132) (g' := (mkF m 276 #[.val (.long q1), .second, .val (.int p2), .val (.int p3), .val (.int p4), .val (.int (1 : Int32)), .val (.int (0 : Int32)), .val (.ref b_1), .val (.ref b_2), .val (.ref b_10), .val (.ref b_13), .val (.ref b_16), .val (.ref b_20), .val (.ref b_2), .val (.ref b_10), .val (.ref r_123), .val (.int (1 : Int32))] [(.int (((own_b0 q1) ^^^ (1 : Int32)).toInt8.toInt32)), (.int (10 : Int32)), (.ref b_2)])) (fun t kt => ?_) ?_
      · show Steps p.tables e below (T_132.setTop (mkF m 273 #[.val (.long q1), .second, .val (.int p2), .val (.int p3), .val (.int p4), .val (.int (1 : Int32)), .val (.int (0 : Int32)), .val (.ref b_1), .val (.ref b_2), .val (.ref b_10), .val (.ref b_13), .val (.ref b_16), .val (.ref b_20), .val (.ref b_2), .val (.ref b_10), .val (.ref r_123), .val (.int (1 : Int32))] [(.int (own_b0 q1)), (.int (10 : Int32)), (.ref b_2)])) t
        refine XS.iconst X_132.here hx rfl (hb hby at_273) ?_
        show Steps p.tables e below (T_132.setTop (mkF m 274 #[.val (.long q1), .second, .val (.int p2), .val (.int p3), .val (.int p4), .val (.int (1 : Int32)), .val (.int (0 : Int32)), .val (.ref b_1), .val (.ref b_2), .val (.ref b_10), .val (.ref b_13), .val (.ref b_16), .val (.ref b_20), .val (.ref b_2), .val (.ref b_10), .val (.ref r_123), .val (.int (1 : Int32))] [(.int (1 : Int32)), (.int (own_b0 q1)), (.int (10 : Int32)), (.ref b_2)])) t
        refine XS.ixor X_132.here hx rfl (hb hby at_274) rfl ?_
        show Steps p.tables e below (T_132.setTop (mkF m 275 #[.val (.long q1), .second, .val (.int p2), .val (.int p3), .val (.int p4), .val (.int (1 : Int32)), .val (.int (0 : Int32)), .val (.ref b_1), .val (.ref b_2), .val (.ref b_10), .val (.ref b_13), .val (.ref b_16), .val (.ref b_20), .val (.ref b_2), .val (.ref b_10), .val (.ref r_123), .val (.int (1 : Int32))] [(.int ((own_b0 q1) ^^^ (1 : Int32))), (.int (10 : Int32)), (.ref b_2)])) t
        refine XS.i2b X_132.here hx rfl (hb hby at_275) rfl ?_
        exact kt
      have vq_137 := f_133
      obtain ⟨c_137, a_137, q_137, s_137, m_137, H_137, G_137⟩ := vq_137
      have hin_137 : ¬ ((10 : Int32) < 0 ∨ c_137.slots.size ≤ ((10 : Int32)).toNatClampNeg) := inb_of s_137 ⟨by decide, by decide⟩
      obtain ⟨T_137, h_137, X_137, e_137, W_137, st_137⟩ := stB X_132 hx hZ e_132 a_137 (j := (10 : Int32)) hin_137 (g := (mkF m 276 #[.val (.long q1), .second, .val (.int p2), .val (.int p3), .val (.int p4), .val (.int (1 : Int32)), .val (.int (0 : Int32)), .val (.ref b_1), .val (.ref b_2), .val (.ref b_10), .val (.ref b_13), .val (.ref b_16), .val (.ref b_20), .val (.ref b_2), .val (.ref b_10), .val (.ref r_123), .val (.int (1 : Int32))] [(.int (((own_b0 q1) ^^^ (1 : Int32)).toInt8.toInt32)), (.int (10 : Int32)), (.ref b_2)])) rfl rfl (hb hby at_276)
      have V_137 : Arv Z h_137 b_2 k_2 .byte (11 : Int32) [(.int (nar .byte (p2.toInt8.toInt32))), (.int (nar .byte (((p2.toUInt32 >>> ((8 : Int32) &&& 31).toUInt32).toInt32).toInt8.toInt32))), (.int (nar .byte (((p2.toUInt32 >>> ((16 : Int32) &&& 31).toUInt32).toInt32).toInt8.toInt32))), (.int (own_by q1 56)), (.int (own_by q1 48)), (.int (own_by q1 40)), (.int (own_by q1 32)), (.int (own_by q1 24)), (.int (own_by q1 16)), (.int (own_by q1 8)), (.int (nar .byte (((own_b0 q1) ^^^ (1 : Int32)).toInt8.toInt32)))] (.int (0 : Int32)) := Arv.set a_137 q_137 s_137 m_137 H_137 G_137 (fits_nar_byte _) W_137 10 rfl (Nat.le_of_ble_eq_true rfl)
      have Z_137 : n0 ≤ h_137.size := Nat.le_trans Z_123 (Keep.of_wr W_137).1
      have N_137 := Fr.snoc X_137 N_132 g_b_2
      refine own_go (g' := (mkF m 277 #[.val (.long q1), .second, .val (.int p2), .val (.int p3), .val (.int p4), .val (.int (1 : Int32)), .val (.int (0 : Int32)), .val (.ref b_1), .val (.ref b_2), .val (.ref b_10), .val (.ref b_13), .val (.ref b_16), .val (.ref b_20), .val (.ref b_2), .val (.ref b_10), .val (.ref r_123), .val (.int (1 : Int32))] [])) st_137 ?_
      refine own_go (T' := T_137) (g' := (mkF m 297 #[.val (.long q1), .second, .val (.int p2), .val (.int p3), .val (.int p4), .val (.int (1 : Int32)), .val (.int (0 : Int32)), .val (.ref b_1), .val (.ref b_2), .val (.ref b_10), .val (.ref b_13), .val (.ref b_16), .val (.ref b_20), .val (.ref b_2), .val (.ref b_10), .val (.ref r_123), .val (.int (1 : Int32))] [(.int (7 : Int32)), (.ref r_123)])) (fun t kt => ?_) ?_
      · show Steps p.tables e below (T_137.setTop (mkF m 277 #[.val (.long q1), .second, .val (.int p2), .val (.int p3), .val (.int p4), .val (.int (1 : Int32)), .val (.int (0 : Int32)), .val (.ref b_1), .val (.ref b_2), .val (.ref b_10), .val (.ref b_13), .val (.ref b_16), .val (.ref b_20), .val (.ref b_2), .val (.ref b_10), .val (.ref r_123), .val (.int (1 : Int32))] [])) t
        refine XS.iload X_137.here hx rfl (hb hby at_277) rfl ?_
        show Steps p.tables e below (T_137.setTop (mkF m 279 #[.val (.long q1), .second, .val (.int p2), .val (.int p3), .val (.int p4), .val (.int (1 : Int32)), .val (.int (0 : Int32)), .val (.ref b_1), .val (.ref b_2), .val (.ref b_10), .val (.ref b_13), .val (.ref b_16), .val (.ref b_20), .val (.ref b_2), .val (.ref b_10), .val (.ref r_123), .val (.int (1 : Int32))] [(.int (0 : Int32))])) t
        refine XS.ifYes X_137.here hx rfl (pc0 := 279) (pc' := 293) rfl (hb hby at_279) rfl ((if0 _ _).trans (flt (by decide : ¬ ((0 : Int32) < (0 : Int32)))).2.2.2) (by decide) (by decide) ?_
        show Steps p.tables e below (T_137.setTop (mkF m 293 #[.val (.long q1), .second, .val (.int p2), .val (.int p3), .val (.int p4), .val (.int (1 : Int32)), .val (.int (0 : Int32)), .val (.ref b_1), .val (.ref b_2), .val (.ref b_10), .val (.ref b_13), .val (.ref b_16), .val (.ref b_20), .val (.ref b_2), .val (.ref b_10), .val (.ref r_123), .val (.int (1 : Int32))] [])) t
        refine XS.aload X_137.here hx rfl (hb hby at_293) rfl rfl ?_
        show Steps p.tables e below (T_137.setTop (mkF m 295 #[.val (.long q1), .second, .val (.int p2), .val (.int p3), .val (.int p4), .val (.int (1 : Int32)), .val (.int (0 : Int32)), .val (.ref b_1), .val (.ref b_2), .val (.ref b_10), .val (.ref b_13), .val (.ref b_16), .val (.ref b_20), .val (.ref b_2), .val (.ref b_10), .val (.ref r_123), .val (.int (1 : Int32))] [(.ref r_123)])) t
        refine XS.bipush X_137.here hx rfl (hb hby at_295) ?_
        exact kt
      have f_139 := (V_123.other W_137 (Ne.symm ne_b_2_r_123))
      have vq_138 := f_139
      obtain ⟨c_138, a_138, q_138, s_138, m_138, H_138, G_138⟩ := vq_138
      have hin_138 : ¬ ((7 : Int32) < 0 ∨ c_138.slots.size ≤ ((7 : Int32)).toNatClampNeg) := inb_of s_138 ⟨by decide, by decide⟩
      have hat_138 : c_138.slots[((7 : Int32)).toNatClampNeg]? = some (.int (own_b0 q1)) := H_138.at hin_138 rfl
      refine own_go (T' := T_137) (g' := (mkF m 298 #[.val (.long q1), .second, .val (.int p2), .val (.int p3), .val (.int p4), .val (.int (1 : Int32)), .val (.int (0 : Int32)), .val (.ref b_1), .val (.ref b_2), .val (.ref b_10), .val (.ref b_13), .val (.ref b_16), .val (.ref b_20), .val (.ref b_2), .val (.ref b_10), .val (.ref r_123), .val (.int (1 : Int32))] [(.int (own_b0 q1))])) (fun t kt => ?_) ?_
      · refine X_137.baloadBytes hx (j := (7 : Int32)) (v := (.int (own_b0 q1))) (by rw [e_137]; exact a_138.1) (State.isArrayOf_alike hZ.alike a_138.2.1) a_138.2.2 hin_138 hat_138 (g := (mkF m 297 #[.val (.long q1), .second, .val (.int p2), .val (.int p3), .val (.int p4), .val (.int (1 : Int32)), .val (.int (0 : Int32)), .val (.ref b_1), .val (.ref b_2), .val (.ref b_10), .val (.ref b_13), .val (.ref b_16), .val (.ref b_20), .val (.ref b_2), .val (.ref b_10), .val (.ref r_123), .val (.int (1 : Int32))] [(.int (7 : Int32)), (.ref r_123)])) rfl rfl (hb hby at_297) _ ?_
        exact kt
      refine own_go (T' := T_137) (g' := (mkF m 324 #[.val (.long q1), .second, .val (.int p2), .val (.int p3), .val (.int p4), .val (.int (1 : Int32)), .val (.int (0 : Int32)), .val (.ref b_1), .val (.ref b_2), .val (.ref b_10), .val (.ref b_13), .val (.ref b_16), .val (.ref b_20), .val (.ref b_2), .val (.ref b_10), .val (.ref r_123), .val (.int (1 : Int32))] [(.int (1 : Int32))])) (fun t kt => ?_) ?_
      · show Steps p.tables e below (T_137.setTop (mkF m 298 #[.val (.long q1), .second, .val (.int p2), .val (.int p3), .val (.int p4), .val (.int (1 : Int32)), .val (.int (0 : Int32)), .val (.ref b_1), .val (.ref b_2), .val (.ref b_10), .val (.ref b_13), .val (.ref b_16), .val (.ref b_20), .val (.ref b_2), .val (.ref b_10), .val (.ref r_123), .val (.int (1 : Int32))] [(.int (own_b0 q1))])) t
        refine XS.lloadN X_137.here hx rfl (hb hby at_298) rfl ?_
        show Steps p.tables e below (T_137.setTop (mkF m 299 #[.val (.long q1), .second, .val (.int p2), .val (.int p3), .val (.int p4), .val (.int (1 : Int32)), .val (.int (0 : Int32)), .val (.ref b_1), .val (.ref b_2), .val (.ref b_10), .val (.ref b_13), .val (.ref b_16), .val (.ref b_20), .val (.ref b_2), .val (.ref b_10), .val (.ref r_123), .val (.int (1 : Int32))] [(.long q1), (.int (own_b0 q1))])) t
        refine XS.l2i X_137.here hx rfl (hb hby at_299) rfl ?_
        show Steps p.tables e below (T_137.setTop (mkF m 300 #[.val (.long q1), .second, .val (.int p2), .val (.int p3), .val (.int p4), .val (.int (1 : Int32)), .val (.int (0 : Int32)), .val (.ref b_1), .val (.ref b_2), .val (.ref b_10), .val (.ref b_13), .val (.ref b_16), .val (.ref b_20), .val (.ref b_2), .val (.ref b_10), .val (.ref r_123), .val (.int (1 : Int32))] [(.int (q1.toInt32)), (.int (own_b0 q1))])) t
        refine XS.i2b X_137.here hx rfl (hb hby at_300) rfl ?_
        show Steps p.tables e below (T_137.setTop (mkF m 301 #[.val (.long q1), .second, .val (.int p2), .val (.int p3), .val (.int p4), .val (.int (1 : Int32)), .val (.int (0 : Int32)), .val (.ref b_1), .val (.ref b_2), .val (.ref b_10), .val (.ref b_13), .val (.ref b_16), .val (.ref b_20), .val (.ref b_2), .val (.ref b_10), .val (.ref r_123), .val (.int (1 : Int32))] [(.int ((q1.toInt32).toInt8.toInt32)), (.int (own_b0 q1))])) t
        refine XS.icmpNo X_137.here hx rfl (hb hby at_301) rfl (teq (own_b0_eq q1 : (own_b0 q1) = ((q1.toInt32).toInt8.toInt32))).2 ?_
        show Steps p.tables e below (T_137.setTop (mkF m 304 #[.val (.long q1), .second, .val (.int p2), .val (.int p3), .val (.int p4), .val (.int (1 : Int32)), .val (.int (0 : Int32)), .val (.ref b_1), .val (.ref b_2), .val (.ref b_10), .val (.ref b_13), .val (.ref b_16), .val (.ref b_20), .val (.ref b_2), .val (.ref b_10), .val (.ref r_123), .val (.int (1 : Int32))] [])) t
        refine XS.iload X_137.here hx rfl (hb hby at_304) rfl ?_
        show Steps p.tables e below (T_137.setTop (mkF m 306 #[.val (.long q1), .second, .val (.int p2), .val (.int p3), .val (.int p4), .val (.int (1 : Int32)), .val (.int (0 : Int32)), .val (.ref b_1), .val (.ref b_2), .val (.ref b_10), .val (.ref b_13), .val (.ref b_16), .val (.ref b_20), .val (.ref b_2), .val (.ref b_10), .val (.ref r_123), .val (.int (1 : Int32))] [(.int (0 : Int32))])) t
        refine XS.ifYes X_137.here hx rfl (pc0 := 306) (pc' := 319) rfl (hb hby at_306) rfl ((if0 _ _).trans (teq (by decide : (0 : Int32) = (0 : Int32))).1) (by decide) (by decide) ?_
        show Steps p.tables e below (T_137.setTop (mkF m 319 #[.val (.long q1), .second, .val (.int p2), .val (.int p3), .val (.int p4), .val (.int (1 : Int32)), .val (.int (0 : Int32)), .val (.ref b_1), .val (.ref b_2), .val (.ref b_10), .val (.ref b_13), .val (.ref b_16), .val (.ref b_20), .val (.ref b_2), .val (.ref b_10), .val (.ref r_123), .val (.int (1 : Int32))] [])) t
        refine XS.iconst X_137.here hx rfl (hb hby at_319) ?_
        show Steps p.tables e below (T_137.setTop (mkF m 320 #[.val (.long q1), .second, .val (.int p2), .val (.int p3), .val (.int p4), .val (.int (1 : Int32)), .val (.int (0 : Int32)), .val (.ref b_1), .val (.ref b_2), .val (.ref b_10), .val (.ref b_13), .val (.ref b_16), .val (.ref b_20), .val (.ref b_2), .val (.ref b_10), .val (.ref r_123), .val (.int (1 : Int32))] [(.int (1 : Int32))])) t
        refine XS.goto X_137.here hx rfl (pc0 := 320) (pc' := 324) rfl (hb hby at_320) (by decide) (by decide) ?_
        exact kt
      obtain ⟨fs, hr, hrun, hended, hW, hsame⟩ := X_137.leave (v := some (.int (1 : Int32))) (fun h => by rw [Bd.returns] at h; cases h)
      refine ⟨_, _, ?_, hrun, hended, _, _, rfl, ?_, ⟨_, rfl⟩, hW, hsame.mono (by decide) (by decide)⟩
      · exact retN X_137 hx (t := .boolean) Bd.returns (by simp) (hb hby at_324) hr
      · show Q_rm0 Z _ _ _ _ h0 n0 _ T_137.heap _
        rw [e_137]
        exact ⟨rfl, N_137⟩
    · refine own_go (T' := T_33) (g' := (mkF m 189 #[.val (.long q1), .second, .val (.int p2), .val (.int p3), .val (.int p4), .val (.int (1 : Int32)), .val (.int (1 : Int32)), .val (.ref b_1), .val (.ref b_2), .val (.ref b_10), .val (.ref b_13), .val (.ref b_16), .val (.ref b_20), .val (.ref b_2), .val (.ref b_13), .unset, .unset] [(.ref b_13), (.ref b_2)])) (fun t kt => ?_) ?_
      · show Steps p.tables e below (T_33.setTop (mkF m 135 #[.val (.long q1), .second, .val (.int p2), .val (.int p3), .val (.int p4), .val (.int (1 : Int32)), .val (.int (1 : Int32)), .val (.ref b_1), .val (.ref b_2), .val (.ref b_10), .val (.ref b_13), .val (.ref b_16), .val (.ref b_20), .unset, .unset, .unset, .unset] [])) t
        refine XS.iload X_33.here hx rfl (hb hby at_135) rfl ?_
        show Steps p.tables e below (T_33.setTop (mkF m 137 #[.val (.long q1), .second, .val (.int p2), .val (.int p3), .val (.int p4), .val (.int (1 : Int32)), .val (.int (1 : Int32)), .val (.ref b_1), .val (.ref b_2), .val (.ref b_10), .val (.ref b_13), .val (.ref b_16), .val (.ref b_20), .unset, .unset, .unset, .unset] [(.int (1 : Int32))])) t
        refine XS.ifNo X_33.here hx rfl (hb hby at_137) rfl ((if0 _ _).trans (feq (by decide : ¬ ((1 : Int32) = (0 : Int32)))).1) ?_
        show Steps p.tables e below (T_33.setTop (mkF m 140 #[.val (.long q1), .second, .val (.int p2), .val (.int p3), .val (.int p4), .val (.int (1 : Int32)), .val (.int (1 : Int32)), .val (.ref b_1), .val (.ref b_2), .val (.ref b_10), .val (.ref b_13), .val (.ref b_16), .val (.ref b_20), .unset, .unset, .unset, .unset] [])) t
        refine XS.aload X_33.here hx rfl (hb hby at_140) rfl rfl ?_
        show Steps p.tables e below (T_33.setTop (mkF m 142 #[.val (.long q1), .second, .val (.int p2), .val (.int p3), .val (.int p4), .val (.int (1 : Int32)), .val (.int (1 : Int32)), .val (.ref b_1), .val (.ref b_2), .val (.ref b_10), .val (.ref b_13), .val (.ref b_16), .val (.ref b_20), .unset, .unset, .unset, .unset] [(.ref b_2)])) t
        refine XS.goto X_33.here hx rfl (pc0 := 142) (pc' := 147) rfl (hb hby at_142) (by decide) (by decide) ?_
        show Steps p.tables e below (T_33.setTop (mkF m 147 #[.val (.long q1), .second, .val (.int p2), .val (.int p3), .val (.int p4), .val (.int (1 : Int32)), .val (.int (1 : Int32)), .val (.ref b_1), .val (.ref b_2), .val (.ref b_10), .val (.ref b_13), .val (.ref b_16), .val (.ref b_20), .unset, .unset, .unset, .unset] [(.ref b_2)])) t
        refine XS.astore X_33.here hx rfl (hb hby at_147) rfl rfl (l' := #[.val (.long q1), .second, .val (.int p2), .val (.int p3), .val (.int p4), .val (.int (1 : Int32)), .val (.int (1 : Int32)), .val (.ref b_1), .val (.ref b_2), .val (.ref b_10), .val (.ref b_13), .val (.ref b_16), .val (.ref b_20), .val (.ref b_2), .unset, .unset, .unset]) rfl ?_
        show Steps p.tables e below (T_33.setTop (mkF m 149 #[.val (.long q1), .second, .val (.int p2), .val (.int p3), .val (.int p4), .val (.int (1 : Int32)), .val (.int (1 : Int32)), .val (.ref b_1), .val (.ref b_2), .val (.ref b_10), .val (.ref b_13), .val (.ref b_16), .val (.ref b_20), .val (.ref b_2), .unset, .unset, .unset] [])) t
        refine XS.iload X_33.here hx rfl (hb hby at_149) rfl ?_
        show Steps p.tables e below (T_33.setTop (mkF m 151 #[.val (.long q1), .second, .val (.int p2), .val (.int p3), .val (.int p4), .val (.int (1 : Int32)), .val (.int (1 : Int32)), .val (.ref b_1), .val (.ref b_2), .val (.ref b_10), .val (.ref b_13), .val (.ref b_16), .val (.ref b_20), .val (.ref b_2), .unset, .unset, .unset] [(.int (1 : Int32))])) t
        refine XS.ifYes X_33.here hx rfl (pc0 := 151) (pc' := 159) rfl (hb hby at_151) rfl ((if0 _ _).trans (feq (by decide : ¬ ((1 : Int32) = (0 : Int32)))).2) (by decide) (by decide) ?_
        show Steps p.tables e below (T_33.setTop (mkF m 159 #[.val (.long q1), .second, .val (.int p2), .val (.int p3), .val (.int p4), .val (.int (1 : Int32)), .val (.int (1 : Int32)), .val (.ref b_1), .val (.ref b_2), .val (.ref b_10), .val (.ref b_13), .val (.ref b_16), .val (.ref b_20), .val (.ref b_2), .unset, .unset, .unset] [])) t
        refine XS.iload X_33.here hx rfl (hb hby at_159) rfl ?_
        show Steps p.tables e below (T_33.setTop (mkF m 161 #[.val (.long q1), .second, .val (.int p2), .val (.int p3), .val (.int p4), .val (.int (1 : Int32)), .val (.int (1 : Int32)), .val (.ref b_1), .val (.ref b_2), .val (.ref b_10), .val (.ref b_13), .val (.ref b_16), .val (.ref b_20), .val (.ref b_2), .unset, .unset, .unset] [(.int (1 : Int32))])) t
        refine XS.iconst X_33.here hx rfl (hb hby at_161) ?_
        show Steps p.tables e below (T_33.setTop (mkF m 162 #[.val (.long q1), .second, .val (.int p2), .val (.int p3), .val (.int p4), .val (.int (1 : Int32)), .val (.int (1 : Int32)), .val (.ref b_1), .val (.ref b_2), .val (.ref b_10), .val (.ref b_13), .val (.ref b_16), .val (.ref b_20), .val (.ref b_2), .unset, .unset, .unset] [(.int (1 : Int32)), (.int (1 : Int32))])) t
        refine XS.icmpNo X_33.here hx rfl (hb hby at_162) rfl (teq (by decide : (1 : Int32) = (1 : Int32))).2 ?_
        show Steps p.tables e below (T_33.setTop (mkF m 165 #[.val (.long q1), .second, .val (.int p2), .val (.int p3), .val (.int p4), .val (.int (1 : Int32)), .val (.int (1 : Int32)), .val (.ref b_1), .val (.ref b_2), .val (.ref b_10), .val (.ref b_13), .val (.ref b_16), .val (.ref b_20), .val (.ref b_2), .unset, .unset, .unset] [])) t
        refine XS.aload X_33.here hx rfl (hb hby at_165) rfl rfl ?_
        show Steps p.tables e below (T_33.setTop (mkF m 167 #[.val (.long q1), .second, .val (.int p2), .val (.int p3), .val (.int p4), .val (.int (1 : Int32)), .val (.int (1 : Int32)), .val (.ref b_1), .val (.ref b_2), .val (.ref b_10), .val (.ref b_13), .val (.ref b_16), .val (.ref b_20), .val (.ref b_2), .unset, .unset, .unset] [(.ref b_13)])) t
        refine XS.goto X_33.here hx rfl (pc0 := 167) (pc' := 183) rfl (hb hby at_167) (by decide) (by decide) ?_
        show Steps p.tables e below (T_33.setTop (mkF m 183 #[.val (.long q1), .second, .val (.int p2), .val (.int p3), .val (.int p4), .val (.int (1 : Int32)), .val (.int (1 : Int32)), .val (.ref b_1), .val (.ref b_2), .val (.ref b_10), .val (.ref b_13), .val (.ref b_16), .val (.ref b_20), .val (.ref b_2), .unset, .unset, .unset] [(.ref b_13)])) t
        refine XS.astore X_33.here hx rfl (hb hby at_183) rfl rfl (l' := #[.val (.long q1), .second, .val (.int p2), .val (.int p3), .val (.int p4), .val (.int (1 : Int32)), .val (.int (1 : Int32)), .val (.ref b_1), .val (.ref b_2), .val (.ref b_10), .val (.ref b_13), .val (.ref b_16), .val (.ref b_20), .val (.ref b_2), .val (.ref b_13), .unset, .unset]) rfl ?_
        show Steps p.tables e below (T_33.setTop (mkF m 185 #[.val (.long q1), .second, .val (.int p2), .val (.int p3), .val (.int p4), .val (.int (1 : Int32)), .val (.int (1 : Int32)), .val (.ref b_1), .val (.ref b_2), .val (.ref b_10), .val (.ref b_13), .val (.ref b_16), .val (.ref b_20), .val (.ref b_2), .val (.ref b_13), .unset, .unset] [])) t
        refine XS.aload X_33.here hx rfl (hb hby at_185) rfl rfl ?_
        show Steps p.tables e below (T_33.setTop (mkF m 187 #[.val (.long q1), .second, .val (.int p2), .val (.int p3), .val (.int p4), .val (.int (1 : Int32)), .val (.int (1 : Int32)), .val (.ref b_1), .val (.ref b_2), .val (.ref b_10), .val (.ref b_13), .val (.ref b_16), .val (.ref b_20), .val (.ref b_2), .val (.ref b_13), .unset, .unset] [(.ref b_2)])) t
        refine XS.aload X_33.here hx rfl (hb hby at_187) rfl rfl ?_
        exact kt
      have f_140 := ((((((((((V_9.ext E_10).ext E_13).ext E_16).ext E_20).other W_25 ne_b_2_b_13).other W_27 ne_b_2_b_16).other W_29 ne_b_2_b_16).other W_30 ne_b_2_b_20).other W_32 ne_b_2_b_20).other W_33 ne_b_2_b_20)
      have f_141 := (((((V_25.other W_27 ne_b_13_b_16).other W_29 ne_b_13_b_16).other W_30 ne_b_13_b_20).other W_32 ne_b_13_b_20).other W_33 ne_b_13_b_20)
      obtain ⟨_, _, ⟨T_142, L_142, k_142, n_142⟩, -, X_142, ⟨Lc_142, hQ_142, l_142, y_142, z_142⟩, st_142⟩ := Jvm.LawKit.callS X_33 hx (y := (⟨"com/example/thin_table/thintable/model/KeyOrder", "newestValue", "([B[B)[B"⟩ : MethodName)) hown (mvT hZ (hw _ (List.mem_of_getElem? (i := 5) rfl))) (mvT hZ (hw _ (List.mem_of_getElem? (i := 6) rfl))) (mvT hZ (hw _ (List.mem_of_getElem? (i := 7) rfl))) (mvT hZ (hw _ (List.mem_of_getElem? (i := 8) rfl))) (by decide) (backOf (W := 0) (rnew11_1 l Z a0 hw [] (b_2) (b_13) k_2 k_13 [(.int (nar .byte (p2.toInt8.toInt32))), (.int (nar .byte (((p2.toUInt32 >>> ((8 : Int32) &&& 31).toUInt32).toInt32).toInt8.toInt32))), (.int (nar .byte (((p2.toUInt32 >>> ((16 : Int32) &&& 31).toUInt32).toInt32).toInt8.toInt32))), (.int (own_by q1 56)), (.int (own_by q1 48)), (.int (own_by q1 40)), (.int (own_by q1 32)), (.int (own_by q1 24)), (.int (own_by q1 16)), (.int (own_by q1 8)), (.int (own_b0 q1))] [(.int (nar .byte (p3.toInt8.toInt32)))] h_33 n0 Z_33 f_140 f_141) hZ (hw _ (List.mem_of_getElem? (i := 8) rfl)) (hw _ (List.mem_of_getElem? (i := 7) rfl)) (by decide) (by decide)) (g := (mkF m 189 #[.val (.long q1), .second, .val (.int p2), .val (.int p3), .val (.int p4), .val (.int (1 : Int32)), .val (.int (1 : Int32)), .val (.ref b_1), .val (.ref b_2), .val (.ref b_10), .val (.ref b_13), .val (.ref b_16), .val (.ref b_20), .val (.ref b_2), .val (.ref b_13), .unset, .unset] [(.ref b_13), (.ref b_2)])) rfl (by rw [hml]; rfl) (argsL := [(.ref b_2), (.ref b_13)]) (rest := []) (lenOf pd_1 rfl) rfl (by show 2 * 0 + _ ≤ _; exact Nat.le_of_eq rfl) (hb hby at_189) (fun _ _ => ⟨rfl, e_33, (by decide : 6 + 1 ≤ _), (by decide : 25 + 9 ≤ _)⟩)
      dsimp only [Pt.U, Pt.locs, Pt.cells, Pt.slots] at X_142 l_142 y_142 z_142 st_142 hQ_142
      subst l_142 y_142 z_142
      obtain ⟨r_142, kB_142, rfl, N_142q, K_142, sr_142, V_142⟩ := hQ_142
      have N_142 := Fr.app N_33 N_142q
      have f_143 := (((((((f_21.ext E_20).wr W_25).wr W_27).wr W_29).wr W_30).wr W_32).wr W_33)
      have ne_b_1_r_142 : b_1 ≠ r_142 := Nat.ne_of_lt (Nat.lt_of_lt_of_le f_143.lt sr_142)
      have f_144 := (((((((f_22.ext E_20).wr W_25).wr W_27).wr W_29).wr W_30).wr W_32).wr W_33)
      have ne_b_2_r_142 : b_2 ≠ r_142 := Nat.ne_of_lt (Nat.lt_of_lt_of_le f_144.lt sr_142)
      have f_145 := (((((((f_23.ext E_20).wr W_25).wr W_27).wr W_29).wr W_30).wr W_32).wr W_33)
      have ne_b_10_r_142 : b_10 ≠ r_142 := Nat.ne_of_lt (Nat.lt_of_lt_of_le f_145.lt sr_142)
      have f_146 := (((((((f_24.ext E_20).wr W_25).wr W_27).wr W_29).wr W_30).wr W_32).wr W_33)
      have ne_b_13_r_142 : b_13 ≠ r_142 := Nat.ne_of_lt (Nat.lt_of_lt_of_le f_146.lt sr_142)
      have f_147 := (((((((B_16.ext E_20).wr W_25).wr W_27).wr W_29).wr W_30).wr W_32).wr W_33)
      have ne_b_16_r_142 : b_16 ≠ r_142 := Nat.ne_of_lt (Nat.lt_of_lt_of_le f_147.lt sr_142)
      have f_148 := ((((((B_20.wr W_25).wr W_27).wr W_29).wr W_30).wr W_32).wr W_33)
      have ne_b_20_r_142 : b_20 ≠ r_142 := Nat.ne_of_lt (Nat.lt_of_lt_of_le f_148.lt sr_142)
      have g_r_142 : n0 ≤ r_142 := Nat.le_trans Z_33 sr_142
      have Z_142 : n0 ≤ T_142.heap.size := Nat.le_trans Z_33 K_142.1
      refine own_go (g' := (mkF m 192 #[.val (.long q1), .second, .val (.int p2), .val (.int p3), .val (.int p4), .val (.int (1 : Int32)), .val (.int (1 : Int32)), .val (.ref b_1), .val (.ref b_2), .val (.ref b_10), .val (.ref b_13), .val (.ref b_16), .val (.ref b_20), .val (.ref b_2), .val (.ref b_13), .unset, .unset] [(.ref r_142)])) st_142 ?_
      replace V_142 : Arv Z T_142.heap r_142 kB_142 .byte (9 : Int32) [(.int (own_by q1 56)), (.int (own_by q1 48)), (.int (own_by q1 40)), (.int (own_by q1 32)), (.int (own_by q1 24)), (.int (own_by q1 16)), (.int (own_by q1 8)), (.int (own_b0 q1)), (.int (nar .byte (p3.toInt8.toInt32)))] (.int (0 : Int32)) := V_142
      refine own_go (T' := T_142) (g' := (mkF m 201 #[.val (.long q1), .second, .val (.int p2), .val (.int p3), .val (.int p4), .val (.int (1 : Int32)), .val (.int (1 : Int32)), .val (.ref b_1), .val (.ref b_2), .val (.ref b_10), .val (.ref b_13), .val (.ref b_16), .val (.ref b_20), .val (.ref b_2), .val (.ref b_13), .val (.ref r_142), .unset] [(.ref r_142)])) (fun t kt => ?_) ?_
      · show Steps p.tables e below (T_142.setTop (mkF m 192 #[.val (.long q1), .second, .val (.int p2), .val (.int p3), .val (.int p4), .val (.int (1 : Int32)), .val (.int (1 : Int32)), .val (.ref b_1), .val (.ref b_2), .val (.ref b_10), .val (.ref b_13), .val (.ref b_16), .val (.ref b_20), .val (.ref b_2), .val (.ref b_13), .unset, .unset] [(.ref r_142)])) t
        refine XS.astore X_142.here hx rfl (hb hby at_192) rfl rfl (l' := #[.val (.long q1), .second, .val (.int p2), .val (.int p3), .val (.int p4), .val (.int (1 : Int32)), .val (.int (1 : Int32)), .val (.ref b_1), .val (.ref b_2), .val (.ref b_10), .val (.ref b_13), .val (.ref b_16), .val (.ref b_20), .val (.ref b_2), .val (.ref b_13), .val (.ref r_142), .unset]) rfl ?_
        show Steps p.tables e below (T_142.setTop (mkF m 194 #[.val (.long q1), .second, .val (.int p2), .val (.int p3), .val (.int p4), .val (.int (1 : Int32)), .val (.int (1 : Int32)), .val (.ref b_1), .val (.ref b_2), .val (.ref b_10), .val (.ref b_13), .val (.ref b_16), .val (.ref b_20), .val (.ref b_2), .val (.ref b_13), .val (.ref r_142), .unset] [])) t
        refine XS.aload X_142.here hx rfl (hb hby at_194) rfl rfl ?_
        show Steps p.tables e below (T_142.setTop (mkF m 196 #[.val (.long q1), .second, .val (.int p2), .val (.int p3), .val (.int p4), .val (.int (1 : Int32)), .val (.int (1 : Int32)), .val (.ref b_1), .val (.ref b_2), .val (.ref b_10), .val (.ref b_13), .val (.ref b_16), .val (.ref b_20), .val (.ref b_2), .val (.ref b_13), .val (.ref r_142), .unset] [(.ref r_142)])) t
        refine XS.ifnullNo X_142.here hx rfl (hb hby at_196) rfl ?_
        show Steps p.tables e below (T_142.setTop (mkF m 199 #[.val (.long q1), .second, .val (.int p2), .val (.int p3), .val (.int p4), .val (.int (1 : Int32)), .val (.int (1 : Int32)), .val (.ref b_1), .val (.ref b_2), .val (.ref b_10), .val (.ref b_13), .val (.ref b_16), .val (.ref b_20), .val (.ref b_2), .val (.ref b_13), .val (.ref r_142), .unset] [])) t
        refine XS.aload X_142.here hx rfl (hb hby at_199) rfl rfl ?_
        exact kt
      have vq_149 := V_142
      obtain ⟨c_149, a_149, -, s_149, m_149, -, -⟩ := vq_149
      refine own_go (T' := T_142) (g' := (mkF m 202 #[.val (.long q1), .second, .val (.int p2), .val (.int p3), .val (.int p4), .val (.int (1 : Int32)), .val (.int (1 : Int32)), .val (.ref b_1), .val (.ref b_2), .val (.ref b_10), .val (.ref b_13), .val (.ref b_16), .val (.ref b_20), .val (.ref b_2), .val (.ref b_13), .val (.ref r_142), .unset] [(.int (9 : Int32))])) (fun t kt => ?_) ?_
      · refine X_142.arraylength hx a_149.1 (State.isArrayOf_alike hZ.alike a_149.2.1) (g := (mkF m 201 #[.val (.long q1), .second, .val (.int p2), .val (.int p3), .val (.int p4), .val (.int (1 : Int32)), .val (.int (1 : Int32)), .val (.ref b_1), .val (.ref b_2), .val (.ref b_10), .val (.ref b_13), .val (.ref b_16), .val (.ref b_20), .val (.ref b_2), .val (.ref b_13), .val (.ref r_142), .unset] [(.ref r_142)])) rfl rfl (hb hby at_201) _ ?_
        rw [len_of s_149 m_149]
        exact kt
      refine own_go (T' := T_142) (g' := (mkF m 227 #[.val (.long q1), .second, .val (.int p2), .val (.int p3), .val (.int p4), .val (.int (1 : Int32)), .val (.int (1 : Int32)), .val (.ref b_1), .val (.ref b_2), .val (.ref b_10), .val (.ref b_13), .val (.ref b_16), .val (.ref b_20), .val (.ref b_2), .val (.ref b_13), .val (.ref r_142), .unset] [(.long q1), (.ref r_142)])) (fun t kt => ?_) ?_
      · show Steps p.tables e below (T_142.setTop (mkF m 202 #[.val (.long q1), .second, .val (.int p2), .val (.int p3), .val (.int p4), .val (.int (1 : Int32)), .val (.int (1 : Int32)), .val (.ref b_1), .val (.ref b_2), .val (.ref b_10), .val (.ref b_13), .val (.ref b_16), .val (.ref b_20), .val (.ref b_2), .val (.ref b_13), .val (.ref r_142), .unset] [(.int (9 : Int32))])) t
        refine XS.bipush X_142.here hx rfl (hb hby at_202) ?_
        show Steps p.tables e below (T_142.setTop (mkF m 204 #[.val (.long q1), .second, .val (.int p2), .val (.int p3), .val (.int p4), .val (.int (1 : Int32)), .val (.int (1 : Int32)), .val (.ref b_1), .val (.ref b_2), .val (.ref b_10), .val (.ref b_13), .val (.ref b_16), .val (.ref b_20), .val (.ref b_2), .val (.ref b_13), .val (.ref r_142), .unset] [(.int (8 : Int32)), (.int (9 : Int32))])) t
        refine XS.iload X_142.here hx rfl (hb hby at_204) rfl ?_
        show Steps p.tables e below (T_142.setTop (mkF m 206 #[.val (.long q1), .second, .val (.int p2), .val (.int p3), .val (.int p4), .val (.int (1 : Int32)), .val (.int (1 : Int32)), .val (.ref b_1), .val (.ref b_2), .val (.ref b_10), .val (.ref b_13), .val (.ref b_16), .val (.ref b_20), .val (.ref b_2), .val (.ref b_13), .val (.ref r_142), .unset] [(.int (1 : Int32)), (.int (8 : Int32)), (.int (9 : Int32))])) t
        refine XS.iadd X_142.here hx rfl (hb hby at_206) rfl ?_
        show Steps p.tables e below (T_142.setTop (mkF m 207 #[.val (.long q1), .second, .val (.int p2), .val (.int p3), .val (.int p4), .val (.int (1 : Int32)), .val (.int (1 : Int32)), .val (.ref b_1), .val (.ref b_2), .val (.ref b_10), .val (.ref b_13), .val (.ref b_16), .val (.ref b_20), .val (.ref b_2), .val (.ref b_13), .val (.ref r_142), .unset] [(.int (9 : Int32)), (.int (9 : Int32))])) t
        refine XS.icmpNo X_142.here hx rfl (hb hby at_207) rfl (teq (by decide : (9 : Int32) = (9 : Int32))).2 ?_
        show Steps p.tables e below (T_142.setTop (mkF m 210 #[.val (.long q1), .second, .val (.int p2), .val (.int p3), .val (.int p4), .val (.int (1 : Int32)), .val (.int (1 : Int32)), .val (.ref b_1), .val (.ref b_2), .val (.ref b_10), .val (.ref b_13), .val (.ref b_16), .val (.ref b_20), .val (.ref b_2), .val (.ref b_13), .val (.ref r_142), .unset] [])) t
        refine XS.aload X_142.here hx rfl (hb hby at_210) rfl rfl ?_
        show Steps p.tables e below (T_142.setTop (mkF m 212 #[.val (.long q1), .second, .val (.int p2), .val (.int p3), .val (.int p4), .val (.int (1 : Int32)), .val (.int (1 : Int32)), .val (.ref b_1), .val (.ref b_2), .val (.ref b_10), .val (.ref b_13), .val (.ref b_16), .val (.ref b_20), .val (.ref b_2), .val (.ref b_13), .val (.ref r_142), .unset] [(.ref r_142)])) t
        refine XS.aload X_142.here hx rfl (hb hby at_212) rfl rfl ?_
        show Steps p.tables e below (T_142.setTop (mkF m 214 #[.val (.long q1), .second, .val (.int p2), .val (.int p3), .val (.int p4), .val (.int (1 : Int32)), .val (.int (1 : Int32)), .val (.ref b_1), .val (.ref b_2), .val (.ref b_10), .val (.ref b_13), .val (.ref b_16), .val (.ref b_20), .val (.ref b_2), .val (.ref b_13), .val (.ref r_142), .unset] [(.ref b_13), (.ref r_142)])) t
        refine Jvm.RoadKit.acmp (g := (mkF m 214 #[.val (.long q1), .second, .val (.int p2), .val (.int p3), .val (.int p4), .val (.int (1 : Int32)), .val (.int (1 : Int32)), .val (.ref b_1), .val (.ref b_2), .val (.ref b_10), .val (.ref b_13), .val (.ref b_16), .val (.ref b_20), .val (.ref b_2), .val (.ref b_13), .val (.ref r_142), .unset] [(.ref b_13), (.ref r_142)])) X_142 hx rfl rfl rfl (pc0 := 214) (pc' := 217) (same := false) rfl (hb hby at_214) rfl (decide_eq_false fun q => (Ne.symm ne_b_13_r_142) (Value.ref.inj q)) (by decide) (by decide) ?_
        show Steps p.tables e below (T_142.setTop (mkF m 217 #[.val (.long q1), .second, .val (.int p2), .val (.int p3), .val (.int p4), .val (.int (1 : Int32)), .val (.int (1 : Int32)), .val (.ref b_1), .val (.ref b_2), .val (.ref b_10), .val (.ref b_13), .val (.ref b_16), .val (.ref b_20), .val (.ref b_2), .val (.ref b_13), .val (.ref r_142), .unset] [])) t
        refine XS.aload X_142.here hx rfl (hb hby at_217) rfl rfl ?_
        show Steps p.tables e below (T_142.setTop (mkF m 219 #[.val (.long q1), .second, .val (.int p2), .val (.int p3), .val (.int p4), .val (.int (1 : Int32)), .val (.int (1 : Int32)), .val (.ref b_1), .val (.ref b_2), .val (.ref b_10), .val (.ref b_13), .val (.ref b_16), .val (.ref b_20), .val (.ref b_2), .val (.ref b_13), .val (.ref r_142), .unset] [(.ref r_142)])) t
        refine XS.aload X_142.here hx rfl (hb hby at_219) rfl rfl ?_
        show Steps p.tables e below (T_142.setTop (mkF m 221 #[.val (.long q1), .second, .val (.int p2), .val (.int p3), .val (.int p4), .val (.int (1 : Int32)), .val (.int (1 : Int32)), .val (.ref b_1), .val (.ref b_2), .val (.ref b_10), .val (.ref b_13), .val (.ref b_16), .val (.ref b_20), .val (.ref b_2), .val (.ref b_13), .val (.ref r_142), .unset] [(.ref b_2), (.ref r_142)])) t
        refine Jvm.RoadKit.acmp (g := (mkF m 221 #[.val (.long q1), .second, .val (.int p2), .val (.int p3), .val (.int p4), .val (.int (1 : Int32)), .val (.int (1 : Int32)), .val (.ref b_1), .val (.ref b_2), .val (.ref b_10), .val (.ref b_13), .val (.ref b_16), .val (.ref b_20), .val (.ref b_2), .val (.ref b_13), .val (.ref r_142), .unset] [(.ref b_2), (.ref r_142)])) X_142 hx rfl rfl rfl (pc0 := 221) (pc' := 224) (same := false) rfl (hb hby at_221) rfl (decide_eq_false fun q => (Ne.symm ne_b_2_r_142) (Value.ref.inj q)) (by decide) (by decide) ?_
        show Steps p.tables e below (T_142.setTop (mkF m 224 #[.val (.long q1), .second, .val (.int p2), .val (.int p3), .val (.int p4), .val (.int (1 : Int32)), .val (.int (1 : Int32)), .val (.ref b_1), .val (.ref b_2), .val (.ref b_10), .val (.ref b_13), .val (.ref b_16), .val (.ref b_20), .val (.ref b_2), .val (.ref b_13), .val (.ref r_142), .unset] [])) t
        refine XS.aload X_142.here hx rfl (hb hby at_224) rfl rfl ?_
        show Steps p.tables e below (T_142.setTop (mkF m 226 #[.val (.long q1), .second, .val (.int p2), .val (.int p3), .val (.int p4), .val (.int (1 : Int32)), .val (.int (1 : Int32)), .val (.ref b_1), .val (.ref b_2), .val (.ref b_10), .val (.ref b_13), .val (.ref b_16), .val (.ref b_20), .val (.ref b_2), .val (.ref b_13), .val (.ref r_142), .unset] [(.ref r_142)])) t
        refine XS.lloadN X_142.here hx rfl (hb hby at_226) rfl ?_
        exact kt
      obtain ⟨_, _, ⟨T_150, L_150, k_150, n_150⟩, -, X_150, ⟨Lc_150, hQ_150, l_150, y_150, z_150⟩, st_150⟩ := Jvm.LawKit.callS X_142 hx (y := (⟨"com/example/thin_table/thintable/model/KeyOrderNewestValuePinLaw", "head", "([BJ)Z"⟩ : MethodName)) hown (mvT hZ (hw _ (List.mem_of_getElem? (i := 13) rfl))) (mvT hZ (hw _ (List.mem_of_getElem? (i := 14) rfl))) (mvT hZ (hw _ (List.mem_of_getElem? (i := 3) rfl))) (mvT hZ (hw _ (List.mem_of_getElem? (i := 15) rfl))) (by decide) (backOf (W := 0) (rhead1 l Z a0 hw [] (r_142) (q1) p3 kB_142 T_142.heap n0 Z_142 V_142) hZ (hw _ (List.mem_of_getElem? (i := 15) rfl)) (hw _ (List.mem_of_getElem? (i := 3) rfl)) (by decide) (by decide)) (g := (mkF m 227 #[.val (.long q1), .second, .val (.int p2), .val (.int p3), .val (.int p4), .val (.int (1 : Int32)), .val (.int (1 : Int32)), .val (.ref b_1), .val (.ref b_2), .val (.ref b_10), .val (.ref b_13), .val (.ref b_16), .val (.ref b_20), .val (.ref b_2), .val (.ref b_13), .val (.ref r_142), .unset] [(.long q1), (.ref r_142)])) rfl (by rw [hml]; rfl) (argsL := [(.ref r_142), (.long q1)]) (rest := []) (lenOf pd_3 rfl) rfl (by show 2 * 0 + _ ≤ _; exact Nat.le_of_eq rfl) (hb hby at_227) (fun _ _ => ⟨rfl, rfl, (by decide : 7 + 0 ≤ _), (by decide : 34 + 0 ≤ _)⟩)
      dsimp only [Pt.U, Pt.locs, Pt.cells, Pt.slots] at X_150 l_150 y_150 z_150 st_150 hQ_150
      subst l_150 y_150 z_150
      obtain ⟨rfl, N_150q, e_150⟩ := hQ_150
      have N_150 := Fr.app N_142 N_150q
      refine own_go (g' := (mkF m 230 #[.val (.long q1), .second, .val (.int p2), .val (.int p3), .val (.int p4), .val (.int (1 : Int32)), .val (.int (1 : Int32)), .val (.ref b_1), .val (.ref b_2), .val (.ref b_10), .val (.ref b_13), .val (.ref b_16), .val (.ref b_20), .val (.ref b_2), .val (.ref b_13), .val (.ref r_142), .unset] [(.int (1 : Int32))])) st_150 ?_
      refine own_go (T' := T_150) (g' := (mkF m 238 #[.val (.long q1), .second, .val (.int p2), .val (.int p3), .val (.int p4), .val (.int (1 : Int32)), .val (.int (1 : Int32)), .val (.ref b_1), .val (.ref b_2), .val (.ref b_10), .val (.ref b_13), .val (.ref b_16), .val (.ref b_20), .val (.ref b_2), .val (.ref b_13), .val (.ref r_142), .unset] [(.int p3), (.int (1 : Int32)), (.ref r_142)])) (fun t kt => ?_) ?_
      · show Steps p.tables e below (T_150.setTop (mkF m 230 #[.val (.long q1), .second, .val (.int p2), .val (.int p3), .val (.int p4), .val (.int (1 : Int32)), .val (.int (1 : Int32)), .val (.ref b_1), .val (.ref b_2), .val (.ref b_10), .val (.ref b_13), .val (.ref b_16), .val (.ref b_20), .val (.ref b_2), .val (.ref b_13), .val (.ref r_142), .unset] [(.int (1 : Int32))])) t
        refine XS.ifNo X_150.here hx rfl (hb hby at_230) rfl ((if0 _ _).trans (feq (by decide : ¬ ((1 : Int32) = (0 : Int32)))).1) ?_
        show Steps p.tables e below (T_150.setTop (mkF m 233 #[.val (.long q1), .second, .val (.int p2), .val (.int p3), .val (.int p4), .val (.int (1 : Int32)), .val (.int (1 : Int32)), .val (.ref b_1), .val (.ref b_2), .val (.ref b_10), .val (.ref b_13), .val (.ref b_16), .val (.ref b_20), .val (.ref b_2), .val (.ref b_13), .val (.ref r_142), .unset] [])) t
        refine XS.aload X_150.here hx rfl (hb hby at_233) rfl rfl ?_
        show Steps p.tables e below (T_150.setTop (mkF m 235 #[.val (.long q1), .second, .val (.int p2), .val (.int p3), .val (.int p4), .val (.int (1 : Int32)), .val (.int (1 : Int32)), .val (.ref b_1), .val (.ref b_2), .val (.ref b_10), .val (.ref b_13), .val (.ref b_16), .val (.ref b_20), .val (.ref b_2), .val (.ref b_13), .val (.ref r_142), .unset] [(.ref r_142)])) t
        refine XS.iload X_150.here hx rfl (hb hby at_235) rfl ?_
        show Steps p.tables e below (T_150.setTop (mkF m 237 #[.val (.long q1), .second, .val (.int p2), .val (.int p3), .val (.int p4), .val (.int (1 : Int32)), .val (.int (1 : Int32)), .val (.ref b_1), .val (.ref b_2), .val (.ref b_10), .val (.ref b_13), .val (.ref b_16), .val (.ref b_20), .val (.ref b_2), .val (.ref b_13), .val (.ref r_142), .unset] [(.int (1 : Int32)), (.ref r_142)])) t
        refine XS.iloadN X_150.here hx rfl (hb hby at_237) rfl ?_
        exact kt
      obtain ⟨_, _, ⟨T_151, L_151, k_151, n_151⟩, -, X_151, ⟨Lc_151, hQ_151, l_151, y_151, z_151⟩, st_151⟩ := Jvm.LawKit.callS X_150 hx (y := (⟨"com/example/thin_table/thintable/model/KeyOrderNewestValuePinLaw", "tail", "([BII)Z"⟩ : MethodName)) hown (mvT hZ (hw _ (List.mem_of_getElem? (i := 16) rfl))) (mvT hZ (hw _ (List.mem_of_getElem? (i := 17) rfl))) (mvT hZ (hw _ (List.mem_of_getElem? (i := 3) rfl))) (mvT hZ (hw _ (List.mem_of_getElem? (i := 18) rfl))) (by decide) (backOf (W := 0) (rtail1 l Z a0 hw [] r_142 q1 p3 kB_142 T_142.heap n0 Z_142 V_142) hZ (hw _ (List.mem_of_getElem? (i := 18) rfl)) (hw _ (List.mem_of_getElem? (i := 3) rfl)) (by decide) (by decide)) (g := (mkF m 238 #[.val (.long q1), .second, .val (.int p2), .val (.int p3), .val (.int p4), .val (.int (1 : Int32)), .val (.int (1 : Int32)), .val (.ref b_1), .val (.ref b_2), .val (.ref b_10), .val (.ref b_13), .val (.ref b_16), .val (.ref b_20), .val (.ref b_2), .val (.ref b_13), .val (.ref r_142), .unset] [(.int p3), (.int (1 : Int32)), (.ref r_142)])) rfl (by rw [hml]; rfl) (argsL := [(.ref r_142), (.int (1 : Int32)), (.int p3)]) (rest := []) (lenOf pd_4 rfl) rfl (by show 2 * 0 + _ ≤ _; exact Nat.le_of_eq rfl) (hb hby at_238) (fun _ _ => ⟨rfl, e_150, (by decide : 7 + 0 ≤ _), (by decide : 34 + 0 ≤ _)⟩)
      dsimp only [Pt.U, Pt.locs, Pt.cells, Pt.slots] at X_151 l_151 y_151 z_151 st_151 hQ_151
      subst l_151 y_151 z_151
      obtain ⟨rfl, N_151q, e_151⟩ := hQ_151
      have N_151 := Fr.app N_150 N_151q
      refine own_go (g' := (mkF m 241 #[.val (.long q1), .second, .val (.int p2), .val (.int p3), .val (.int p4), .val (.int (1 : Int32)), .val (.int (1 : Int32)), .val (.ref b_1), .val (.ref b_2), .val (.ref b_10), .val (.ref b_13), .val (.ref b_16), .val (.ref b_20), .val (.ref b_2), .val (.ref b_13), .val (.ref r_142), .unset] [(.int (1 : Int32))])) st_151 ?_
      refine own_go (T' := T_151) (g' := (mkF m 262 #[.val (.long q1), .second, .val (.int p2), .val (.int p3), .val (.int p4), .val (.int (1 : Int32)), .val (.int (1 : Int32)), .val (.ref b_1), .val (.ref b_2), .val (.ref b_10), .val (.ref b_13), .val (.ref b_16), .val (.ref b_20), .val (.ref b_2), .val (.ref b_13), .val (.ref r_142), .val (.int (1 : Int32))] [(.ref b_2), (.ref b_2)])) (fun t kt => ?_) ?_
      · show Steps p.tables e below (T_151.setTop (mkF m 241 #[.val (.long q1), .second, .val (.int p2), .val (.int p3), .val (.int p4), .val (.int (1 : Int32)), .val (.int (1 : Int32)), .val (.ref b_1), .val (.ref b_2), .val (.ref b_10), .val (.ref b_13), .val (.ref b_16), .val (.ref b_20), .val (.ref b_2), .val (.ref b_13), .val (.ref r_142), .unset] [(.int (1 : Int32))])) t
        refine XS.ifNo X_151.here hx rfl (hb hby at_241) rfl ((if0 _ _).trans (feq (by decide : ¬ ((1 : Int32) = (0 : Int32)))).1) ?_
        show Steps p.tables e below (T_151.setTop (mkF m 244 #[.val (.long q1), .second, .val (.int p2), .val (.int p3), .val (.int p4), .val (.int (1 : Int32)), .val (.int (1 : Int32)), .val (.ref b_1), .val (.ref b_2), .val (.ref b_10), .val (.ref b_13), .val (.ref b_16), .val (.ref b_20), .val (.ref b_2), .val (.ref b_13), .val (.ref r_142), .unset] [])) t
        refine XS.iconst X_151.here hx rfl (hb hby at_244) ?_
        show Steps p.tables e below (T_151.setTop (mkF m 245 #[.val (.long q1), .second, .val (.int p2), .val (.int p3), .val (.int p4), .val (.int (1 : Int32)), .val (.int (1 : Int32)), .val (.ref b_1), .val (.ref b_2), .val (.ref b_10), .val (.ref b_13), .val (.ref b_16), .val (.ref b_20), .val (.ref b_2), .val (.ref b_13), .val (.ref r_142), .unset] [(.int (1 : Int32))])) t
        refine XS.goto X_151.here hx rfl (pc0 := 245) (pc' := 249) rfl (hb hby at_245) (by decide) (by decide) ?_
        show Steps p.tables e below (T_151.setTop (mkF m 249 #[.val (.long q1), .second, .val (.int p2), .val (.int p3), .val (.int p4), .val (.int (1 : Int32)), .val (.int (1 : Int32)), .val (.ref b_1), .val (.ref b_2), .val (.ref b_10), .val (.ref b_13), .val (.ref b_16), .val (.ref b_20), .val (.ref b_2), .val (.ref b_13), .val (.ref r_142), .unset] [(.int (1 : Int32))])) t
        refine XS.istore X_151.here hx rfl (hb hby at_249) rfl (l' := #[.val (.long q1), .second, .val (.int p2), .val (.int p3), .val (.int p4), .val (.int (1 : Int32)), .val (.int (1 : Int32)), .val (.ref b_1), .val (.ref b_2), .val (.ref b_10), .val (.ref b_13), .val (.ref b_16), .val (.ref b_20), .val (.ref b_2), .val (.ref b_13), .val (.ref r_142), .val (.int (1 : Int32))]) rfl ?_
        show Steps p.tables e below (T_151.setTop (mkF m 251 #[.val (.long q1), .second, .val (.int p2), .val (.int p3), .val (.int p4), .val (.int (1 : Int32)), .val (.int (1 : Int32)), .val (.ref b_1), .val (.ref b_2), .val (.ref b_10), .val (.ref b_13), .val (.ref b_16), .val (.ref b_20), .val (.ref b_2), .val (.ref b_13), .val (.ref r_142), .val (.int (1 : Int32))] [])) t
        refine XS.iload X_151.here hx rfl (hb hby at_251) rfl ?_
        show Steps p.tables e below (T_151.setTop (mkF m 253 #[.val (.long q1), .second, .val (.int p2), .val (.int p3), .val (.int p4), .val (.int (1 : Int32)), .val (.int (1 : Int32)), .val (.ref b_1), .val (.ref b_2), .val (.ref b_10), .val (.ref b_13), .val (.ref b_16), .val (.ref b_20), .val (.ref b_2), .val (.ref b_13), .val (.ref r_142), .val (.int (1 : Int32))] [(.int (1 : Int32))])) t
        refine XS.ifYes X_151.here hx rfl (pc0 := 253) (pc' := 258) rfl (hb hby at_253) rfl ((if0 _ _).trans (feq (by decide : ¬ ((1 : Int32) = (0 : Int32)))).2) (by decide) (by decide) ?_
        show Steps p.tables e below (T_151.setTop (mkF m 258 #[.val (.long q1), .second, .val (.int p2), .val (.int p3), .val (.int p4), .val (.int (1 : Int32)), .val (.int (1 : Int32)), .val (.ref b_1), .val (.ref b_2), .val (.ref b_10), .val (.ref b_13), .val (.ref b_16), .val (.ref b_20), .val (.ref b_2), .val (.ref b_13), .val (.ref r_142), .val (.int (1 : Int32))] [])) t
        refine XS.aload X_151.here hx rfl (hb hby at_258) rfl rfl ?_
        show Steps p.tables e below (T_151.setTop (mkF m 260 #[.val (.long q1), .second, .val (.int p2), .val (.int p3), .val (.int p4), .val (.int (1 : Int32)), .val (.int (1 : Int32)), .val (.ref b_1), .val (.ref b_2), .val (.ref b_10), .val (.ref b_13), .val (.ref b_16), .val (.ref b_20), .val (.ref b_2), .val (.ref b_13), .val (.ref r_142), .val (.int (1 : Int32))] [(.ref b_2)])) t
        refine XS.aload X_151.here hx rfl (hb hby at_260) rfl rfl ?_
        exact kt
      have f_152 := (f_140.keep K_142 nin0)
      have vq_153 := f_152
      obtain ⟨c_153, a_153, -, s_153, m_153, -, -⟩ := vq_153
      refine own_go (T' := T_151) (g' := (mkF m 263 #[.val (.long q1), .second, .val (.int p2), .val (.int p3), .val (.int p4), .val (.int (1 : Int32)), .val (.int (1 : Int32)), .val (.ref b_1), .val (.ref b_2), .val (.ref b_10), .val (.ref b_13), .val (.ref b_16), .val (.ref b_20), .val (.ref b_2), .val (.ref b_13), .val (.ref r_142), .val (.int (1 : Int32))] [(.int (11 : Int32)), (.ref b_2)])) (fun t kt => ?_) ?_
      · refine X_151.arraylength hx (by rw [e_151]; exact a_153.1) (State.isArrayOf_alike hZ.alike a_153.2.1) (g := (mkF m 262 #[.val (.long q1), .second, .val (.int p2), .val (.int p3), .val (.int p4), .val (.int (1 : Int32)), .val (.int (1 : Int32)), .val (.ref b_1), .val (.ref b_2), .val (.ref b_10), .val (.ref b_13), .val (.ref b_16), .val (.ref b_20), .val (.ref b_2), .val (.ref b_13), .val (.ref r_142), .val (.int (1 : Int32))] [(.ref b_2), (.ref b_2)])) rfl rfl (hb hby at_262) _ ?_
        rw [len_of s_153 m_153]
        exact kt
      refine own_go (T' := T_151) (g' := (mkF m 269 #[.val (.long q1), .second, .val (.int p2), .val (.int p3), .val (.int p4), .val (.int (1 : Int32)), .val (.int (1 : Int32)), .val (.ref b_1), .val (.ref b_2), .val (.ref b_10), .val (.ref b_13), .val (.ref b_16), .val (.ref b_20), .val (.ref b_2), .val (.ref b_13), .val (.ref r_142), .val (.int (1 : Int32))] [(.ref b_2), (.ref b_2), (.int (10 : Int32)), (.ref b_2)])) (fun t kt => ?_) ?_
      · show Steps p.tables e below (T_151.setTop (mkF m 263 #[.val (.long q1), .second, .val (.int p2), .val (.int p3), .val (.int p4), .val (.int (1 : Int32)), .val (.int (1 : Int32)), .val (.ref b_1), .val (.ref b_2), .val (.ref b_10), .val (.ref b_13), .val (.ref b_16), .val (.ref b_20), .val (.ref b_2), .val (.ref b_13), .val (.ref r_142), .val (.int (1 : Int32))] [(.int (11 : Int32)), (.ref b_2)])) t
        refine XS.iconst X_151.here hx rfl (hb hby at_263) ?_
        show Steps p.tables e below (T_151.setTop (mkF m 264 #[.val (.long q1), .second, .val (.int p2), .val (.int p3), .val (.int p4), .val (.int (1 : Int32)), .val (.int (1 : Int32)), .val (.ref b_1), .val (.ref b_2), .val (.ref b_10), .val (.ref b_13), .val (.ref b_16), .val (.ref b_20), .val (.ref b_2), .val (.ref b_13), .val (.ref r_142), .val (.int (1 : Int32))] [(.int (1 : Int32)), (.int (11 : Int32)), (.ref b_2)])) t
        refine XS.isub X_151.here hx rfl (hb hby at_264) rfl ?_
        show Steps p.tables e below (T_151.setTop (mkF m 265 #[.val (.long q1), .second, .val (.int p2), .val (.int p3), .val (.int p4), .val (.int (1 : Int32)), .val (.int (1 : Int32)), .val (.ref b_1), .val (.ref b_2), .val (.ref b_10), .val (.ref b_13), .val (.ref b_16), .val (.ref b_20), .val (.ref b_2), .val (.ref b_13), .val (.ref r_142), .val (.int (1 : Int32))] [(.int (10 : Int32)), (.ref b_2)])) t
        refine XS.aload X_151.here hx rfl (hb hby at_265) rfl rfl ?_
        show Steps p.tables e below (T_151.setTop (mkF m 267 #[.val (.long q1), .second, .val (.int p2), .val (.int p3), .val (.int p4), .val (.int (1 : Int32)), .val (.int (1 : Int32)), .val (.ref b_1), .val (.ref b_2), .val (.ref b_10), .val (.ref b_13), .val (.ref b_16), .val (.ref b_20), .val (.ref b_2), .val (.ref b_13), .val (.ref r_142), .val (.int (1 : Int32))] [(.ref b_2), (.int (10 : Int32)), (.ref b_2)])) t
        refine XS.aload X_151.here hx rfl (hb hby at_267) rfl rfl ?_
        exact kt
      have vq_154 := f_152
      obtain ⟨c_154, a_154, -, s_154, m_154, -, -⟩ := vq_154
      refine own_go (T' := T_151) (g' := (mkF m 270 #[.val (.long q1), .second, .val (.int p2), .val (.int p3), .val (.int p4), .val (.int (1 : Int32)), .val (.int (1 : Int32)), .val (.ref b_1), .val (.ref b_2), .val (.ref b_10), .val (.ref b_13), .val (.ref b_16), .val (.ref b_20), .val (.ref b_2), .val (.ref b_13), .val (.ref r_142), .val (.int (1 : Int32))] [(.int (11 : Int32)), (.ref b_2), (.int (10 : Int32)), (.ref b_2)])) (fun t kt => ?_) ?_
      · refine X_151.arraylength hx (by rw [e_151]; exact a_154.1) (State.isArrayOf_alike hZ.alike a_154.2.1) (g := (mkF m 269 #[.val (.long q1), .second, .val (.int p2), .val (.int p3), .val (.int p4), .val (.int (1 : Int32)), .val (.int (1 : Int32)), .val (.ref b_1), .val (.ref b_2), .val (.ref b_10), .val (.ref b_13), .val (.ref b_16), .val (.ref b_20), .val (.ref b_2), .val (.ref b_13), .val (.ref r_142), .val (.int (1 : Int32))] [(.ref b_2), (.ref b_2), (.int (10 : Int32)), (.ref b_2)])) rfl rfl (hb hby at_269) _ ?_
        rw [len_of s_154 m_154]
        exact kt
      refine own_go (T' := T_151) (g' := (mkF m 272 #[.val (.long q1), .second, .val (.int p2), .val (.int p3), .val (.int p4), .val (.int (1 : Int32)), .val (.int (1 : Int32)), .val (.ref b_1), .val (.ref b_2), .val (.ref b_10), .val (.ref b_13), .val (.ref b_16), .val (.ref b_20), .val (.ref b_2), .val (.ref b_13), .val (.ref r_142), .val (.int (1 : Int32))] [(.int (10 : Int32)), (.ref b_2), (.int (10 : Int32)), (.ref b_2)])) (fun t kt => ?_) ?_
      · show Steps p.tables e below (T_151.setTop (mkF m 270 #[.val (.long q1), .second, .val (.int p2), .val (.int p3), .val (.int p4), .val (.int (1 : Int32)), .val (.int (1 : Int32)), .val (.ref b_1), .val (.ref b_2), .val (.ref b_10), .val (.ref b_13), .val (.ref b_16), .val (.ref b_20), .val (.ref b_2), .val (.ref b_13), .val (.ref r_142), .val (.int (1 : Int32))] [(.int (11 : Int32)), (.ref b_2), (.int (10 : Int32)), (.ref b_2)])) t
        refine XS.iconst X_151.here hx rfl (hb hby at_270) ?_
        show Steps p.tables e below (T_151.setTop (mkF m 271 #[.val (.long q1), .second, .val (.int p2), .val (.int p3), .val (.int p4), .val (.int (1 : Int32)), .val (.int (1 : Int32)), .val (.ref b_1), .val (.ref b_2), .val (.ref b_10), .val (.ref b_13), .val (.ref b_16), .val (.ref b_20), .val (.ref b_2), .val (.ref b_13), .val (.ref r_142), .val (.int (1 : Int32))] [(.int (1 : Int32)), (.int (11 : Int32)), (.ref b_2), (.int (10 : Int32)), (.ref b_2)])) t
        refine XS.isub X_151.here hx rfl (hb hby at_271) rfl ?_
        exact kt
      have vq_155 := f_152
      obtain ⟨c_155, a_155, q_155, s_155, m_155, H_155, G_155⟩ := vq_155
      have hin_155 : ¬ ((10 : Int32) < 0 ∨ c_155.slots.size ≤ ((10 : Int32)).toNatClampNeg) := inb_of s_155 ⟨by decide, by decide⟩
      have hat_155 : c_155.slots[((10 : Int32)).toNatClampNeg]? = some (.int (own_b0 q1)) := H_155.at hin_155 rfl
      refine own_go (T' := T_151) (g' := (mkF m 273 #[.val (.long q1), .second, .val (.int p2), .val (.int p3), .val (.int p4), .val (.int (1 : Int32)), .val (.int (1 : Int32)), .val (.ref b_1), .val (.ref b_2), .val (.ref b_10), .val (.ref b_13), .val (.ref b_16), .val (.ref b_20), .val (.ref b_2), .val (.ref b_13), .val (.ref r_142), .val (.int (1 : Int32))] [(.int (own_b0 q1)), (.int (10 : Int32)), (.ref b_2)])) (fun t kt => ?_) ?_
      · refine X_151.baloadBytes hx (j := (10 : Int32)) (v := (.int (own_b0 q1))) (by rw [e_151]; exact a_155.1) (State.isArrayOf_alike hZ.alike a_155.2.1) a_155.2.2 hin_155 hat_155 (g := (mkF m 272 #[.val (.long q1), .second, .val (.int p2), .val (.int p3), .val (.int p4), .val (.int (1 : Int32)), .val (.int (1 : Int32)), .val (.ref b_1), .val (.ref b_2), .val (.ref b_10), .val (.ref b_13), .val (.ref b_16), .val (.ref b_20), .val (.ref b_2), .val (.ref b_13), .val (.ref r_142), .val (.int (1 : Int32))] [(.int (10 : Int32)), (.ref b_2), (.int (10 : Int32)), (.ref b_2)])) rfl rfl (hb hby at_272) _ ?_
        exact kt
      refine own_go (T' := T_151) (g' := (mkF m 276 #[.val (.long q1), .second, .val (.int p2), .val (.int p3), .val (.int p4), .val (.int (1 : Int32)), .val (.int (1 : Int32)), .val (.ref b_1), .val (.ref b_2), .val (.ref b_10), .val (.ref b_13), .val (.ref b_16), .val (.ref b_20), .val (.ref b_2), .val (.ref b_13), .val (.ref r_142), .val (.int (1 : Int32))] [(.int (((own_b0 q1) ^^^ (1 : Int32)).toInt8.toInt32)), (.int (10 : Int32)), (.ref b_2)])) (fun t kt => ?_) ?_
      · show Steps p.tables e below (T_151.setTop (mkF m 273 #[.val (.long q1), .second, .val (.int p2), .val (.int p3), .val (.int p4), .val (.int (1 : Int32)), .val (.int (1 : Int32)), .val (.ref b_1), .val (.ref b_2), .val (.ref b_10), .val (.ref b_13), .val (.ref b_16), .val (.ref b_20), .val (.ref b_2), .val (.ref b_13), .val (.ref r_142), .val (.int (1 : Int32))] [(.int (own_b0 q1)), (.int (10 : Int32)), (.ref b_2)])) t
        refine XS.iconst X_151.here hx rfl (hb hby at_273) ?_
        show Steps p.tables e below (T_151.setTop (mkF m 274 #[.val (.long q1), .second, .val (.int p2), .val (.int p3), .val (.int p4), .val (.int (1 : Int32)), .val (.int (1 : Int32)), .val (.ref b_1), .val (.ref b_2), .val (.ref b_10), .val (.ref b_13), .val (.ref b_16), .val (.ref b_20), .val (.ref b_2), .val (.ref b_13), .val (.ref r_142), .val (.int (1 : Int32))] [(.int (1 : Int32)), (.int (own_b0 q1)), (.int (10 : Int32)), (.ref b_2)])) t
        refine XS.ixor X_151.here hx rfl (hb hby at_274) rfl ?_
        show Steps p.tables e below (T_151.setTop (mkF m 275 #[.val (.long q1), .second, .val (.int p2), .val (.int p3), .val (.int p4), .val (.int (1 : Int32)), .val (.int (1 : Int32)), .val (.ref b_1), .val (.ref b_2), .val (.ref b_10), .val (.ref b_13), .val (.ref b_16), .val (.ref b_20), .val (.ref b_2), .val (.ref b_13), .val (.ref r_142), .val (.int (1 : Int32))] [(.int ((own_b0 q1) ^^^ (1 : Int32))), (.int (10 : Int32)), (.ref b_2)])) t
        refine XS.i2b X_151.here hx rfl (hb hby at_275) rfl ?_
        exact kt
      have vq_156 := f_152
      obtain ⟨c_156, a_156, q_156, s_156, m_156, H_156, G_156⟩ := vq_156
      have hin_156 : ¬ ((10 : Int32) < 0 ∨ c_156.slots.size ≤ ((10 : Int32)).toNatClampNeg) := inb_of s_156 ⟨by decide, by decide⟩
      obtain ⟨T_156, h_156, X_156, e_156, W_156, st_156⟩ := stB X_151 hx hZ e_151 a_156 (j := (10 : Int32)) hin_156 (g := (mkF m 276 #[.val (.long q1), .second, .val (.int p2), .val (.int p3), .val (.int p4), .val (.int (1 : Int32)), .val (.int (1 : Int32)), .val (.ref b_1), .val (.ref b_2), .val (.ref b_10), .val (.ref b_13), .val (.ref b_16), .val (.ref b_20), .val (.ref b_2), .val (.ref b_13), .val (.ref r_142), .val (.int (1 : Int32))] [(.int (((own_b0 q1) ^^^ (1 : Int32)).toInt8.toInt32)), (.int (10 : Int32)), (.ref b_2)])) rfl rfl (hb hby at_276)
      have V_156 : Arv Z h_156 b_2 k_2 .byte (11 : Int32) [(.int (nar .byte (p2.toInt8.toInt32))), (.int (nar .byte (((p2.toUInt32 >>> ((8 : Int32) &&& 31).toUInt32).toInt32).toInt8.toInt32))), (.int (nar .byte (((p2.toUInt32 >>> ((16 : Int32) &&& 31).toUInt32).toInt32).toInt8.toInt32))), (.int (own_by q1 56)), (.int (own_by q1 48)), (.int (own_by q1 40)), (.int (own_by q1 32)), (.int (own_by q1 24)), (.int (own_by q1 16)), (.int (own_by q1 8)), (.int (nar .byte (((own_b0 q1) ^^^ (1 : Int32)).toInt8.toInt32)))] (.int (0 : Int32)) := Arv.set a_156 q_156 s_156 m_156 H_156 G_156 (fits_nar_byte _) W_156 10 rfl (Nat.le_of_ble_eq_true rfl)
      have Z_156 : n0 ≤ h_156.size := Nat.le_trans Z_142 (Keep.of_wr W_156).1
      have N_156 := Fr.snoc X_156 N_151 g_b_2
      refine own_go (g' := (mkF m 277 #[.val (.long q1), .second, .val (.int p2), .val (.int p3), .val (.int p4), .val (.int (1 : Int32)), .val (.int (1 : Int32)), .val (.ref b_1), .val (.ref b_2), .val (.ref b_10), .val (.ref b_13), .val (.ref b_16), .val (.ref b_20), .val (.ref b_2), .val (.ref b_13), .val (.ref r_142), .val (.int (1 : Int32))] [])) st_156 ?_
      refine own_go (T' := T_156) (g' := (mkF m 288 #[.val (.long q1), .second, .val (.int p2), .val (.int p3), .val (.int p4), .val (.int (1 : Int32)), .val (.int (1 : Int32)), .val (.ref b_1), .val (.ref b_2), .val (.ref b_10), .val (.ref b_13), .val (.ref b_16), .val (.ref b_20), .val (.ref b_2), .val (.ref b_13), .val (.ref r_142), .val (.int (1 : Int32))] [(.int (0 : Int32)), (.ref b_13), (.int (0 : Int32)), (.ref b_13)])) (fun t kt => ?_) ?_
      · show Steps p.tables e below (T_156.setTop (mkF m 277 #[.val (.long q1), .second, .val (.int p2), .val (.int p3), .val (.int p4), .val (.int (1 : Int32)), .val (.int (1 : Int32)), .val (.ref b_1), .val (.ref b_2), .val (.ref b_10), .val (.ref b_13), .val (.ref b_16), .val (.ref b_20), .val (.ref b_2), .val (.ref b_13), .val (.ref r_142), .val (.int (1 : Int32))] [])) t
        refine XS.iload X_156.here hx rfl (hb hby at_277) rfl ?_
        show Steps p.tables e below (T_156.setTop (mkF m 279 #[.val (.long q1), .second, .val (.int p2), .val (.int p3), .val (.int p4), .val (.int (1 : Int32)), .val (.int (1 : Int32)), .val (.ref b_1), .val (.ref b_2), .val (.ref b_10), .val (.ref b_13), .val (.ref b_16), .val (.ref b_20), .val (.ref b_2), .val (.ref b_13), .val (.ref r_142), .val (.int (1 : Int32))] [(.int (1 : Int32))])) t
        refine XS.ifNo X_156.here hx rfl (hb hby at_279) rfl ((if0 _ _).trans (tlt (by decide : (0 : Int32) < (1 : Int32))).2.2.2) ?_
        show Steps p.tables e below (T_156.setTop (mkF m 282 #[.val (.long q1), .second, .val (.int p2), .val (.int p3), .val (.int p4), .val (.int (1 : Int32)), .val (.int (1 : Int32)), .val (.ref b_1), .val (.ref b_2), .val (.ref b_10), .val (.ref b_13), .val (.ref b_16), .val (.ref b_20), .val (.ref b_2), .val (.ref b_13), .val (.ref r_142), .val (.int (1 : Int32))] [])) t
        refine XS.aload X_156.here hx rfl (hb hby at_282) rfl rfl ?_
        show Steps p.tables e below (T_156.setTop (mkF m 284 #[.val (.long q1), .second, .val (.int p2), .val (.int p3), .val (.int p4), .val (.int (1 : Int32)), .val (.int (1 : Int32)), .val (.ref b_1), .val (.ref b_2), .val (.ref b_10), .val (.ref b_13), .val (.ref b_16), .val (.ref b_20), .val (.ref b_2), .val (.ref b_13), .val (.ref r_142), .val (.int (1 : Int32))] [(.ref b_13)])) t
        refine XS.iconst X_156.here hx rfl (hb hby at_284) ?_
        show Steps p.tables e below (T_156.setTop (mkF m 285 #[.val (.long q1), .second, .val (.int p2), .val (.int p3), .val (.int p4), .val (.int (1 : Int32)), .val (.int (1 : Int32)), .val (.ref b_1), .val (.ref b_2), .val (.ref b_10), .val (.ref b_13), .val (.ref b_16), .val (.ref b_20), .val (.ref b_2), .val (.ref b_13), .val (.ref r_142), .val (.int (1 : Int32))] [(.int (0 : Int32)), (.ref b_13)])) t
        refine XS.aload X_156.here hx rfl (hb hby at_285) rfl rfl ?_
        show Steps p.tables e below (T_156.setTop (mkF m 287 #[.val (.long q1), .second, .val (.int p2), .val (.int p3), .val (.int p4), .val (.int (1 : Int32)), .val (.int (1 : Int32)), .val (.ref b_1), .val (.ref b_2), .val (.ref b_10), .val (.ref b_13), .val (.ref b_16), .val (.ref b_20), .val (.ref b_2), .val (.ref b_13), .val (.ref r_142), .val (.int (1 : Int32))] [(.ref b_13), (.int (0 : Int32)), (.ref b_13)])) t
        refine XS.iconst X_156.here hx rfl (hb hby at_287) ?_
        exact kt
      have f_158 := ((f_141.keep K_142 nin0).other W_156 (Ne.symm ne_b_2_b_13))
      have vq_157 := f_158
      obtain ⟨c_157, a_157, q_157, s_157, m_157, H_157, G_157⟩ := vq_157
      have hin_157 : ¬ ((0 : Int32) < 0 ∨ c_157.slots.size ≤ ((0 : Int32)).toNatClampNeg) := inb_of s_157 ⟨by decide, by decide⟩
      have hat_157 : c_157.slots[((0 : Int32)).toNatClampNeg]? = some (.int (nar .byte (p3.toInt8.toInt32))) := H_157.at hin_157 rfl
      refine own_go (T' := T_156) (g' := (mkF m 289 #[.val (.long q1), .second, .val (.int p2), .val (.int p3), .val (.int p4), .val (.int (1 : Int32)), .val (.int (1 : Int32)), .val (.ref b_1), .val (.ref b_2), .val (.ref b_10), .val (.ref b_13), .val (.ref b_16), .val (.ref b_20), .val (.ref b_2), .val (.ref b_13), .val (.ref r_142), .val (.int (1 : Int32))] [(.int (nar .byte (p3.toInt8.toInt32))), (.int (0 : Int32)), (.ref b_13)])) (fun t kt => ?_) ?_
      · refine X_156.baloadBytes hx (j := (0 : Int32)) (v := (.int (nar .byte (p3.toInt8.toInt32)))) (by rw [e_156]; exact a_157.1) (State.isArrayOf_alike hZ.alike a_157.2.1) a_157.2.2 hin_157 hat_157 (g := (mkF m 288 #[.val (.long q1), .second, .val (.int p2), .val (.int p3), .val (.int p4), .val (.int (1 : Int32)), .val (.int (1 : Int32)), .val (.ref b_1), .val (.ref b_2), .val (.ref b_10), .val (.ref b_13), .val (.ref b_16), .val (.ref b_20), .val (.ref b_2), .val (.ref b_13), .val (.ref r_142), .val (.int (1 : Int32))] [(.int (0 : Int32)), (.ref b_13), (.int (0 : Int32)), (.ref b_13)])) rfl rfl (hb hby at_288) _ ?_
        exact kt
      refine own_go (T' := T_156) (g' := (mkF m 292 #[.val (.long q1), .second, .val (.int p2), .val (.int p3), .val (.int p4), .val (.int (1 : Int32)), .val (.int (1 : Int32)), .val (.ref b_1), .val (.ref b_2), .val (.ref b_10), .val (.ref b_13), .val (.ref b_16), .val (.ref b_20), .val (.ref b_2), .val (.ref b_13), .val (.ref r_142), .val (.int (1 : Int32))] [(.int (((nar .byte (p3.toInt8.toInt32)) ^^^ (1 : Int32)).toInt8.toInt32)), (.int (0 : Int32)), (.ref b_13)])) (fun t kt => ?_) ?_
      · show Steps p.tables e below (T_156.setTop (mkF m 289 #[.val (.long q1), .second, .val (.int p2), .val (.int p3), .val (.int p4), .val (.int (1 : Int32)), .val (.int (1 : Int32)), .val (.ref b_1), .val (.ref b_2), .val (.ref b_10), .val (.ref b_13), .val (.ref b_16), .val (.ref b_20), .val (.ref b_2), .val (.ref b_13), .val (.ref r_142), .val (.int (1 : Int32))] [(.int (nar .byte (p3.toInt8.toInt32))), (.int (0 : Int32)), (.ref b_13)])) t
        refine XS.iconst X_156.here hx rfl (hb hby at_289) ?_
        show Steps p.tables e below (T_156.setTop (mkF m 290 #[.val (.long q1), .second, .val (.int p2), .val (.int p3), .val (.int p4), .val (.int (1 : Int32)), .val (.int (1 : Int32)), .val (.ref b_1), .val (.ref b_2), .val (.ref b_10), .val (.ref b_13), .val (.ref b_16), .val (.ref b_20), .val (.ref b_2), .val (.ref b_13), .val (.ref r_142), .val (.int (1 : Int32))] [(.int (1 : Int32)), (.int (nar .byte (p3.toInt8.toInt32))), (.int (0 : Int32)), (.ref b_13)])) t
        refine XS.ixor X_156.here hx rfl (hb hby at_290) rfl ?_
        show Steps p.tables e below (T_156.setTop (mkF m 291 #[.val (.long q1), .second, .val (.int p2), .val (.int p3), .val (.int p4), .val (.int (1 : Int32)), .val (.int (1 : Int32)), .val (.ref b_1), .val (.ref b_2), .val (.ref b_10), .val (.ref b_13), .val (.ref b_16), .val (.ref b_20), .val (.ref b_2), .val (.ref b_13), .val (.ref r_142), .val (.int (1 : Int32))] [(.int ((nar .byte (p3.toInt8.toInt32)) ^^^ (1 : Int32))), (.int (0 : Int32)), (.ref b_13)])) t
        refine XS.i2b X_156.here hx rfl (hb hby at_291) rfl ?_
        exact kt
      have vq_159 := f_158
      obtain ⟨c_159, a_159, q_159, s_159, m_159, H_159, G_159⟩ := vq_159
      have hin_159 : ¬ ((0 : Int32) < 0 ∨ c_159.slots.size ≤ ((0 : Int32)).toNatClampNeg) := inb_of s_159 ⟨by decide, by decide⟩
      obtain ⟨T_159, h_159, X_159, e_159, W_159, st_159⟩ := stB X_156 hx hZ e_156 a_159 (j := (0 : Int32)) hin_159 (g := (mkF m 292 #[.val (.long q1), .second, .val (.int p2), .val (.int p3), .val (.int p4), .val (.int (1 : Int32)), .val (.int (1 : Int32)), .val (.ref b_1), .val (.ref b_2), .val (.ref b_10), .val (.ref b_13), .val (.ref b_16), .val (.ref b_20), .val (.ref b_2), .val (.ref b_13), .val (.ref r_142), .val (.int (1 : Int32))] [(.int (((nar .byte (p3.toInt8.toInt32)) ^^^ (1 : Int32)).toInt8.toInt32)), (.int (0 : Int32)), (.ref b_13)])) rfl rfl (hb hby at_292)
      have V_159 : Arv Z h_159 b_13 k_13 .byte (1 : Int32) [(.int (nar .byte (((nar .byte (p3.toInt8.toInt32)) ^^^ (1 : Int32)).toInt8.toInt32)))] (.int (0 : Int32)) := Arv.set a_159 q_159 s_159 m_159 H_159 G_159 (fits_nar_byte _) W_159 0 rfl (Nat.le_of_ble_eq_true rfl)
      have Z_159 : n0 ≤ h_159.size := Nat.le_trans Z_156 (Keep.of_wr W_159).1
      have N_159 := Fr.snoc X_159 N_156 g_b_13
      refine own_go (g' := (mkF m 293 #[.val (.long q1), .second, .val (.int p2), .val (.int p3), .val (.int p4), .val (.int (1 : Int32)), .val (.int (1 : Int32)), .val (.ref b_1), .val (.ref b_2), .val (.ref b_10), .val (.ref b_13), .val (.ref b_16), .val (.ref b_20), .val (.ref b_2), .val (.ref b_13), .val (.ref r_142), .val (.int (1 : Int32))] [])) st_159 ?_
      refine own_go (T' := T_159) (g' := (mkF m 297 #[.val (.long q1), .second, .val (.int p2), .val (.int p3), .val (.int p4), .val (.int (1 : Int32)), .val (.int (1 : Int32)), .val (.ref b_1), .val (.ref b_2), .val (.ref b_10), .val (.ref b_13), .val (.ref b_16), .val (.ref b_20), .val (.ref b_2), .val (.ref b_13), .val (.ref r_142), .val (.int (1 : Int32))] [(.int (7 : Int32)), (.ref r_142)])) (fun t kt => ?_) ?_
      · show Steps p.tables e below (T_159.setTop (mkF m 293 #[.val (.long q1), .second, .val (.int p2), .val (.int p3), .val (.int p4), .val (.int (1 : Int32)), .val (.int (1 : Int32)), .val (.ref b_1), .val (.ref b_2), .val (.ref b_10), .val (.ref b_13), .val (.ref b_16), .val (.ref b_20), .val (.ref b_2), .val (.ref b_13), .val (.ref r_142), .val (.int (1 : Int32))] [])) t
        refine XS.aload X_159.here hx rfl (hb hby at_293) rfl rfl ?_
        show Steps p.tables e below (T_159.setTop (mkF m 295 #[.val (.long q1), .second, .val (.int p2), .val (.int p3), .val (.int p4), .val (.int (1 : Int32)), .val (.int (1 : Int32)), .val (.ref b_1), .val (.ref b_2), .val (.ref b_10), .val (.ref b_13), .val (.ref b_16), .val (.ref b_20), .val (.ref b_2), .val (.ref b_13), .val (.ref r_142), .val (.int (1 : Int32))] [(.ref r_142)])) t
        refine XS.bipush X_159.here hx rfl (hb hby at_295) ?_
        exact kt
      have f_161 := ((V_142.other W_156 (Ne.symm ne_b_2_r_142)).other W_159 (Ne.symm ne_b_13_r_142))
      have vq_160 := f_161
      obtain ⟨c_160, a_160, q_160, s_160, m_160, H_160, G_160⟩ := vq_160
      have hin_160 : ¬ ((7 : Int32) < 0 ∨ c_160.slots.size ≤ ((7 : Int32)).toNatClampNeg) := inb_of s_160 ⟨by decide, by decide⟩
      have hat_160 : c_160.slots[((7 : Int32)).toNatClampNeg]? = some (.int (own_b0 q1)) := H_160.at hin_160 rfl
      refine own_go (T' := T_159) (g' := (mkF m 298 #[.val (.long q1), .second, .val (.int p2), .val (.int p3), .val (.int p4), .val (.int (1 : Int32)), .val (.int (1 : Int32)), .val (.ref b_1), .val (.ref b_2), .val (.ref b_10), .val (.ref b_13), .val (.ref b_16), .val (.ref b_20), .val (.ref b_2), .val (.ref b_13), .val (.ref r_142), .val (.int (1 : Int32))] [(.int (own_b0 q1))])) (fun t kt => ?_) ?_
      · refine X_159.baloadBytes hx (j := (7 : Int32)) (v := (.int (own_b0 q1))) (by rw [e_159]; exact a_160.1) (State.isArrayOf_alike hZ.alike a_160.2.1) a_160.2.2 hin_160 hat_160 (g := (mkF m 297 #[.val (.long q1), .second, .val (.int p2), .val (.int p3), .val (.int p4), .val (.int (1 : Int32)), .val (.int (1 : Int32)), .val (.ref b_1), .val (.ref b_2), .val (.ref b_10), .val (.ref b_13), .val (.ref b_16), .val (.ref b_20), .val (.ref b_2), .val (.ref b_13), .val (.ref r_142), .val (.int (1 : Int32))] [(.int (7 : Int32)), (.ref r_142)])) rfl rfl (hb hby at_297) _ ?_
        exact kt
      refine own_go (T' := T_159) (g' := (mkF m 313 #[.val (.long q1), .second, .val (.int p2), .val (.int p3), .val (.int p4), .val (.int (1 : Int32)), .val (.int (1 : Int32)), .val (.ref b_1), .val (.ref b_2), .val (.ref b_10), .val (.ref b_13), .val (.ref b_16), .val (.ref b_20), .val (.ref b_2), .val (.ref b_13), .val (.ref r_142), .val (.int (1 : Int32))] [(.int (8 : Int32)), (.ref r_142)])) (fun t kt => ?_) ?_
      · show Steps p.tables e below (T_159.setTop (mkF m 298 #[.val (.long q1), .second, .val (.int p2), .val (.int p3), .val (.int p4), .val (.int (1 : Int32)), .val (.int (1 : Int32)), .val (.ref b_1), .val (.ref b_2), .val (.ref b_10), .val (.ref b_13), .val (.ref b_16), .val (.ref b_20), .val (.ref b_2), .val (.ref b_13), .val (.ref r_142), .val (.int (1 : Int32))] [(.int (own_b0 q1))])) t
        refine XS.lloadN X_159.here hx rfl (hb hby at_298) rfl ?_
        show Steps p.tables e below (T_159.setTop (mkF m 299 #[.val (.long q1), .second, .val (.int p2), .val (.int p3), .val (.int p4), .val (.int (1 : Int32)), .val (.int (1 : Int32)), .val (.ref b_1), .val (.ref b_2), .val (.ref b_10), .val (.ref b_13), .val (.ref b_16), .val (.ref b_20), .val (.ref b_2), .val (.ref b_13), .val (.ref r_142), .val (.int (1 : Int32))] [(.long q1), (.int (own_b0 q1))])) t
        refine XS.l2i X_159.here hx rfl (hb hby at_299) rfl ?_
        show Steps p.tables e below (T_159.setTop (mkF m 300 #[.val (.long q1), .second, .val (.int p2), .val (.int p3), .val (.int p4), .val (.int (1 : Int32)), .val (.int (1 : Int32)), .val (.ref b_1), .val (.ref b_2), .val (.ref b_10), .val (.ref b_13), .val (.ref b_16), .val (.ref b_20), .val (.ref b_2), .val (.ref b_13), .val (.ref r_142), .val (.int (1 : Int32))] [(.int (q1.toInt32)), (.int (own_b0 q1))])) t
        refine XS.i2b X_159.here hx rfl (hb hby at_300) rfl ?_
        show Steps p.tables e below (T_159.setTop (mkF m 301 #[.val (.long q1), .second, .val (.int p2), .val (.int p3), .val (.int p4), .val (.int (1 : Int32)), .val (.int (1 : Int32)), .val (.ref b_1), .val (.ref b_2), .val (.ref b_10), .val (.ref b_13), .val (.ref b_16), .val (.ref b_20), .val (.ref b_2), .val (.ref b_13), .val (.ref r_142), .val (.int (1 : Int32))] [(.int ((q1.toInt32).toInt8.toInt32)), (.int (own_b0 q1))])) t
        refine XS.icmpNo X_159.here hx rfl (hb hby at_301) rfl (teq (own_b0_eq q1 : (own_b0 q1) = ((q1.toInt32).toInt8.toInt32))).2 ?_
        show Steps p.tables e below (T_159.setTop (mkF m 304 #[.val (.long q1), .second, .val (.int p2), .val (.int p3), .val (.int p4), .val (.int (1 : Int32)), .val (.int (1 : Int32)), .val (.ref b_1), .val (.ref b_2), .val (.ref b_10), .val (.ref b_13), .val (.ref b_16), .val (.ref b_20), .val (.ref b_2), .val (.ref b_13), .val (.ref r_142), .val (.int (1 : Int32))] [])) t
        refine XS.iload X_159.here hx rfl (hb hby at_304) rfl ?_
        show Steps p.tables e below (T_159.setTop (mkF m 306 #[.val (.long q1), .second, .val (.int p2), .val (.int p3), .val (.int p4), .val (.int (1 : Int32)), .val (.int (1 : Int32)), .val (.ref b_1), .val (.ref b_2), .val (.ref b_10), .val (.ref b_13), .val (.ref b_16), .val (.ref b_20), .val (.ref b_2), .val (.ref b_13), .val (.ref r_142), .val (.int (1 : Int32))] [(.int (1 : Int32))])) t
        refine XS.ifNo X_159.here hx rfl (hb hby at_306) rfl ((if0 _ _).trans (feq (by decide : ¬ ((1 : Int32) = (0 : Int32)))).1) ?_
        show Steps p.tables e below (T_159.setTop (mkF m 309 #[.val (.long q1), .second, .val (.int p2), .val (.int p3), .val (.int p4), .val (.int (1 : Int32)), .val (.int (1 : Int32)), .val (.ref b_1), .val (.ref b_2), .val (.ref b_10), .val (.ref b_13), .val (.ref b_16), .val (.ref b_20), .val (.ref b_2), .val (.ref b_13), .val (.ref r_142), .val (.int (1 : Int32))] [])) t
        refine XS.aload X_159.here hx rfl (hb hby at_309) rfl rfl ?_
        show Steps p.tables e below (T_159.setTop (mkF m 311 #[.val (.long q1), .second, .val (.int p2), .val (.int p3), .val (.int p4), .val (.int (1 : Int32)), .val (.int (1 : Int32)), .val (.ref b_1), .val (.ref b_2), .val (.ref b_10), .val (.ref b_13), .val (.ref b_16), .val (.ref b_20), .val (.ref b_2), .val (.ref b_13), .val (.ref r_142), .val (.int (1 : Int32))] [(.ref r_142)])) t
        refine XS.bipush X_159.here hx rfl (hb hby at_311) ?_
        exact kt
      have vq_162 := f_161
      obtain ⟨c_162, a_162, q_162, s_162, m_162, H_162, G_162⟩ := vq_162
      have hin_162 : ¬ ((8 : Int32) < 0 ∨ c_162.slots.size ≤ ((8 : Int32)).toNatClampNeg) := inb_of s_162 ⟨by decide, by decide⟩
      have hat_162 : c_162.slots[((8 : Int32)).toNatClampNeg]? = some (.int (nar .byte (p3.toInt8.toInt32))) := H_162.at hin_162 rfl
      refine own_go (T' := T_159) (g' := (mkF m 314 #[.val (.long q1), .second, .val (.int p2), .val (.int p3), .val (.int p4), .val (.int (1 : Int32)), .val (.int (1 : Int32)), .val (.ref b_1), .val (.ref b_2), .val (.ref b_10), .val (.ref b_13), .val (.ref b_16), .val (.ref b_20), .val (.ref b_2), .val (.ref b_13), .val (.ref r_142), .val (.int (1 : Int32))] [(.int (nar .byte (p3.toInt8.toInt32)))])) (fun t kt => ?_) ?_
      · refine X_159.baloadBytes hx (j := (8 : Int32)) (v := (.int (nar .byte (p3.toInt8.toInt32)))) (by rw [e_159]; exact a_162.1) (State.isArrayOf_alike hZ.alike a_162.2.1) a_162.2.2 hin_162 hat_162 (g := (mkF m 313 #[.val (.long q1), .second, .val (.int p2), .val (.int p3), .val (.int p4), .val (.int (1 : Int32)), .val (.int (1 : Int32)), .val (.ref b_1), .val (.ref b_2), .val (.ref b_10), .val (.ref b_13), .val (.ref b_16), .val (.ref b_20), .val (.ref b_2), .val (.ref b_13), .val (.ref r_142), .val (.int (1 : Int32))] [(.int (8 : Int32)), (.ref r_142)])) rfl rfl (hb hby at_313) _ ?_
        exact kt
      refine own_go (T' := T_159) (g' := (mkF m 324 #[.val (.long q1), .second, .val (.int p2), .val (.int p3), .val (.int p4), .val (.int (1 : Int32)), .val (.int (1 : Int32)), .val (.ref b_1), .val (.ref b_2), .val (.ref b_10), .val (.ref b_13), .val (.ref b_16), .val (.ref b_20), .val (.ref b_2), .val (.ref b_13), .val (.ref r_142), .val (.int (1 : Int32))] [(.int (1 : Int32))])) (fun t kt => ?_) ?_
      · show Steps p.tables e below (T_159.setTop (mkF m 314 #[.val (.long q1), .second, .val (.int p2), .val (.int p3), .val (.int p4), .val (.int (1 : Int32)), .val (.int (1 : Int32)), .val (.ref b_1), .val (.ref b_2), .val (.ref b_10), .val (.ref b_13), .val (.ref b_16), .val (.ref b_20), .val (.ref b_2), .val (.ref b_13), .val (.ref r_142), .val (.int (1 : Int32))] [(.int (nar .byte (p3.toInt8.toInt32)))])) t
        refine XS.iloadN X_159.here hx rfl (hb hby at_314) rfl ?_
        show Steps p.tables e below (T_159.setTop (mkF m 315 #[.val (.long q1), .second, .val (.int p2), .val (.int p3), .val (.int p4), .val (.int (1 : Int32)), .val (.int (1 : Int32)), .val (.ref b_1), .val (.ref b_2), .val (.ref b_10), .val (.ref b_13), .val (.ref b_16), .val (.ref b_20), .val (.ref b_2), .val (.ref b_13), .val (.ref r_142), .val (.int (1 : Int32))] [(.int p3), (.int (nar .byte (p3.toInt8.toInt32)))])) t
        refine XS.i2b X_159.here hx rfl (hb hby at_315) rfl ?_
        show Steps p.tables e below (T_159.setTop (mkF m 316 #[.val (.long q1), .second, .val (.int p2), .val (.int p3), .val (.int p4), .val (.int (1 : Int32)), .val (.int (1 : Int32)), .val (.ref b_1), .val (.ref b_2), .val (.ref b_10), .val (.ref b_13), .val (.ref b_16), .val (.ref b_20), .val (.ref b_2), .val (.ref b_13), .val (.ref r_142), .val (.int (1 : Int32))] [(.int (p3.toInt8.toInt32)), (.int (nar .byte (p3.toInt8.toInt32)))])) t
        refine XS.icmpNo X_159.here hx rfl (hb hby at_316) rfl (teq (own_nar _ : (nar .byte (p3.toInt8.toInt32)) = (p3.toInt8.toInt32))).2 ?_
        show Steps p.tables e below (T_159.setTop (mkF m 319 #[.val (.long q1), .second, .val (.int p2), .val (.int p3), .val (.int p4), .val (.int (1 : Int32)), .val (.int (1 : Int32)), .val (.ref b_1), .val (.ref b_2), .val (.ref b_10), .val (.ref b_13), .val (.ref b_16), .val (.ref b_20), .val (.ref b_2), .val (.ref b_13), .val (.ref r_142), .val (.int (1 : Int32))] [])) t
        refine XS.iconst X_159.here hx rfl (hb hby at_319) ?_
        show Steps p.tables e below (T_159.setTop (mkF m 320 #[.val (.long q1), .second, .val (.int p2), .val (.int p3), .val (.int p4), .val (.int (1 : Int32)), .val (.int (1 : Int32)), .val (.ref b_1), .val (.ref b_2), .val (.ref b_10), .val (.ref b_13), .val (.ref b_16), .val (.ref b_20), .val (.ref b_2), .val (.ref b_13), .val (.ref r_142), .val (.int (1 : Int32))] [(.int (1 : Int32))])) t
        refine XS.goto X_159.here hx rfl (pc0 := 320) (pc' := 324) rfl (hb hby at_320) (by decide) (by decide) ?_
        exact kt
      obtain ⟨fs, hr, hrun, hended, hW, hsame⟩ := X_159.leave (v := some (.int (1 : Int32))) (fun h => by rw [Bd.returns] at h; cases h)
      refine ⟨_, _, ?_, hrun, hended, _, _, rfl, ?_, ⟨_, rfl⟩, hW, hsame.mono (by decide) (by decide)⟩
      · exact retN X_159 hx (t := .boolean) Bd.returns (by simp) (hb hby at_324) hr
      · show Q_rm0 Z _ _ _ _ h0 n0 _ T_159.heap _
        rw [e_159]
        exact ⟨rfl, N_159⟩
    · refine own_go (T' := T_33) (g' := (mkF m 189 #[.val (.long q1), .second, .val (.int p2), .val (.int p3), .val (.int p4), .val (.int (1 : Int32)), .val (.int (2 : Int32)), .val (.ref b_1), .val (.ref b_2), .val (.ref b_10), .val (.ref b_13), .val (.ref b_16), .val (.ref b_20), .val (.ref b_2), .val (.ref b_16), .unset, .unset] [(.ref b_16), (.ref b_2)])) (fun t kt => ?_) ?_
      · show Steps p.tables e below (T_33.setTop (mkF m 135 #[.val (.long q1), .second, .val (.int p2), .val (.int p3), .val (.int p4), .val (.int (1 : Int32)), .val (.int (2 : Int32)), .val (.ref b_1), .val (.ref b_2), .val (.ref b_10), .val (.ref b_13), .val (.ref b_16), .val (.ref b_20), .unset, .unset, .unset, .unset] [])) t
        refine XS.iload X_33.here hx rfl (hb hby at_135) rfl ?_
        show Steps p.tables e below (T_33.setTop (mkF m 137 #[.val (.long q1), .second, .val (.int p2), .val (.int p3), .val (.int p4), .val (.int (1 : Int32)), .val (.int (2 : Int32)), .val (.ref b_1), .val (.ref b_2), .val (.ref b_10), .val (.ref b_13), .val (.ref b_16), .val (.ref b_20), .unset, .unset, .unset, .unset] [(.int (1 : Int32))])) t
        refine XS.ifNo X_33.here hx rfl (hb hby at_137) rfl ((if0 _ _).trans (feq (by decide : ¬ ((1 : Int32) = (0 : Int32)))).1) ?_
        show Steps p.tables e below (T_33.setTop (mkF m 140 #[.val (.long q1), .second, .val (.int p2), .val (.int p3), .val (.int p4), .val (.int (1 : Int32)), .val (.int (2 : Int32)), .val (.ref b_1), .val (.ref b_2), .val (.ref b_10), .val (.ref b_13), .val (.ref b_16), .val (.ref b_20), .unset, .unset, .unset, .unset] [])) t
        refine XS.aload X_33.here hx rfl (hb hby at_140) rfl rfl ?_
        show Steps p.tables e below (T_33.setTop (mkF m 142 #[.val (.long q1), .second, .val (.int p2), .val (.int p3), .val (.int p4), .val (.int (1 : Int32)), .val (.int (2 : Int32)), .val (.ref b_1), .val (.ref b_2), .val (.ref b_10), .val (.ref b_13), .val (.ref b_16), .val (.ref b_20), .unset, .unset, .unset, .unset] [(.ref b_2)])) t
        refine XS.goto X_33.here hx rfl (pc0 := 142) (pc' := 147) rfl (hb hby at_142) (by decide) (by decide) ?_
        show Steps p.tables e below (T_33.setTop (mkF m 147 #[.val (.long q1), .second, .val (.int p2), .val (.int p3), .val (.int p4), .val (.int (1 : Int32)), .val (.int (2 : Int32)), .val (.ref b_1), .val (.ref b_2), .val (.ref b_10), .val (.ref b_13), .val (.ref b_16), .val (.ref b_20), .unset, .unset, .unset, .unset] [(.ref b_2)])) t
        refine XS.astore X_33.here hx rfl (hb hby at_147) rfl rfl (l' := #[.val (.long q1), .second, .val (.int p2), .val (.int p3), .val (.int p4), .val (.int (1 : Int32)), .val (.int (2 : Int32)), .val (.ref b_1), .val (.ref b_2), .val (.ref b_10), .val (.ref b_13), .val (.ref b_16), .val (.ref b_20), .val (.ref b_2), .unset, .unset, .unset]) rfl ?_
        show Steps p.tables e below (T_33.setTop (mkF m 149 #[.val (.long q1), .second, .val (.int p2), .val (.int p3), .val (.int p4), .val (.int (1 : Int32)), .val (.int (2 : Int32)), .val (.ref b_1), .val (.ref b_2), .val (.ref b_10), .val (.ref b_13), .val (.ref b_16), .val (.ref b_20), .val (.ref b_2), .unset, .unset, .unset] [])) t
        refine XS.iload X_33.here hx rfl (hb hby at_149) rfl ?_
        show Steps p.tables e below (T_33.setTop (mkF m 151 #[.val (.long q1), .second, .val (.int p2), .val (.int p3), .val (.int p4), .val (.int (1 : Int32)), .val (.int (2 : Int32)), .val (.ref b_1), .val (.ref b_2), .val (.ref b_10), .val (.ref b_13), .val (.ref b_16), .val (.ref b_20), .val (.ref b_2), .unset, .unset, .unset] [(.int (2 : Int32))])) t
        refine XS.ifYes X_33.here hx rfl (pc0 := 151) (pc' := 159) rfl (hb hby at_151) rfl ((if0 _ _).trans (feq (by decide : ¬ ((2 : Int32) = (0 : Int32)))).2) (by decide) (by decide) ?_
        show Steps p.tables e below (T_33.setTop (mkF m 159 #[.val (.long q1), .second, .val (.int p2), .val (.int p3), .val (.int p4), .val (.int (1 : Int32)), .val (.int (2 : Int32)), .val (.ref b_1), .val (.ref b_2), .val (.ref b_10), .val (.ref b_13), .val (.ref b_16), .val (.ref b_20), .val (.ref b_2), .unset, .unset, .unset] [])) t
        refine XS.iload X_33.here hx rfl (hb hby at_159) rfl ?_
        show Steps p.tables e below (T_33.setTop (mkF m 161 #[.val (.long q1), .second, .val (.int p2), .val (.int p3), .val (.int p4), .val (.int (1 : Int32)), .val (.int (2 : Int32)), .val (.ref b_1), .val (.ref b_2), .val (.ref b_10), .val (.ref b_13), .val (.ref b_16), .val (.ref b_20), .val (.ref b_2), .unset, .unset, .unset] [(.int (2 : Int32))])) t
        refine XS.iconst X_33.here hx rfl (hb hby at_161) ?_
        show Steps p.tables e below (T_33.setTop (mkF m 162 #[.val (.long q1), .second, .val (.int p2), .val (.int p3), .val (.int p4), .val (.int (1 : Int32)), .val (.int (2 : Int32)), .val (.ref b_1), .val (.ref b_2), .val (.ref b_10), .val (.ref b_13), .val (.ref b_16), .val (.ref b_20), .val (.ref b_2), .unset, .unset, .unset] [(.int (1 : Int32)), (.int (2 : Int32))])) t
        refine XS.icmpYes X_33.here hx rfl (pc0 := 162) (pc' := 170) rfl (hb hby at_162) rfl (feq (by decide : ¬ ((2 : Int32) = (1 : Int32)))).2 (by decide) (by decide) ?_
        show Steps p.tables e below (T_33.setTop (mkF m 170 #[.val (.long q1), .second, .val (.int p2), .val (.int p3), .val (.int p4), .val (.int (1 : Int32)), .val (.int (2 : Int32)), .val (.ref b_1), .val (.ref b_2), .val (.ref b_10), .val (.ref b_13), .val (.ref b_16), .val (.ref b_20), .val (.ref b_2), .unset, .unset, .unset] [])) t
        refine XS.iload X_33.here hx rfl (hb hby at_170) rfl ?_
        show Steps p.tables e below (T_33.setTop (mkF m 172 #[.val (.long q1), .second, .val (.int p2), .val (.int p3), .val (.int p4), .val (.int (1 : Int32)), .val (.int (2 : Int32)), .val (.ref b_1), .val (.ref b_2), .val (.ref b_10), .val (.ref b_13), .val (.ref b_16), .val (.ref b_20), .val (.ref b_2), .unset, .unset, .unset] [(.int (2 : Int32))])) t
        refine XS.iconst X_33.here hx rfl (hb hby at_172) ?_
        show Steps p.tables e below (T_33.setTop (mkF m 173 #[.val (.long q1), .second, .val (.int p2), .val (.int p3), .val (.int p4), .val (.int (1 : Int32)), .val (.int (2 : Int32)), .val (.ref b_1), .val (.ref b_2), .val (.ref b_10), .val (.ref b_13), .val (.ref b_16), .val (.ref b_20), .val (.ref b_2), .unset, .unset, .unset] [(.int (2 : Int32)), (.int (2 : Int32))])) t
        refine XS.icmpNo X_33.here hx rfl (hb hby at_173) rfl (teq (by decide : (2 : Int32) = (2 : Int32))).2 ?_
        show Steps p.tables e below (T_33.setTop (mkF m 176 #[.val (.long q1), .second, .val (.int p2), .val (.int p3), .val (.int p4), .val (.int (1 : Int32)), .val (.int (2 : Int32)), .val (.ref b_1), .val (.ref b_2), .val (.ref b_10), .val (.ref b_13), .val (.ref b_16), .val (.ref b_20), .val (.ref b_2), .unset, .unset, .unset] [])) t
        refine XS.aload X_33.here hx rfl (hb hby at_176) rfl rfl ?_
        show Steps p.tables e below (T_33.setTop (mkF m 178 #[.val (.long q1), .second, .val (.int p2), .val (.int p3), .val (.int p4), .val (.int (1 : Int32)), .val (.int (2 : Int32)), .val (.ref b_1), .val (.ref b_2), .val (.ref b_10), .val (.ref b_13), .val (.ref b_16), .val (.ref b_20), .val (.ref b_2), .unset, .unset, .unset] [(.ref b_16)])) t
        refine XS.goto X_33.here hx rfl (pc0 := 178) (pc' := 183) rfl (hb hby at_178) (by decide) (by decide) ?_
        show Steps p.tables e below (T_33.setTop (mkF m 183 #[.val (.long q1), .second, .val (.int p2), .val (.int p3), .val (.int p4), .val (.int (1 : Int32)), .val (.int (2 : Int32)), .val (.ref b_1), .val (.ref b_2), .val (.ref b_10), .val (.ref b_13), .val (.ref b_16), .val (.ref b_20), .val (.ref b_2), .unset, .unset, .unset] [(.ref b_16)])) t
        refine XS.astore X_33.here hx rfl (hb hby at_183) rfl rfl (l' := #[.val (.long q1), .second, .val (.int p2), .val (.int p3), .val (.int p4), .val (.int (1 : Int32)), .val (.int (2 : Int32)), .val (.ref b_1), .val (.ref b_2), .val (.ref b_10), .val (.ref b_13), .val (.ref b_16), .val (.ref b_20), .val (.ref b_2), .val (.ref b_16), .unset, .unset]) rfl ?_
        show Steps p.tables e below (T_33.setTop (mkF m 185 #[.val (.long q1), .second, .val (.int p2), .val (.int p3), .val (.int p4), .val (.int (1 : Int32)), .val (.int (2 : Int32)), .val (.ref b_1), .val (.ref b_2), .val (.ref b_10), .val (.ref b_13), .val (.ref b_16), .val (.ref b_20), .val (.ref b_2), .val (.ref b_16), .unset, .unset] [])) t
        refine XS.aload X_33.here hx rfl (hb hby at_185) rfl rfl ?_
        show Steps p.tables e below (T_33.setTop (mkF m 187 #[.val (.long q1), .second, .val (.int p2), .val (.int p3), .val (.int p4), .val (.int (1 : Int32)), .val (.int (2 : Int32)), .val (.ref b_1), .val (.ref b_2), .val (.ref b_10), .val (.ref b_13), .val (.ref b_16), .val (.ref b_20), .val (.ref b_2), .val (.ref b_16), .unset, .unset] [(.ref b_2)])) t
        refine XS.aload X_33.here hx rfl (hb hby at_187) rfl rfl ?_
        exact kt
      have f_163 := ((((((((((V_9.ext E_10).ext E_13).ext E_16).ext E_20).other W_25 ne_b_2_b_13).other W_27 ne_b_2_b_16).other W_29 ne_b_2_b_16).other W_30 ne_b_2_b_20).other W_32 ne_b_2_b_20).other W_33 ne_b_2_b_20)
      have f_164 := (((V_29.other W_30 ne_b_16_b_20).other W_32 ne_b_16_b_20).other W_33 ne_b_16_b_20)
      obtain ⟨_, _, ⟨T_165, L_165, k_165, n_165⟩, -, X_165, ⟨Lc_165, hQ_165, l_165, y_165, z_165⟩, st_165⟩ := Jvm.LawKit.callS X_33 hx (y := (⟨"com/example/thin_table/thintable/model/KeyOrder", "newestValue", "([B[B)[B"⟩ : MethodName)) hown (mvT hZ (hw _ (List.mem_of_getElem? (i := 5) rfl))) (mvT hZ (hw _ (List.mem_of_getElem? (i := 6) rfl))) (mvT hZ (hw _ (List.mem_of_getElem? (i := 7) rfl))) (mvT hZ (hw _ (List.mem_of_getElem? (i := 8) rfl))) (by decide) (backOf (W := 0) (rnew11_2 l Z a0 hw [] (b_2) (b_16) k_2 k_16 [(.int (nar .byte (p2.toInt8.toInt32))), (.int (nar .byte (((p2.toUInt32 >>> ((8 : Int32) &&& 31).toUInt32).toInt32).toInt8.toInt32))), (.int (nar .byte (((p2.toUInt32 >>> ((16 : Int32) &&& 31).toUInt32).toInt32).toInt8.toInt32))), (.int (own_by q1 56)), (.int (own_by q1 48)), (.int (own_by q1 40)), (.int (own_by q1 32)), (.int (own_by q1 24)), (.int (own_by q1 16)), (.int (own_by q1 8)), (.int (own_b0 q1))] [(.int (nar .byte (p3.toInt8.toInt32))), (.int (nar .byte (((p3.toUInt32 >>> ((8 : Int32) &&& 31).toUInt32).toInt32).toInt8.toInt32)))] h_33 n0 Z_33 f_163 f_164) hZ (hw _ (List.mem_of_getElem? (i := 8) rfl)) (hw _ (List.mem_of_getElem? (i := 7) rfl)) (by decide) (by decide)) (g := (mkF m 189 #[.val (.long q1), .second, .val (.int p2), .val (.int p3), .val (.int p4), .val (.int (1 : Int32)), .val (.int (2 : Int32)), .val (.ref b_1), .val (.ref b_2), .val (.ref b_10), .val (.ref b_13), .val (.ref b_16), .val (.ref b_20), .val (.ref b_2), .val (.ref b_16), .unset, .unset] [(.ref b_16), (.ref b_2)])) rfl (by rw [hml]; rfl) (argsL := [(.ref b_2), (.ref b_16)]) (rest := []) (lenOf pd_1 rfl) rfl (by show 2 * 0 + _ ≤ _; exact Nat.le_of_eq rfl) (hb hby at_189) (fun _ _ => ⟨rfl, e_33, (by decide : 6 + 1 ≤ _), (by decide : 25 + 10 ≤ _)⟩)
      dsimp only [Pt.U, Pt.locs, Pt.cells, Pt.slots] at X_165 l_165 y_165 z_165 st_165 hQ_165
      subst l_165 y_165 z_165
      obtain ⟨r_165, kB_165, rfl, N_165q, K_165, sr_165, V_165⟩ := hQ_165
      have N_165 := Fr.app N_33 N_165q
      have f_166 := (((((((f_21.ext E_20).wr W_25).wr W_27).wr W_29).wr W_30).wr W_32).wr W_33)
      have ne_b_1_r_165 : b_1 ≠ r_165 := Nat.ne_of_lt (Nat.lt_of_lt_of_le f_166.lt sr_165)
      have f_167 := (((((((f_22.ext E_20).wr W_25).wr W_27).wr W_29).wr W_30).wr W_32).wr W_33)
      have ne_b_2_r_165 : b_2 ≠ r_165 := Nat.ne_of_lt (Nat.lt_of_lt_of_le f_167.lt sr_165)
      have f_168 := (((((((f_23.ext E_20).wr W_25).wr W_27).wr W_29).wr W_30).wr W_32).wr W_33)
      have ne_b_10_r_165 : b_10 ≠ r_165 := Nat.ne_of_lt (Nat.lt_of_lt_of_le f_168.lt sr_165)
      have f_169 := (((((((f_24.ext E_20).wr W_25).wr W_27).wr W_29).wr W_30).wr W_32).wr W_33)
      have ne_b_13_r_165 : b_13 ≠ r_165 := Nat.ne_of_lt (Nat.lt_of_lt_of_le f_169.lt sr_165)
      have f_170 := (((((((B_16.ext E_20).wr W_25).wr W_27).wr W_29).wr W_30).wr W_32).wr W_33)
      have ne_b_16_r_165 : b_16 ≠ r_165 := Nat.ne_of_lt (Nat.lt_of_lt_of_le f_170.lt sr_165)
      have f_171 := ((((((B_20.wr W_25).wr W_27).wr W_29).wr W_30).wr W_32).wr W_33)
      have ne_b_20_r_165 : b_20 ≠ r_165 := Nat.ne_of_lt (Nat.lt_of_lt_of_le f_171.lt sr_165)
      have g_r_165 : n0 ≤ r_165 := Nat.le_trans Z_33 sr_165
      have Z_165 : n0 ≤ T_165.heap.size := Nat.le_trans Z_33 K_165.1
      refine own_go (g' := (mkF m 192 #[.val (.long q1), .second, .val (.int p2), .val (.int p3), .val (.int p4), .val (.int (1 : Int32)), .val (.int (2 : Int32)), .val (.ref b_1), .val (.ref b_2), .val (.ref b_10), .val (.ref b_13), .val (.ref b_16), .val (.ref b_20), .val (.ref b_2), .val (.ref b_16), .unset, .unset] [(.ref r_165)])) st_165 ?_
      replace V_165 : Arv Z T_165.heap r_165 kB_165 .byte (10 : Int32) [(.int (own_by q1 56)), (.int (own_by q1 48)), (.int (own_by q1 40)), (.int (own_by q1 32)), (.int (own_by q1 24)), (.int (own_by q1 16)), (.int (own_by q1 8)), (.int (own_b0 q1)), (.int (nar .byte (p3.toInt8.toInt32))), (.int (nar .byte (((p3.toUInt32 >>> ((8 : Int32) &&& 31).toUInt32).toInt32).toInt8.toInt32)))] (.int (0 : Int32)) := V_165
      refine own_go (T' := T_165) (g' := (mkF m 201 #[.val (.long q1), .second, .val (.int p2), .val (.int p3), .val (.int p4), .val (.int (1 : Int32)), .val (.int (2 : Int32)), .val (.ref b_1), .val (.ref b_2), .val (.ref b_10), .val (.ref b_13), .val (.ref b_16), .val (.ref b_20), .val (.ref b_2), .val (.ref b_16), .val (.ref r_165), .unset] [(.ref r_165)])) (fun t kt => ?_) ?_
      · show Steps p.tables e below (T_165.setTop (mkF m 192 #[.val (.long q1), .second, .val (.int p2), .val (.int p3), .val (.int p4), .val (.int (1 : Int32)), .val (.int (2 : Int32)), .val (.ref b_1), .val (.ref b_2), .val (.ref b_10), .val (.ref b_13), .val (.ref b_16), .val (.ref b_20), .val (.ref b_2), .val (.ref b_16), .unset, .unset] [(.ref r_165)])) t
        refine XS.astore X_165.here hx rfl (hb hby at_192) rfl rfl (l' := #[.val (.long q1), .second, .val (.int p2), .val (.int p3), .val (.int p4), .val (.int (1 : Int32)), .val (.int (2 : Int32)), .val (.ref b_1), .val (.ref b_2), .val (.ref b_10), .val (.ref b_13), .val (.ref b_16), .val (.ref b_20), .val (.ref b_2), .val (.ref b_16), .val (.ref r_165), .unset]) rfl ?_
        show Steps p.tables e below (T_165.setTop (mkF m 194 #[.val (.long q1), .second, .val (.int p2), .val (.int p3), .val (.int p4), .val (.int (1 : Int32)), .val (.int (2 : Int32)), .val (.ref b_1), .val (.ref b_2), .val (.ref b_10), .val (.ref b_13), .val (.ref b_16), .val (.ref b_20), .val (.ref b_2), .val (.ref b_16), .val (.ref r_165), .unset] [])) t
        refine XS.aload X_165.here hx rfl (hb hby at_194) rfl rfl ?_
        show Steps p.tables e below (T_165.setTop (mkF m 196 #[.val (.long q1), .second, .val (.int p2), .val (.int p3), .val (.int p4), .val (.int (1 : Int32)), .val (.int (2 : Int32)), .val (.ref b_1), .val (.ref b_2), .val (.ref b_10), .val (.ref b_13), .val (.ref b_16), .val (.ref b_20), .val (.ref b_2), .val (.ref b_16), .val (.ref r_165), .unset] [(.ref r_165)])) t
        refine XS.ifnullNo X_165.here hx rfl (hb hby at_196) rfl ?_
        show Steps p.tables e below (T_165.setTop (mkF m 199 #[.val (.long q1), .second, .val (.int p2), .val (.int p3), .val (.int p4), .val (.int (1 : Int32)), .val (.int (2 : Int32)), .val (.ref b_1), .val (.ref b_2), .val (.ref b_10), .val (.ref b_13), .val (.ref b_16), .val (.ref b_20), .val (.ref b_2), .val (.ref b_16), .val (.ref r_165), .unset] [])) t
        refine XS.aload X_165.here hx rfl (hb hby at_199) rfl rfl ?_
        exact kt
      have vq_172 := V_165
      obtain ⟨c_172, a_172, -, s_172, m_172, -, -⟩ := vq_172
      refine own_go (T' := T_165) (g' := (mkF m 202 #[.val (.long q1), .second, .val (.int p2), .val (.int p3), .val (.int p4), .val (.int (1 : Int32)), .val (.int (2 : Int32)), .val (.ref b_1), .val (.ref b_2), .val (.ref b_10), .val (.ref b_13), .val (.ref b_16), .val (.ref b_20), .val (.ref b_2), .val (.ref b_16), .val (.ref r_165), .unset] [(.int (10 : Int32))])) (fun t kt => ?_) ?_
      · refine X_165.arraylength hx a_172.1 (State.isArrayOf_alike hZ.alike a_172.2.1) (g := (mkF m 201 #[.val (.long q1), .second, .val (.int p2), .val (.int p3), .val (.int p4), .val (.int (1 : Int32)), .val (.int (2 : Int32)), .val (.ref b_1), .val (.ref b_2), .val (.ref b_10), .val (.ref b_13), .val (.ref b_16), .val (.ref b_20), .val (.ref b_2), .val (.ref b_16), .val (.ref r_165), .unset] [(.ref r_165)])) rfl rfl (hb hby at_201) _ ?_
        rw [len_of s_172 m_172]
        exact kt
      refine own_go (T' := T_165) (g' := (mkF m 227 #[.val (.long q1), .second, .val (.int p2), .val (.int p3), .val (.int p4), .val (.int (1 : Int32)), .val (.int (2 : Int32)), .val (.ref b_1), .val (.ref b_2), .val (.ref b_10), .val (.ref b_13), .val (.ref b_16), .val (.ref b_20), .val (.ref b_2), .val (.ref b_16), .val (.ref r_165), .unset] [(.long q1), (.ref r_165)])) (fun t kt => ?_) ?_
      · show Steps p.tables e below (T_165.setTop (mkF m 202 #[.val (.long q1), .second, .val (.int p2), .val (.int p3), .val (.int p4), .val (.int (1 : Int32)), .val (.int (2 : Int32)), .val (.ref b_1), .val (.ref b_2), .val (.ref b_10), .val (.ref b_13), .val (.ref b_16), .val (.ref b_20), .val (.ref b_2), .val (.ref b_16), .val (.ref r_165), .unset] [(.int (10 : Int32))])) t
        refine XS.bipush X_165.here hx rfl (hb hby at_202) ?_
        show Steps p.tables e below (T_165.setTop (mkF m 204 #[.val (.long q1), .second, .val (.int p2), .val (.int p3), .val (.int p4), .val (.int (1 : Int32)), .val (.int (2 : Int32)), .val (.ref b_1), .val (.ref b_2), .val (.ref b_10), .val (.ref b_13), .val (.ref b_16), .val (.ref b_20), .val (.ref b_2), .val (.ref b_16), .val (.ref r_165), .unset] [(.int (8 : Int32)), (.int (10 : Int32))])) t
        refine XS.iload X_165.here hx rfl (hb hby at_204) rfl ?_
        show Steps p.tables e below (T_165.setTop (mkF m 206 #[.val (.long q1), .second, .val (.int p2), .val (.int p3), .val (.int p4), .val (.int (1 : Int32)), .val (.int (2 : Int32)), .val (.ref b_1), .val (.ref b_2), .val (.ref b_10), .val (.ref b_13), .val (.ref b_16), .val (.ref b_20), .val (.ref b_2), .val (.ref b_16), .val (.ref r_165), .unset] [(.int (2 : Int32)), (.int (8 : Int32)), (.int (10 : Int32))])) t
        refine XS.iadd X_165.here hx rfl (hb hby at_206) rfl ?_
        show Steps p.tables e below (T_165.setTop (mkF m 207 #[.val (.long q1), .second, .val (.int p2), .val (.int p3), .val (.int p4), .val (.int (1 : Int32)), .val (.int (2 : Int32)), .val (.ref b_1), .val (.ref b_2), .val (.ref b_10), .val (.ref b_13), .val (.ref b_16), .val (.ref b_20), .val (.ref b_2), .val (.ref b_16), .val (.ref r_165), .unset] [(.int (10 : Int32)), (.int (10 : Int32))])) t
        refine XS.icmpNo X_165.here hx rfl (hb hby at_207) rfl (teq (by decide : (10 : Int32) = (10 : Int32))).2 ?_
        show Steps p.tables e below (T_165.setTop (mkF m 210 #[.val (.long q1), .second, .val (.int p2), .val (.int p3), .val (.int p4), .val (.int (1 : Int32)), .val (.int (2 : Int32)), .val (.ref b_1), .val (.ref b_2), .val (.ref b_10), .val (.ref b_13), .val (.ref b_16), .val (.ref b_20), .val (.ref b_2), .val (.ref b_16), .val (.ref r_165), .unset] [])) t
        refine XS.aload X_165.here hx rfl (hb hby at_210) rfl rfl ?_
        show Steps p.tables e below (T_165.setTop (mkF m 212 #[.val (.long q1), .second, .val (.int p2), .val (.int p3), .val (.int p4), .val (.int (1 : Int32)), .val (.int (2 : Int32)), .val (.ref b_1), .val (.ref b_2), .val (.ref b_10), .val (.ref b_13), .val (.ref b_16), .val (.ref b_20), .val (.ref b_2), .val (.ref b_16), .val (.ref r_165), .unset] [(.ref r_165)])) t
        refine XS.aload X_165.here hx rfl (hb hby at_212) rfl rfl ?_
        show Steps p.tables e below (T_165.setTop (mkF m 214 #[.val (.long q1), .second, .val (.int p2), .val (.int p3), .val (.int p4), .val (.int (1 : Int32)), .val (.int (2 : Int32)), .val (.ref b_1), .val (.ref b_2), .val (.ref b_10), .val (.ref b_13), .val (.ref b_16), .val (.ref b_20), .val (.ref b_2), .val (.ref b_16), .val (.ref r_165), .unset] [(.ref b_16), (.ref r_165)])) t
        refine Jvm.RoadKit.acmp (g := (mkF m 214 #[.val (.long q1), .second, .val (.int p2), .val (.int p3), .val (.int p4), .val (.int (1 : Int32)), .val (.int (2 : Int32)), .val (.ref b_1), .val (.ref b_2), .val (.ref b_10), .val (.ref b_13), .val (.ref b_16), .val (.ref b_20), .val (.ref b_2), .val (.ref b_16), .val (.ref r_165), .unset] [(.ref b_16), (.ref r_165)])) X_165 hx rfl rfl rfl (pc0 := 214) (pc' := 217) (same := false) rfl (hb hby at_214) rfl (decide_eq_false fun q => (Ne.symm ne_b_16_r_165) (Value.ref.inj q)) (by decide) (by decide) ?_
        show Steps p.tables e below (T_165.setTop (mkF m 217 #[.val (.long q1), .second, .val (.int p2), .val (.int p3), .val (.int p4), .val (.int (1 : Int32)), .val (.int (2 : Int32)), .val (.ref b_1), .val (.ref b_2), .val (.ref b_10), .val (.ref b_13), .val (.ref b_16), .val (.ref b_20), .val (.ref b_2), .val (.ref b_16), .val (.ref r_165), .unset] [])) t
        refine XS.aload X_165.here hx rfl (hb hby at_217) rfl rfl ?_
        show Steps p.tables e below (T_165.setTop (mkF m 219 #[.val (.long q1), .second, .val (.int p2), .val (.int p3), .val (.int p4), .val (.int (1 : Int32)), .val (.int (2 : Int32)), .val (.ref b_1), .val (.ref b_2), .val (.ref b_10), .val (.ref b_13), .val (.ref b_16), .val (.ref b_20), .val (.ref b_2), .val (.ref b_16), .val (.ref r_165), .unset] [(.ref r_165)])) t
        refine XS.aload X_165.here hx rfl (hb hby at_219) rfl rfl ?_
        show Steps p.tables e below (T_165.setTop (mkF m 221 #[.val (.long q1), .second, .val (.int p2), .val (.int p3), .val (.int p4), .val (.int (1 : Int32)), .val (.int (2 : Int32)), .val (.ref b_1), .val (.ref b_2), .val (.ref b_10), .val (.ref b_13), .val (.ref b_16), .val (.ref b_20), .val (.ref b_2), .val (.ref b_16), .val (.ref r_165), .unset] [(.ref b_2), (.ref r_165)])) t
        refine Jvm.RoadKit.acmp (g := (mkF m 221 #[.val (.long q1), .second, .val (.int p2), .val (.int p3), .val (.int p4), .val (.int (1 : Int32)), .val (.int (2 : Int32)), .val (.ref b_1), .val (.ref b_2), .val (.ref b_10), .val (.ref b_13), .val (.ref b_16), .val (.ref b_20), .val (.ref b_2), .val (.ref b_16), .val (.ref r_165), .unset] [(.ref b_2), (.ref r_165)])) X_165 hx rfl rfl rfl (pc0 := 221) (pc' := 224) (same := false) rfl (hb hby at_221) rfl (decide_eq_false fun q => (Ne.symm ne_b_2_r_165) (Value.ref.inj q)) (by decide) (by decide) ?_
        show Steps p.tables e below (T_165.setTop (mkF m 224 #[.val (.long q1), .second, .val (.int p2), .val (.int p3), .val (.int p4), .val (.int (1 : Int32)), .val (.int (2 : Int32)), .val (.ref b_1), .val (.ref b_2), .val (.ref b_10), .val (.ref b_13), .val (.ref b_16), .val (.ref b_20), .val (.ref b_2), .val (.ref b_16), .val (.ref r_165), .unset] [])) t
        refine XS.aload X_165.here hx rfl (hb hby at_224) rfl rfl ?_
        show Steps p.tables e below (T_165.setTop (mkF m 226 #[.val (.long q1), .second, .val (.int p2), .val (.int p3), .val (.int p4), .val (.int (1 : Int32)), .val (.int (2 : Int32)), .val (.ref b_1), .val (.ref b_2), .val (.ref b_10), .val (.ref b_13), .val (.ref b_16), .val (.ref b_20), .val (.ref b_2), .val (.ref b_16), .val (.ref r_165), .unset] [(.ref r_165)])) t
        refine XS.lloadN X_165.here hx rfl (hb hby at_226) rfl ?_
        exact kt
      obtain ⟨_, _, ⟨T_173, L_173, k_173, n_173⟩, -, X_173, ⟨Lc_173, hQ_173, l_173, y_173, z_173⟩, st_173⟩ := Jvm.LawKit.callS X_165 hx (y := (⟨"com/example/thin_table/thintable/model/KeyOrderNewestValuePinLaw", "head", "([BJ)Z"⟩ : MethodName)) hown (mvT hZ (hw _ (List.mem_of_getElem? (i := 13) rfl))) (mvT hZ (hw _ (List.mem_of_getElem? (i := 14) rfl))) (mvT hZ (hw _ (List.mem_of_getElem? (i := 3) rfl))) (mvT hZ (hw _ (List.mem_of_getElem? (i := 15) rfl))) (by decide) (backOf (W := 0) (rhead2 l Z a0 hw [] (r_165) (q1) p3 kB_165 T_165.heap n0 Z_165 V_165) hZ (hw _ (List.mem_of_getElem? (i := 15) rfl)) (hw _ (List.mem_of_getElem? (i := 3) rfl)) (by decide) (by decide)) (g := (mkF m 227 #[.val (.long q1), .second, .val (.int p2), .val (.int p3), .val (.int p4), .val (.int (1 : Int32)), .val (.int (2 : Int32)), .val (.ref b_1), .val (.ref b_2), .val (.ref b_10), .val (.ref b_13), .val (.ref b_16), .val (.ref b_20), .val (.ref b_2), .val (.ref b_16), .val (.ref r_165), .unset] [(.long q1), (.ref r_165)])) rfl (by rw [hml]; rfl) (argsL := [(.ref r_165), (.long q1)]) (rest := []) (lenOf pd_3 rfl) rfl (by show 2 * 0 + _ ≤ _; exact Nat.le_of_eq rfl) (hb hby at_227) (fun _ _ => ⟨rfl, rfl, (by decide : 7 + 0 ≤ _), (by decide : 35 + 0 ≤ _)⟩)
      dsimp only [Pt.U, Pt.locs, Pt.cells, Pt.slots] at X_173 l_173 y_173 z_173 st_173 hQ_173
      subst l_173 y_173 z_173
      obtain ⟨rfl, N_173q, e_173⟩ := hQ_173
      have N_173 := Fr.app N_165 N_173q
      refine own_go (g' := (mkF m 230 #[.val (.long q1), .second, .val (.int p2), .val (.int p3), .val (.int p4), .val (.int (1 : Int32)), .val (.int (2 : Int32)), .val (.ref b_1), .val (.ref b_2), .val (.ref b_10), .val (.ref b_13), .val (.ref b_16), .val (.ref b_20), .val (.ref b_2), .val (.ref b_16), .val (.ref r_165), .unset] [(.int (1 : Int32))])) st_173 ?_
      refine own_go (T' := T_173) (g' := (mkF m 238 #[.val (.long q1), .second, .val (.int p2), .val (.int p3), .val (.int p4), .val (.int (1 : Int32)), .val (.int (2 : Int32)), .val (.ref b_1), .val (.ref b_2), .val (.ref b_10), .val (.ref b_13), .val (.ref b_16), .val (.ref b_20), .val (.ref b_2), .val (.ref b_16), .val (.ref r_165), .unset] [(.int p3), (.int (2 : Int32)), (.ref r_165)])) (fun t kt => ?_) ?_
      · show Steps p.tables e below (T_173.setTop (mkF m 230 #[.val (.long q1), .second, .val (.int p2), .val (.int p3), .val (.int p4), .val (.int (1 : Int32)), .val (.int (2 : Int32)), .val (.ref b_1), .val (.ref b_2), .val (.ref b_10), .val (.ref b_13), .val (.ref b_16), .val (.ref b_20), .val (.ref b_2), .val (.ref b_16), .val (.ref r_165), .unset] [(.int (1 : Int32))])) t
        refine XS.ifNo X_173.here hx rfl (hb hby at_230) rfl ((if0 _ _).trans (feq (by decide : ¬ ((1 : Int32) = (0 : Int32)))).1) ?_
        show Steps p.tables e below (T_173.setTop (mkF m 233 #[.val (.long q1), .second, .val (.int p2), .val (.int p3), .val (.int p4), .val (.int (1 : Int32)), .val (.int (2 : Int32)), .val (.ref b_1), .val (.ref b_2), .val (.ref b_10), .val (.ref b_13), .val (.ref b_16), .val (.ref b_20), .val (.ref b_2), .val (.ref b_16), .val (.ref r_165), .unset] [])) t
        refine XS.aload X_173.here hx rfl (hb hby at_233) rfl rfl ?_
        show Steps p.tables e below (T_173.setTop (mkF m 235 #[.val (.long q1), .second, .val (.int p2), .val (.int p3), .val (.int p4), .val (.int (1 : Int32)), .val (.int (2 : Int32)), .val (.ref b_1), .val (.ref b_2), .val (.ref b_10), .val (.ref b_13), .val (.ref b_16), .val (.ref b_20), .val (.ref b_2), .val (.ref b_16), .val (.ref r_165), .unset] [(.ref r_165)])) t
        refine XS.iload X_173.here hx rfl (hb hby at_235) rfl ?_
        show Steps p.tables e below (T_173.setTop (mkF m 237 #[.val (.long q1), .second, .val (.int p2), .val (.int p3), .val (.int p4), .val (.int (1 : Int32)), .val (.int (2 : Int32)), .val (.ref b_1), .val (.ref b_2), .val (.ref b_10), .val (.ref b_13), .val (.ref b_16), .val (.ref b_20), .val (.ref b_2), .val (.ref b_16), .val (.ref r_165), .unset] [(.int (2 : Int32)), (.ref r_165)])) t
        refine XS.iloadN X_173.here hx rfl (hb hby at_237) rfl ?_
        exact kt
      obtain ⟨_, _, ⟨T_174, L_174, k_174, n_174⟩, -, X_174, ⟨Lc_174, hQ_174, l_174, y_174, z_174⟩, st_174⟩ := Jvm.LawKit.callS X_173 hx (y := (⟨"com/example/thin_table/thintable/model/KeyOrderNewestValuePinLaw", "tail", "([BII)Z"⟩ : MethodName)) hown (mvT hZ (hw _ (List.mem_of_getElem? (i := 16) rfl))) (mvT hZ (hw _ (List.mem_of_getElem? (i := 17) rfl))) (mvT hZ (hw _ (List.mem_of_getElem? (i := 3) rfl))) (mvT hZ (hw _ (List.mem_of_getElem? (i := 18) rfl))) (by decide) (backOf (W := 0) (rtail2 l Z a0 hw [] r_165 q1 p3 kB_165 T_165.heap n0 Z_165 V_165) hZ (hw _ (List.mem_of_getElem? (i := 18) rfl)) (hw _ (List.mem_of_getElem? (i := 3) rfl)) (by decide) (by decide)) (g := (mkF m 238 #[.val (.long q1), .second, .val (.int p2), .val (.int p3), .val (.int p4), .val (.int (1 : Int32)), .val (.int (2 : Int32)), .val (.ref b_1), .val (.ref b_2), .val (.ref b_10), .val (.ref b_13), .val (.ref b_16), .val (.ref b_20), .val (.ref b_2), .val (.ref b_16), .val (.ref r_165), .unset] [(.int p3), (.int (2 : Int32)), (.ref r_165)])) rfl (by rw [hml]; rfl) (argsL := [(.ref r_165), (.int (2 : Int32)), (.int p3)]) (rest := []) (lenOf pd_4 rfl) rfl (by show 2 * 0 + _ ≤ _; exact Nat.le_of_eq rfl) (hb hby at_238) (fun _ _ => ⟨rfl, e_173, (by decide : 7 + 0 ≤ _), (by decide : 35 + 0 ≤ _)⟩)
      dsimp only [Pt.U, Pt.locs, Pt.cells, Pt.slots] at X_174 l_174 y_174 z_174 st_174 hQ_174
      subst l_174 y_174 z_174
      obtain ⟨rfl, N_174q, e_174⟩ := hQ_174
      have N_174 := Fr.app N_173 N_174q
      refine own_go (g' := (mkF m 241 #[.val (.long q1), .second, .val (.int p2), .val (.int p3), .val (.int p4), .val (.int (1 : Int32)), .val (.int (2 : Int32)), .val (.ref b_1), .val (.ref b_2), .val (.ref b_10), .val (.ref b_13), .val (.ref b_16), .val (.ref b_20), .val (.ref b_2), .val (.ref b_16), .val (.ref r_165), .unset] [(.int (1 : Int32))])) st_174 ?_
      refine own_go (T' := T_174) (g' := (mkF m 262 #[.val (.long q1), .second, .val (.int p2), .val (.int p3), .val (.int p4), .val (.int (1 : Int32)), .val (.int (2 : Int32)), .val (.ref b_1), .val (.ref b_2), .val (.ref b_10), .val (.ref b_13), .val (.ref b_16), .val (.ref b_20), .val (.ref b_2), .val (.ref b_16), .val (.ref r_165), .val (.int (1 : Int32))] [(.ref b_2), (.ref b_2)])) (fun t kt => ?_) ?_
      · show Steps p.tables e below (T_174.setTop (mkF m 241 #[.val (.long q1), .second, .val (.int p2), .val (.int p3), .val (.int p4), .val (.int (1 : Int32)), .val (.int (2 : Int32)), .val (.ref b_1), .val (.ref b_2), .val (.ref b_10), .val (.ref b_13), .val (.ref b_16), .val (.ref b_20), .val (.ref b_2), .val (.ref b_16), .val (.ref r_165), .unset] [(.int (1 : Int32))])) t
        refine XS.ifNo X_174.here hx rfl (hb hby at_241) rfl ((if0 _ _).trans (feq (by decide : ¬ ((1 : Int32) = (0 : Int32)))).1) ?_
        show Steps p.tables e below (T_174.setTop (mkF m 244 #[.val (.long q1), .second, .val (.int p2), .val (.int p3), .val (.int p4), .val (.int (1 : Int32)), .val (.int (2 : Int32)), .val (.ref b_1), .val (.ref b_2), .val (.ref b_10), .val (.ref b_13), .val (.ref b_16), .val (.ref b_20), .val (.ref b_2), .val (.ref b_16), .val (.ref r_165), .unset] [])) t
        refine XS.iconst X_174.here hx rfl (hb hby at_244) ?_
        show Steps p.tables e below (T_174.setTop (mkF m 245 #[.val (.long q1), .second, .val (.int p2), .val (.int p3), .val (.int p4), .val (.int (1 : Int32)), .val (.int (2 : Int32)), .val (.ref b_1), .val (.ref b_2), .val (.ref b_10), .val (.ref b_13), .val (.ref b_16), .val (.ref b_20), .val (.ref b_2), .val (.ref b_16), .val (.ref r_165), .unset] [(.int (1 : Int32))])) t
        refine XS.goto X_174.here hx rfl (pc0 := 245) (pc' := 249) rfl (hb hby at_245) (by decide) (by decide) ?_
        show Steps p.tables e below (T_174.setTop (mkF m 249 #[.val (.long q1), .second, .val (.int p2), .val (.int p3), .val (.int p4), .val (.int (1 : Int32)), .val (.int (2 : Int32)), .val (.ref b_1), .val (.ref b_2), .val (.ref b_10), .val (.ref b_13), .val (.ref b_16), .val (.ref b_20), .val (.ref b_2), .val (.ref b_16), .val (.ref r_165), .unset] [(.int (1 : Int32))])) t
        refine XS.istore X_174.here hx rfl (hb hby at_249) rfl (l' := #[.val (.long q1), .second, .val (.int p2), .val (.int p3), .val (.int p4), .val (.int (1 : Int32)), .val (.int (2 : Int32)), .val (.ref b_1), .val (.ref b_2), .val (.ref b_10), .val (.ref b_13), .val (.ref b_16), .val (.ref b_20), .val (.ref b_2), .val (.ref b_16), .val (.ref r_165), .val (.int (1 : Int32))]) rfl ?_
        show Steps p.tables e below (T_174.setTop (mkF m 251 #[.val (.long q1), .second, .val (.int p2), .val (.int p3), .val (.int p4), .val (.int (1 : Int32)), .val (.int (2 : Int32)), .val (.ref b_1), .val (.ref b_2), .val (.ref b_10), .val (.ref b_13), .val (.ref b_16), .val (.ref b_20), .val (.ref b_2), .val (.ref b_16), .val (.ref r_165), .val (.int (1 : Int32))] [])) t
        refine XS.iload X_174.here hx rfl (hb hby at_251) rfl ?_
        show Steps p.tables e below (T_174.setTop (mkF m 253 #[.val (.long q1), .second, .val (.int p2), .val (.int p3), .val (.int p4), .val (.int (1 : Int32)), .val (.int (2 : Int32)), .val (.ref b_1), .val (.ref b_2), .val (.ref b_10), .val (.ref b_13), .val (.ref b_16), .val (.ref b_20), .val (.ref b_2), .val (.ref b_16), .val (.ref r_165), .val (.int (1 : Int32))] [(.int (1 : Int32))])) t
        refine XS.ifYes X_174.here hx rfl (pc0 := 253) (pc' := 258) rfl (hb hby at_253) rfl ((if0 _ _).trans (feq (by decide : ¬ ((1 : Int32) = (0 : Int32)))).2) (by decide) (by decide) ?_
        show Steps p.tables e below (T_174.setTop (mkF m 258 #[.val (.long q1), .second, .val (.int p2), .val (.int p3), .val (.int p4), .val (.int (1 : Int32)), .val (.int (2 : Int32)), .val (.ref b_1), .val (.ref b_2), .val (.ref b_10), .val (.ref b_13), .val (.ref b_16), .val (.ref b_20), .val (.ref b_2), .val (.ref b_16), .val (.ref r_165), .val (.int (1 : Int32))] [])) t
        refine XS.aload X_174.here hx rfl (hb hby at_258) rfl rfl ?_
        show Steps p.tables e below (T_174.setTop (mkF m 260 #[.val (.long q1), .second, .val (.int p2), .val (.int p3), .val (.int p4), .val (.int (1 : Int32)), .val (.int (2 : Int32)), .val (.ref b_1), .val (.ref b_2), .val (.ref b_10), .val (.ref b_13), .val (.ref b_16), .val (.ref b_20), .val (.ref b_2), .val (.ref b_16), .val (.ref r_165), .val (.int (1 : Int32))] [(.ref b_2)])) t
        refine XS.aload X_174.here hx rfl (hb hby at_260) rfl rfl ?_
        exact kt
      have f_175 := (f_163.keep K_165 nin0)
      have vq_176 := f_175
      obtain ⟨c_176, a_176, -, s_176, m_176, -, -⟩ := vq_176
      refine own_go (T' := T_174) (g' := (mkF m 263 #[.val (.long q1), .second, .val (.int p2), .val (.int p3), .val (.int p4), .val (.int (1 : Int32)), .val (.int (2 : Int32)), .val (.ref b_1), .val (.ref b_2), .val (.ref b_10), .val (.ref b_13), .val (.ref b_16), .val (.ref b_20), .val (.ref b_2), .val (.ref b_16), .val (.ref r_165), .val (.int (1 : Int32))] [(.int (11 : Int32)), (.ref b_2)])) (fun t kt => ?_) ?_
      · refine X_174.arraylength hx (by rw [e_174]; exact a_176.1) (State.isArrayOf_alike hZ.alike a_176.2.1) (g := (mkF m 262 #[.val (.long q1), .second, .val (.int p2), .val (.int p3), .val (.int p4), .val (.int (1 : Int32)), .val (.int (2 : Int32)), .val (.ref b_1), .val (.ref b_2), .val (.ref b_10), .val (.ref b_13), .val (.ref b_16), .val (.ref b_20), .val (.ref b_2), .val (.ref b_16), .val (.ref r_165), .val (.int (1 : Int32))] [(.ref b_2), (.ref b_2)])) rfl rfl (hb hby at_262) _ ?_
        rw [len_of s_176 m_176]
        exact kt
      refine own_go (T' := T_174) (g' := (mkF m 269 #[.val (.long q1), .second, .val (.int p2), .val (.int p3), .val (.int p4), .val (.int (1 : Int32)), .val (.int (2 : Int32)), .val (.ref b_1), .val (.ref b_2), .val (.ref b_10), .val (.ref b_13), .val (.ref b_16), .val (.ref b_20), .val (.ref b_2), .val (.ref b_16), .val (.ref r_165), .val (.int (1 : Int32))] [(.ref b_2), (.ref b_2), (.int (10 : Int32)), (.ref b_2)])) (fun t kt => ?_) ?_
      · show Steps p.tables e below (T_174.setTop (mkF m 263 #[.val (.long q1), .second, .val (.int p2), .val (.int p3), .val (.int p4), .val (.int (1 : Int32)), .val (.int (2 : Int32)), .val (.ref b_1), .val (.ref b_2), .val (.ref b_10), .val (.ref b_13), .val (.ref b_16), .val (.ref b_20), .val (.ref b_2), .val (.ref b_16), .val (.ref r_165), .val (.int (1 : Int32))] [(.int (11 : Int32)), (.ref b_2)])) t
        refine XS.iconst X_174.here hx rfl (hb hby at_263) ?_
        show Steps p.tables e below (T_174.setTop (mkF m 264 #[.val (.long q1), .second, .val (.int p2), .val (.int p3), .val (.int p4), .val (.int (1 : Int32)), .val (.int (2 : Int32)), .val (.ref b_1), .val (.ref b_2), .val (.ref b_10), .val (.ref b_13), .val (.ref b_16), .val (.ref b_20), .val (.ref b_2), .val (.ref b_16), .val (.ref r_165), .val (.int (1 : Int32))] [(.int (1 : Int32)), (.int (11 : Int32)), (.ref b_2)])) t
        refine XS.isub X_174.here hx rfl (hb hby at_264) rfl ?_
        show Steps p.tables e below (T_174.setTop (mkF m 265 #[.val (.long q1), .second, .val (.int p2), .val (.int p3), .val (.int p4), .val (.int (1 : Int32)), .val (.int (2 : Int32)), .val (.ref b_1), .val (.ref b_2), .val (.ref b_10), .val (.ref b_13), .val (.ref b_16), .val (.ref b_20), .val (.ref b_2), .val (.ref b_16), .val (.ref r_165), .val (.int (1 : Int32))] [(.int (10 : Int32)), (.ref b_2)])) t
        refine XS.aload X_174.here hx rfl (hb hby at_265) rfl rfl ?_
        show Steps p.tables e below (T_174.setTop (mkF m 267 #[.val (.long q1), .second, .val (.int p2), .val (.int p3), .val (.int p4), .val (.int (1 : Int32)), .val (.int (2 : Int32)), .val (.ref b_1), .val (.ref b_2), .val (.ref b_10), .val (.ref b_13), .val (.ref b_16), .val (.ref b_20), .val (.ref b_2), .val (.ref b_16), .val (.ref r_165), .val (.int (1 : Int32))] [(.ref b_2), (.int (10 : Int32)), (.ref b_2)])) t
        refine XS.aload X_174.here hx rfl (hb hby at_267) rfl rfl ?_
        exact kt
      have vq_177 := f_175
      obtain ⟨c_177, a_177, -, s_177, m_177, -, -⟩ := vq_177
      refine own_go (T' := T_174) (g' := (mkF m 270 #[.val (.long q1), .second, .val (.int p2), .val (.int p3), .val (.int p4), .val (.int (1 : Int32)), .val (.int (2 : Int32)), .val (.ref b_1), .val (.ref b_2), .val (.ref b_10), .val (.ref b_13), .val (.ref b_16), .val (.ref b_20), .val (.ref b_2), .val (.ref b_16), .val (.ref r_165), .val (.int (1 : Int32))] [(.int (11 : Int32)), (.ref b_2), (.int (10 : Int32)), (.ref b_2)])) (fun t kt => ?_) ?_
      · refine X_174.arraylength hx (by rw [e_174]; exact a_177.1) (State.isArrayOf_alike hZ.alike a_177.2.1) (g := (mkF m 269 #[.val (.long q1), .second, .val (.int p2), .val (.int p3), .val (.int p4), .val (.int (1 : Int32)), .val (.int (2 : Int32)), .val (.ref b_1), .val (.ref b_2), .val (.ref b_10), .val (.ref b_13), .val (.ref b_16), .val (.ref b_20), .val (.ref b_2), .val (.ref b_16), .val (.ref r_165), .val (.int (1 : Int32))] [(.ref b_2), (.ref b_2), (.int (10 : Int32)), (.ref b_2)])) rfl rfl (hb hby at_269) _ ?_
        rw [len_of s_177 m_177]
        exact kt
      refine own_go (T' := T_174) (g' := (mkF m 272 #[.val (.long q1), .second, .val (.int p2), .val (.int p3), .val (.int p4), .val (.int (1 : Int32)), .val (.int (2 : Int32)), .val (.ref b_1), .val (.ref b_2), .val (.ref b_10), .val (.ref b_13), .val (.ref b_16), .val (.ref b_20), .val (.ref b_2), .val (.ref b_16), .val (.ref r_165), .val (.int (1 : Int32))] [(.int (10 : Int32)), (.ref b_2), (.int (10 : Int32)), (.ref b_2)])) (fun t kt => ?_) ?_
      · show Steps p.tables e below (T_174.setTop (mkF m 270 #[.val (.long q1), .second, .val (.int p2), .val (.int p3), .val (.int p4), .val (.int (1 : Int32)), .val (.int (2 : Int32)), .val (.ref b_1), .val (.ref b_2), .val (.ref b_10), .val (.ref b_13), .val (.ref b_16), .val (.ref b_20), .val (.ref b_2), .val (.ref b_16), .val (.ref r_165), .val (.int (1 : Int32))] [(.int (11 : Int32)), (.ref b_2), (.int (10 : Int32)), (.ref b_2)])) t
        refine XS.iconst X_174.here hx rfl (hb hby at_270) ?_
        show Steps p.tables e below (T_174.setTop (mkF m 271 #[.val (.long q1), .second, .val (.int p2), .val (.int p3), .val (.int p4), .val (.int (1 : Int32)), .val (.int (2 : Int32)), .val (.ref b_1), .val (.ref b_2), .val (.ref b_10), .val (.ref b_13), .val (.ref b_16), .val (.ref b_20), .val (.ref b_2), .val (.ref b_16), .val (.ref r_165), .val (.int (1 : Int32))] [(.int (1 : Int32)), (.int (11 : Int32)), (.ref b_2), (.int (10 : Int32)), (.ref b_2)])) t
        refine XS.isub X_174.here hx rfl (hb hby at_271) rfl ?_
        exact kt
      have vq_178 := f_175
      obtain ⟨c_178, a_178, q_178, s_178, m_178, H_178, G_178⟩ := vq_178
      have hin_178 : ¬ ((10 : Int32) < 0 ∨ c_178.slots.size ≤ ((10 : Int32)).toNatClampNeg) := inb_of s_178 ⟨by decide, by decide⟩
      have hat_178 : c_178.slots[((10 : Int32)).toNatClampNeg]? = some (.int (own_b0 q1)) := H_178.at hin_178 rfl
      refine own_go (T' := T_174) (g' := (mkF m 273 #[.val (.long q1), .second, .val (.int p2), .val (.int p3), .val (.int p4), .val (.int (1 : Int32)), .val (.int (2 : Int32)), .val (.ref b_1), .val (.ref b_2), .val (.ref b_10), .val (.ref b_13), .val (.ref b_16), .val (.ref b_20), .val (.ref b_2), .val (.ref b_16), .val (.ref r_165), .val (.int (1 : Int32))] [(.int (own_b0 q1)), (.int (10 : Int32)), (.ref b_2)])) (fun t kt => ?_) ?_
      · refine X_174.baloadBytes hx (j := (10 : Int32)) (v := (.int (own_b0 q1))) (by rw [e_174]; exact a_178.1) (State.isArrayOf_alike hZ.alike a_178.2.1) a_178.2.2 hin_178 hat_178 (g := (mkF m 272 #[.val (.long q1), .second, .val (.int p2), .val (.int p3), .val (.int p4), .val (.int (1 : Int32)), .val (.int (2 : Int32)), .val (.ref b_1), .val (.ref b_2), .val (.ref b_10), .val (.ref b_13), .val (.ref b_16), .val (.ref b_20), .val (.ref b_2), .val (.ref b_16), .val (.ref r_165), .val (.int (1 : Int32))] [(.int (10 : Int32)), (.ref b_2), (.int (10 : Int32)), (.ref b_2)])) rfl rfl (hb hby at_272) _ ?_
        exact kt
      refine own_go (T' := T_174) (g' := (mkF m 276 #[.val (.long q1), .second, .val (.int p2), .val (.int p3), .val (.int p4), .val (.int (1 : Int32)), .val (.int (2 : Int32)), .val (.ref b_1), .val (.ref b_2), .val (.ref b_10), .val (.ref b_13), .val (.ref b_16), .val (.ref b_20), .val (.ref b_2), .val (.ref b_16), .val (.ref r_165), .val (.int (1 : Int32))] [(.int (((own_b0 q1) ^^^ (1 : Int32)).toInt8.toInt32)), (.int (10 : Int32)), (.ref b_2)])) (fun t kt => ?_) ?_
      · show Steps p.tables e below (T_174.setTop (mkF m 273 #[.val (.long q1), .second, .val (.int p2), .val (.int p3), .val (.int p4), .val (.int (1 : Int32)), .val (.int (2 : Int32)), .val (.ref b_1), .val (.ref b_2), .val (.ref b_10), .val (.ref b_13), .val (.ref b_16), .val (.ref b_20), .val (.ref b_2), .val (.ref b_16), .val (.ref r_165), .val (.int (1 : Int32))] [(.int (own_b0 q1)), (.int (10 : Int32)), (.ref b_2)])) t
        refine XS.iconst X_174.here hx rfl (hb hby at_273) ?_
        show Steps p.tables e below (T_174.setTop (mkF m 274 #[.val (.long q1), .second, .val (.int p2), .val (.int p3), .val (.int p4), .val (.int (1 : Int32)), .val (.int (2 : Int32)), .val (.ref b_1), .val (.ref b_2), .val (.ref b_10), .val (.ref b_13), .val (.ref b_16), .val (.ref b_20), .val (.ref b_2), .val (.ref b_16), .val (.ref r_165), .val (.int (1 : Int32))] [(.int (1 : Int32)), (.int (own_b0 q1)), (.int (10 : Int32)), (.ref b_2)])) t
        refine XS.ixor X_174.here hx rfl (hb hby at_274) rfl ?_
        show Steps p.tables e below (T_174.setTop (mkF m 275 #[.val (.long q1), .second, .val (.int p2), .val (.int p3), .val (.int p4), .val (.int (1 : Int32)), .val (.int (2 : Int32)), .val (.ref b_1), .val (.ref b_2), .val (.ref b_10), .val (.ref b_13), .val (.ref b_16), .val (.ref b_20), .val (.ref b_2), .val (.ref b_16), .val (.ref r_165), .val (.int (1 : Int32))] [(.int ((own_b0 q1) ^^^ (1 : Int32))), (.int (10 : Int32)), (.ref b_2)])) t
        refine XS.i2b X_174.here hx rfl (hb hby at_275) rfl ?_
        exact kt
      have vq_179 := f_175
      obtain ⟨c_179, a_179, q_179, s_179, m_179, H_179, G_179⟩ := vq_179
      have hin_179 : ¬ ((10 : Int32) < 0 ∨ c_179.slots.size ≤ ((10 : Int32)).toNatClampNeg) := inb_of s_179 ⟨by decide, by decide⟩
      obtain ⟨T_179, h_179, X_179, e_179, W_179, st_179⟩ := stB X_174 hx hZ e_174 a_179 (j := (10 : Int32)) hin_179 (g := (mkF m 276 #[.val (.long q1), .second, .val (.int p2), .val (.int p3), .val (.int p4), .val (.int (1 : Int32)), .val (.int (2 : Int32)), .val (.ref b_1), .val (.ref b_2), .val (.ref b_10), .val (.ref b_13), .val (.ref b_16), .val (.ref b_20), .val (.ref b_2), .val (.ref b_16), .val (.ref r_165), .val (.int (1 : Int32))] [(.int (((own_b0 q1) ^^^ (1 : Int32)).toInt8.toInt32)), (.int (10 : Int32)), (.ref b_2)])) rfl rfl (hb hby at_276)
      have V_179 : Arv Z h_179 b_2 k_2 .byte (11 : Int32) [(.int (nar .byte (p2.toInt8.toInt32))), (.int (nar .byte (((p2.toUInt32 >>> ((8 : Int32) &&& 31).toUInt32).toInt32).toInt8.toInt32))), (.int (nar .byte (((p2.toUInt32 >>> ((16 : Int32) &&& 31).toUInt32).toInt32).toInt8.toInt32))), (.int (own_by q1 56)), (.int (own_by q1 48)), (.int (own_by q1 40)), (.int (own_by q1 32)), (.int (own_by q1 24)), (.int (own_by q1 16)), (.int (own_by q1 8)), (.int (nar .byte (((own_b0 q1) ^^^ (1 : Int32)).toInt8.toInt32)))] (.int (0 : Int32)) := Arv.set a_179 q_179 s_179 m_179 H_179 G_179 (fits_nar_byte _) W_179 10 rfl (Nat.le_of_ble_eq_true rfl)
      have Z_179 : n0 ≤ h_179.size := Nat.le_trans Z_165 (Keep.of_wr W_179).1
      have N_179 := Fr.snoc X_179 N_174 g_b_2
      refine own_go (g' := (mkF m 277 #[.val (.long q1), .second, .val (.int p2), .val (.int p3), .val (.int p4), .val (.int (1 : Int32)), .val (.int (2 : Int32)), .val (.ref b_1), .val (.ref b_2), .val (.ref b_10), .val (.ref b_13), .val (.ref b_16), .val (.ref b_20), .val (.ref b_2), .val (.ref b_16), .val (.ref r_165), .val (.int (1 : Int32))] [])) st_179 ?_
      refine own_go (T' := T_179) (g' := (mkF m 288 #[.val (.long q1), .second, .val (.int p2), .val (.int p3), .val (.int p4), .val (.int (1 : Int32)), .val (.int (2 : Int32)), .val (.ref b_1), .val (.ref b_2), .val (.ref b_10), .val (.ref b_13), .val (.ref b_16), .val (.ref b_20), .val (.ref b_2), .val (.ref b_16), .val (.ref r_165), .val (.int (1 : Int32))] [(.int (0 : Int32)), (.ref b_16), (.int (0 : Int32)), (.ref b_16)])) (fun t kt => ?_) ?_
      · show Steps p.tables e below (T_179.setTop (mkF m 277 #[.val (.long q1), .second, .val (.int p2), .val (.int p3), .val (.int p4), .val (.int (1 : Int32)), .val (.int (2 : Int32)), .val (.ref b_1), .val (.ref b_2), .val (.ref b_10), .val (.ref b_13), .val (.ref b_16), .val (.ref b_20), .val (.ref b_2), .val (.ref b_16), .val (.ref r_165), .val (.int (1 : Int32))] [])) t
        refine XS.iload X_179.here hx rfl (hb hby at_277) rfl ?_
        show Steps p.tables e below (T_179.setTop (mkF m 279 #[.val (.long q1), .second, .val (.int p2), .val (.int p3), .val (.int p4), .val (.int (1 : Int32)), .val (.int (2 : Int32)), .val (.ref b_1), .val (.ref b_2), .val (.ref b_10), .val (.ref b_13), .val (.ref b_16), .val (.ref b_20), .val (.ref b_2), .val (.ref b_16), .val (.ref r_165), .val (.int (1 : Int32))] [(.int (2 : Int32))])) t
        refine XS.ifNo X_179.here hx rfl (hb hby at_279) rfl ((if0 _ _).trans (tlt (by decide : (0 : Int32) < (2 : Int32))).2.2.2) ?_
        show Steps p.tables e below (T_179.setTop (mkF m 282 #[.val (.long q1), .second, .val (.int p2), .val (.int p3), .val (.int p4), .val (.int (1 : Int32)), .val (.int (2 : Int32)), .val (.ref b_1), .val (.ref b_2), .val (.ref b_10), .val (.ref b_13), .val (.ref b_16), .val (.ref b_20), .val (.ref b_2), .val (.ref b_16), .val (.ref r_165), .val (.int (1 : Int32))] [])) t
        refine XS.aload X_179.here hx rfl (hb hby at_282) rfl rfl ?_
        show Steps p.tables e below (T_179.setTop (mkF m 284 #[.val (.long q1), .second, .val (.int p2), .val (.int p3), .val (.int p4), .val (.int (1 : Int32)), .val (.int (2 : Int32)), .val (.ref b_1), .val (.ref b_2), .val (.ref b_10), .val (.ref b_13), .val (.ref b_16), .val (.ref b_20), .val (.ref b_2), .val (.ref b_16), .val (.ref r_165), .val (.int (1 : Int32))] [(.ref b_16)])) t
        refine XS.iconst X_179.here hx rfl (hb hby at_284) ?_
        show Steps p.tables e below (T_179.setTop (mkF m 285 #[.val (.long q1), .second, .val (.int p2), .val (.int p3), .val (.int p4), .val (.int (1 : Int32)), .val (.int (2 : Int32)), .val (.ref b_1), .val (.ref b_2), .val (.ref b_10), .val (.ref b_13), .val (.ref b_16), .val (.ref b_20), .val (.ref b_2), .val (.ref b_16), .val (.ref r_165), .val (.int (1 : Int32))] [(.int (0 : Int32)), (.ref b_16)])) t
        refine XS.aload X_179.here hx rfl (hb hby at_285) rfl rfl ?_
        show Steps p.tables e below (T_179.setTop (mkF m 287 #[.val (.long q1), .second, .val (.int p2), .val (.int p3), .val (.int p4), .val (.int (1 : Int32)), .val (.int (2 : Int32)), .val (.ref b_1), .val (.ref b_2), .val (.ref b_10), .val (.ref b_13), .val (.ref b_16), .val (.ref b_20), .val (.ref b_2), .val (.ref b_16), .val (.ref r_165), .val (.int (1 : Int32))] [(.ref b_16), (.int (0 : Int32)), (.ref b_16)])) t
        refine XS.iconst X_179.here hx rfl (hb hby at_287) ?_
        exact kt
      have f_181 := ((f_164.keep K_165 nin0).other W_179 (Ne.symm ne_b_2_b_16))
      have vq_180 := f_181
      obtain ⟨c_180, a_180, q_180, s_180, m_180, H_180, G_180⟩ := vq_180
      have hin_180 : ¬ ((0 : Int32) < 0 ∨ c_180.slots.size ≤ ((0 : Int32)).toNatClampNeg) := inb_of s_180 ⟨by decide, by decide⟩
      have hat_180 : c_180.slots[((0 : Int32)).toNatClampNeg]? = some (.int (nar .byte (p3.toInt8.toInt32))) := H_180.at hin_180 rfl
      refine own_go (T' := T_179) (g' := (mkF m 289 #[.val (.long q1), .second, .val (.int p2), .val (.int p3), .val (.int p4), .val (.int (1 : Int32)), .val (.int (2 : Int32)), .val (.ref b_1), .val (.ref b_2), .val (.ref b_10), .val (.ref b_13), .val (.ref b_16), .val (.ref b_20), .val (.ref b_2), .val (.ref b_16), .val (.ref r_165), .val (.int (1 : Int32))] [(.int (nar .byte (p3.toInt8.toInt32))), (.int (0 : Int32)), (.ref b_16)])) (fun t kt => ?_) ?_
      · refine X_179.baloadBytes hx (j := (0 : Int32)) (v := (.int (nar .byte (p3.toInt8.toInt32)))) (by rw [e_179]; exact a_180.1) (State.isArrayOf_alike hZ.alike a_180.2.1) a_180.2.2 hin_180 hat_180 (g := (mkF m 288 #[.val (.long q1), .second, .val (.int p2), .val (.int p3), .val (.int p4), .val (.int (1 : Int32)), .val (.int (2 : Int32)), .val (.ref b_1), .val (.ref b_2), .val (.ref b_10), .val (.ref b_13), .val (.ref b_16), .val (.ref b_20), .val (.ref b_2), .val (.ref b_16), .val (.ref r_165), .val (.int (1 : Int32))] [(.int (0 : Int32)), (.ref b_16), (.int (0 : Int32)), (.ref b_16)])) rfl rfl (hb hby at_288) _ ?_
        exact kt
      refine own_go (T' := T_179) (g' := (mkF m 292 #[.val (.long q1), .second, .val (.int p2), .val (.int p3), .val (.int p4), .val (.int (1 : Int32)), .val (.int (2 : Int32)), .val (.ref b_1), .val (.ref b_2), .val (.ref b_10), .val (.ref b_13), .val (.ref b_16), .val (.ref b_20), .val (.ref b_2), .val (.ref b_16), .val (.ref r_165), .val (.int (1 : Int32))] [(.int (((nar .byte (p3.toInt8.toInt32)) ^^^ (1 : Int32)).toInt8.toInt32)), (.int (0 : Int32)), (.ref b_16)])) (fun t kt => ?_) ?_
      · show Steps p.tables e below (T_179.setTop (mkF m 289 #[.val (.long q1), .second, .val (.int p2), .val (.int p3), .val (.int p4), .val (.int (1 : Int32)), .val (.int (2 : Int32)), .val (.ref b_1), .val (.ref b_2), .val (.ref b_10), .val (.ref b_13), .val (.ref b_16), .val (.ref b_20), .val (.ref b_2), .val (.ref b_16), .val (.ref r_165), .val (.int (1 : Int32))] [(.int (nar .byte (p3.toInt8.toInt32))), (.int (0 : Int32)), (.ref b_16)])) t
        refine XS.iconst X_179.here hx rfl (hb hby at_289) ?_
        show Steps p.tables e below (T_179.setTop (mkF m 290 #[.val (.long q1), .second, .val (.int p2), .val (.int p3), .val (.int p4), .val (.int (1 : Int32)), .val (.int (2 : Int32)), .val (.ref b_1), .val (.ref b_2), .val (.ref b_10), .val (.ref b_13), .val (.ref b_16), .val (.ref b_20), .val (.ref b_2), .val (.ref b_16), .val (.ref r_165), .val (.int (1 : Int32))] [(.int (1 : Int32)), (.int (nar .byte (p3.toInt8.toInt32))), (.int (0 : Int32)), (.ref b_16)])) t
        refine XS.ixor X_179.here hx rfl (hb hby at_290) rfl ?_
        show Steps p.tables e below (T_179.setTop (mkF m 291 #[.val (.long q1), .second, .val (.int p2), .val (.int p3), .val (.int p4), .val (.int (1 : Int32)), .val (.int (2 : Int32)), .val (.ref b_1), .val (.ref b_2), .val (.ref b_10), .val (.ref b_13), .val (.ref b_16), .val (.ref b_20), .val (.ref b_2), .val (.ref b_16), .val (.ref r_165), .val (.int (1 : Int32))] [(.int ((nar .byte (p3.toInt8.toInt32)) ^^^ (1 : Int32))), (.int (0 : Int32)), (.ref b_16)])) t
        refine XS.i2b X_179.here hx rfl (hb hby at_291) rfl ?_
        exact kt
      have vq_182 := f_181
      obtain ⟨c_182, a_182, q_182, s_182, m_182, H_182, G_182⟩ := vq_182
      have hin_182 : ¬ ((0 : Int32) < 0 ∨ c_182.slots.size ≤ ((0 : Int32)).toNatClampNeg) := inb_of s_182 ⟨by decide, by decide⟩
      obtain ⟨T_182, h_182, X_182, e_182, W_182, st_182⟩ := stB X_179 hx hZ e_179 a_182 (j := (0 : Int32)) hin_182 (g := (mkF m 292 #[.val (.long q1), .second, .val (.int p2), .val (.int p3), .val (.int p4), .val (.int (1 : Int32)), .val (.int (2 : Int32)), .val (.ref b_1), .val (.ref b_2), .val (.ref b_10), .val (.ref b_13), .val (.ref b_16), .val (.ref b_20), .val (.ref b_2), .val (.ref b_16), .val (.ref r_165), .val (.int (1 : Int32))] [(.int (((nar .byte (p3.toInt8.toInt32)) ^^^ (1 : Int32)).toInt8.toInt32)), (.int (0 : Int32)), (.ref b_16)])) rfl rfl (hb hby at_292)
      have V_182 : Arv Z h_182 b_16 k_16 .byte (2 : Int32) [(.int (nar .byte (((nar .byte (p3.toInt8.toInt32)) ^^^ (1 : Int32)).toInt8.toInt32))), (.int (nar .byte (((p3.toUInt32 >>> ((8 : Int32) &&& 31).toUInt32).toInt32).toInt8.toInt32)))] (.int (0 : Int32)) := Arv.set a_182 q_182 s_182 m_182 H_182 G_182 (fits_nar_byte _) W_182 0 rfl (Nat.le_of_ble_eq_true rfl)
      have Z_182 : n0 ≤ h_182.size := Nat.le_trans Z_179 (Keep.of_wr W_182).1
      have N_182 := Fr.snoc X_182 N_179 g_b_16
      refine own_go (g' := (mkF m 293 #[.val (.long q1), .second, .val (.int p2), .val (.int p3), .val (.int p4), .val (.int (1 : Int32)), .val (.int (2 : Int32)), .val (.ref b_1), .val (.ref b_2), .val (.ref b_10), .val (.ref b_13), .val (.ref b_16), .val (.ref b_20), .val (.ref b_2), .val (.ref b_16), .val (.ref r_165), .val (.int (1 : Int32))] [])) st_182 ?_
      refine own_go (T' := T_182) (g' := (mkF m 297 #[.val (.long q1), .second, .val (.int p2), .val (.int p3), .val (.int p4), .val (.int (1 : Int32)), .val (.int (2 : Int32)), .val (.ref b_1), .val (.ref b_2), .val (.ref b_10), .val (.ref b_13), .val (.ref b_16), .val (.ref b_20), .val (.ref b_2), .val (.ref b_16), .val (.ref r_165), .val (.int (1 : Int32))] [(.int (7 : Int32)), (.ref r_165)])) (fun t kt => ?_) ?_
      · show Steps p.tables e below (T_182.setTop (mkF m 293 #[.val (.long q1), .second, .val (.int p2), .val (.int p3), .val (.int p4), .val (.int (1 : Int32)), .val (.int (2 : Int32)), .val (.ref b_1), .val (.ref b_2), .val (.ref b_10), .val (.ref b_13), .val (.ref b_16), .val (.ref b_20), .val (.ref b_2), .val (.ref b_16), .val (.ref r_165), .val (.int (1 : Int32))] [])) t
        refine XS.aload X_182.here hx rfl (hb hby at_293) rfl rfl ?_
        show Steps p.tables e below (T_182.setTop (mkF m 295 #[.val (.long q1), .second, .val (.int p2), .val (.int p3), .val (.int p4), .val (.int (1 : Int32)), .val (.int (2 : Int32)), .val (.ref b_1), .val (.ref b_2), .val (.ref b_10), .val (.ref b_13), .val (.ref b_16), .val (.ref b_20), .val (.ref b_2), .val (.ref b_16), .val (.ref r_165), .val (.int (1 : Int32))] [(.ref r_165)])) t
        refine XS.bipush X_182.here hx rfl (hb hby at_295) ?_
        exact kt
      have f_184 := ((V_165.other W_179 (Ne.symm ne_b_2_r_165)).other W_182 (Ne.symm ne_b_16_r_165))
      have vq_183 := f_184
      obtain ⟨c_183, a_183, q_183, s_183, m_183, H_183, G_183⟩ := vq_183
      have hin_183 : ¬ ((7 : Int32) < 0 ∨ c_183.slots.size ≤ ((7 : Int32)).toNatClampNeg) := inb_of s_183 ⟨by decide, by decide⟩
      have hat_183 : c_183.slots[((7 : Int32)).toNatClampNeg]? = some (.int (own_b0 q1)) := H_183.at hin_183 rfl
      refine own_go (T' := T_182) (g' := (mkF m 298 #[.val (.long q1), .second, .val (.int p2), .val (.int p3), .val (.int p4), .val (.int (1 : Int32)), .val (.int (2 : Int32)), .val (.ref b_1), .val (.ref b_2), .val (.ref b_10), .val (.ref b_13), .val (.ref b_16), .val (.ref b_20), .val (.ref b_2), .val (.ref b_16), .val (.ref r_165), .val (.int (1 : Int32))] [(.int (own_b0 q1))])) (fun t kt => ?_) ?_
      · refine X_182.baloadBytes hx (j := (7 : Int32)) (v := (.int (own_b0 q1))) (by rw [e_182]; exact a_183.1) (State.isArrayOf_alike hZ.alike a_183.2.1) a_183.2.2 hin_183 hat_183 (g := (mkF m 297 #[.val (.long q1), .second, .val (.int p2), .val (.int p3), .val (.int p4), .val (.int (1 : Int32)), .val (.int (2 : Int32)), .val (.ref b_1), .val (.ref b_2), .val (.ref b_10), .val (.ref b_13), .val (.ref b_16), .val (.ref b_20), .val (.ref b_2), .val (.ref b_16), .val (.ref r_165), .val (.int (1 : Int32))] [(.int (7 : Int32)), (.ref r_165)])) rfl rfl (hb hby at_297) _ ?_
        exact kt
      refine own_go (T' := T_182) (g' := (mkF m 313 #[.val (.long q1), .second, .val (.int p2), .val (.int p3), .val (.int p4), .val (.int (1 : Int32)), .val (.int (2 : Int32)), .val (.ref b_1), .val (.ref b_2), .val (.ref b_10), .val (.ref b_13), .val (.ref b_16), .val (.ref b_20), .val (.ref b_2), .val (.ref b_16), .val (.ref r_165), .val (.int (1 : Int32))] [(.int (8 : Int32)), (.ref r_165)])) (fun t kt => ?_) ?_
      · show Steps p.tables e below (T_182.setTop (mkF m 298 #[.val (.long q1), .second, .val (.int p2), .val (.int p3), .val (.int p4), .val (.int (1 : Int32)), .val (.int (2 : Int32)), .val (.ref b_1), .val (.ref b_2), .val (.ref b_10), .val (.ref b_13), .val (.ref b_16), .val (.ref b_20), .val (.ref b_2), .val (.ref b_16), .val (.ref r_165), .val (.int (1 : Int32))] [(.int (own_b0 q1))])) t
        refine XS.lloadN X_182.here hx rfl (hb hby at_298) rfl ?_
        show Steps p.tables e below (T_182.setTop (mkF m 299 #[.val (.long q1), .second, .val (.int p2), .val (.int p3), .val (.int p4), .val (.int (1 : Int32)), .val (.int (2 : Int32)), .val (.ref b_1), .val (.ref b_2), .val (.ref b_10), .val (.ref b_13), .val (.ref b_16), .val (.ref b_20), .val (.ref b_2), .val (.ref b_16), .val (.ref r_165), .val (.int (1 : Int32))] [(.long q1), (.int (own_b0 q1))])) t
        refine XS.l2i X_182.here hx rfl (hb hby at_299) rfl ?_
        show Steps p.tables e below (T_182.setTop (mkF m 300 #[.val (.long q1), .second, .val (.int p2), .val (.int p3), .val (.int p4), .val (.int (1 : Int32)), .val (.int (2 : Int32)), .val (.ref b_1), .val (.ref b_2), .val (.ref b_10), .val (.ref b_13), .val (.ref b_16), .val (.ref b_20), .val (.ref b_2), .val (.ref b_16), .val (.ref r_165), .val (.int (1 : Int32))] [(.int (q1.toInt32)), (.int (own_b0 q1))])) t
        refine XS.i2b X_182.here hx rfl (hb hby at_300) rfl ?_
        show Steps p.tables e below (T_182.setTop (mkF m 301 #[.val (.long q1), .second, .val (.int p2), .val (.int p3), .val (.int p4), .val (.int (1 : Int32)), .val (.int (2 : Int32)), .val (.ref b_1), .val (.ref b_2), .val (.ref b_10), .val (.ref b_13), .val (.ref b_16), .val (.ref b_20), .val (.ref b_2), .val (.ref b_16), .val (.ref r_165), .val (.int (1 : Int32))] [(.int ((q1.toInt32).toInt8.toInt32)), (.int (own_b0 q1))])) t
        refine XS.icmpNo X_182.here hx rfl (hb hby at_301) rfl (teq (own_b0_eq q1 : (own_b0 q1) = ((q1.toInt32).toInt8.toInt32))).2 ?_
        show Steps p.tables e below (T_182.setTop (mkF m 304 #[.val (.long q1), .second, .val (.int p2), .val (.int p3), .val (.int p4), .val (.int (1 : Int32)), .val (.int (2 : Int32)), .val (.ref b_1), .val (.ref b_2), .val (.ref b_10), .val (.ref b_13), .val (.ref b_16), .val (.ref b_20), .val (.ref b_2), .val (.ref b_16), .val (.ref r_165), .val (.int (1 : Int32))] [])) t
        refine XS.iload X_182.here hx rfl (hb hby at_304) rfl ?_
        show Steps p.tables e below (T_182.setTop (mkF m 306 #[.val (.long q1), .second, .val (.int p2), .val (.int p3), .val (.int p4), .val (.int (1 : Int32)), .val (.int (2 : Int32)), .val (.ref b_1), .val (.ref b_2), .val (.ref b_10), .val (.ref b_13), .val (.ref b_16), .val (.ref b_20), .val (.ref b_2), .val (.ref b_16), .val (.ref r_165), .val (.int (1 : Int32))] [(.int (2 : Int32))])) t
        refine XS.ifNo X_182.here hx rfl (hb hby at_306) rfl ((if0 _ _).trans (feq (by decide : ¬ ((2 : Int32) = (0 : Int32)))).1) ?_
        show Steps p.tables e below (T_182.setTop (mkF m 309 #[.val (.long q1), .second, .val (.int p2), .val (.int p3), .val (.int p4), .val (.int (1 : Int32)), .val (.int (2 : Int32)), .val (.ref b_1), .val (.ref b_2), .val (.ref b_10), .val (.ref b_13), .val (.ref b_16), .val (.ref b_20), .val (.ref b_2), .val (.ref b_16), .val (.ref r_165), .val (.int (1 : Int32))] [])) t
        refine XS.aload X_182.here hx rfl (hb hby at_309) rfl rfl ?_
        show Steps p.tables e below (T_182.setTop (mkF m 311 #[.val (.long q1), .second, .val (.int p2), .val (.int p3), .val (.int p4), .val (.int (1 : Int32)), .val (.int (2 : Int32)), .val (.ref b_1), .val (.ref b_2), .val (.ref b_10), .val (.ref b_13), .val (.ref b_16), .val (.ref b_20), .val (.ref b_2), .val (.ref b_16), .val (.ref r_165), .val (.int (1 : Int32))] [(.ref r_165)])) t
        refine XS.bipush X_182.here hx rfl (hb hby at_311) ?_
        exact kt
      have vq_185 := f_184
      obtain ⟨c_185, a_185, q_185, s_185, m_185, H_185, G_185⟩ := vq_185
      have hin_185 : ¬ ((8 : Int32) < 0 ∨ c_185.slots.size ≤ ((8 : Int32)).toNatClampNeg) := inb_of s_185 ⟨by decide, by decide⟩
      have hat_185 : c_185.slots[((8 : Int32)).toNatClampNeg]? = some (.int (nar .byte (p3.toInt8.toInt32))) := H_185.at hin_185 rfl
      refine own_go (T' := T_182) (g' := (mkF m 314 #[.val (.long q1), .second, .val (.int p2), .val (.int p3), .val (.int p4), .val (.int (1 : Int32)), .val (.int (2 : Int32)), .val (.ref b_1), .val (.ref b_2), .val (.ref b_10), .val (.ref b_13), .val (.ref b_16), .val (.ref b_20), .val (.ref b_2), .val (.ref b_16), .val (.ref r_165), .val (.int (1 : Int32))] [(.int (nar .byte (p3.toInt8.toInt32)))])) (fun t kt => ?_) ?_
      · refine X_182.baloadBytes hx (j := (8 : Int32)) (v := (.int (nar .byte (p3.toInt8.toInt32)))) (by rw [e_182]; exact a_185.1) (State.isArrayOf_alike hZ.alike a_185.2.1) a_185.2.2 hin_185 hat_185 (g := (mkF m 313 #[.val (.long q1), .second, .val (.int p2), .val (.int p3), .val (.int p4), .val (.int (1 : Int32)), .val (.int (2 : Int32)), .val (.ref b_1), .val (.ref b_2), .val (.ref b_10), .val (.ref b_13), .val (.ref b_16), .val (.ref b_20), .val (.ref b_2), .val (.ref b_16), .val (.ref r_165), .val (.int (1 : Int32))] [(.int (8 : Int32)), (.ref r_165)])) rfl rfl (hb hby at_313) _ ?_
        exact kt
      refine own_go (T' := T_182) (g' := (mkF m 324 #[.val (.long q1), .second, .val (.int p2), .val (.int p3), .val (.int p4), .val (.int (1 : Int32)), .val (.int (2 : Int32)), .val (.ref b_1), .val (.ref b_2), .val (.ref b_10), .val (.ref b_13), .val (.ref b_16), .val (.ref b_20), .val (.ref b_2), .val (.ref b_16), .val (.ref r_165), .val (.int (1 : Int32))] [(.int (1 : Int32))])) (fun t kt => ?_) ?_
      · show Steps p.tables e below (T_182.setTop (mkF m 314 #[.val (.long q1), .second, .val (.int p2), .val (.int p3), .val (.int p4), .val (.int (1 : Int32)), .val (.int (2 : Int32)), .val (.ref b_1), .val (.ref b_2), .val (.ref b_10), .val (.ref b_13), .val (.ref b_16), .val (.ref b_20), .val (.ref b_2), .val (.ref b_16), .val (.ref r_165), .val (.int (1 : Int32))] [(.int (nar .byte (p3.toInt8.toInt32)))])) t
        refine XS.iloadN X_182.here hx rfl (hb hby at_314) rfl ?_
        show Steps p.tables e below (T_182.setTop (mkF m 315 #[.val (.long q1), .second, .val (.int p2), .val (.int p3), .val (.int p4), .val (.int (1 : Int32)), .val (.int (2 : Int32)), .val (.ref b_1), .val (.ref b_2), .val (.ref b_10), .val (.ref b_13), .val (.ref b_16), .val (.ref b_20), .val (.ref b_2), .val (.ref b_16), .val (.ref r_165), .val (.int (1 : Int32))] [(.int p3), (.int (nar .byte (p3.toInt8.toInt32)))])) t
        refine XS.i2b X_182.here hx rfl (hb hby at_315) rfl ?_
        show Steps p.tables e below (T_182.setTop (mkF m 316 #[.val (.long q1), .second, .val (.int p2), .val (.int p3), .val (.int p4), .val (.int (1 : Int32)), .val (.int (2 : Int32)), .val (.ref b_1), .val (.ref b_2), .val (.ref b_10), .val (.ref b_13), .val (.ref b_16), .val (.ref b_20), .val (.ref b_2), .val (.ref b_16), .val (.ref r_165), .val (.int (1 : Int32))] [(.int (p3.toInt8.toInt32)), (.int (nar .byte (p3.toInt8.toInt32)))])) t
        refine XS.icmpNo X_182.here hx rfl (hb hby at_316) rfl (teq (own_nar _ : (nar .byte (p3.toInt8.toInt32)) = (p3.toInt8.toInt32))).2 ?_
        show Steps p.tables e below (T_182.setTop (mkF m 319 #[.val (.long q1), .second, .val (.int p2), .val (.int p3), .val (.int p4), .val (.int (1 : Int32)), .val (.int (2 : Int32)), .val (.ref b_1), .val (.ref b_2), .val (.ref b_10), .val (.ref b_13), .val (.ref b_16), .val (.ref b_20), .val (.ref b_2), .val (.ref b_16), .val (.ref r_165), .val (.int (1 : Int32))] [])) t
        refine XS.iconst X_182.here hx rfl (hb hby at_319) ?_
        show Steps p.tables e below (T_182.setTop (mkF m 320 #[.val (.long q1), .second, .val (.int p2), .val (.int p3), .val (.int p4), .val (.int (1 : Int32)), .val (.int (2 : Int32)), .val (.ref b_1), .val (.ref b_2), .val (.ref b_10), .val (.ref b_13), .val (.ref b_16), .val (.ref b_20), .val (.ref b_2), .val (.ref b_16), .val (.ref r_165), .val (.int (1 : Int32))] [(.int (1 : Int32))])) t
        refine XS.goto X_182.here hx rfl (pc0 := 320) (pc' := 324) rfl (hb hby at_320) (by decide) (by decide) ?_
        exact kt
      obtain ⟨fs, hr, hrun, hended, hW, hsame⟩ := X_182.leave (v := some (.int (1 : Int32))) (fun h => by rw [Bd.returns] at h; cases h)
      refine ⟨_, _, ?_, hrun, hended, _, _, rfl, ?_, ⟨_, rfl⟩, hW, hsame.mono (by decide) (by decide)⟩
      · exact retN X_182 hx (t := .boolean) Bd.returns (by simp) (hb hby at_324) hr
      · show Q_rm0 Z _ _ _ _ h0 n0 _ T_182.heap _
        rw [e_182]
        exact ⟨rfl, N_182⟩
    · refine own_go (T' := T_33) (g' := (mkF m 189 #[.val (.long q1), .second, .val (.int p2), .val (.int p3), .val (.int p4), .val (.int (1 : Int32)), .val (.int (3 : Int32)), .val (.ref b_1), .val (.ref b_2), .val (.ref b_10), .val (.ref b_13), .val (.ref b_16), .val (.ref b_20), .val (.ref b_2), .val (.ref b_20), .unset, .unset] [(.ref b_20), (.ref b_2)])) (fun t kt => ?_) ?_
      · show Steps p.tables e below (T_33.setTop (mkF m 135 #[.val (.long q1), .second, .val (.int p2), .val (.int p3), .val (.int p4), .val (.int (1 : Int32)), .val (.int (3 : Int32)), .val (.ref b_1), .val (.ref b_2), .val (.ref b_10), .val (.ref b_13), .val (.ref b_16), .val (.ref b_20), .unset, .unset, .unset, .unset] [])) t
        refine XS.iload X_33.here hx rfl (hb hby at_135) rfl ?_
        show Steps p.tables e below (T_33.setTop (mkF m 137 #[.val (.long q1), .second, .val (.int p2), .val (.int p3), .val (.int p4), .val (.int (1 : Int32)), .val (.int (3 : Int32)), .val (.ref b_1), .val (.ref b_2), .val (.ref b_10), .val (.ref b_13), .val (.ref b_16), .val (.ref b_20), .unset, .unset, .unset, .unset] [(.int (1 : Int32))])) t
        refine XS.ifNo X_33.here hx rfl (hb hby at_137) rfl ((if0 _ _).trans (feq (by decide : ¬ ((1 : Int32) = (0 : Int32)))).1) ?_
        show Steps p.tables e below (T_33.setTop (mkF m 140 #[.val (.long q1), .second, .val (.int p2), .val (.int p3), .val (.int p4), .val (.int (1 : Int32)), .val (.int (3 : Int32)), .val (.ref b_1), .val (.ref b_2), .val (.ref b_10), .val (.ref b_13), .val (.ref b_16), .val (.ref b_20), .unset, .unset, .unset, .unset] [])) t
        refine XS.aload X_33.here hx rfl (hb hby at_140) rfl rfl ?_
        show Steps p.tables e below (T_33.setTop (mkF m 142 #[.val (.long q1), .second, .val (.int p2), .val (.int p3), .val (.int p4), .val (.int (1 : Int32)), .val (.int (3 : Int32)), .val (.ref b_1), .val (.ref b_2), .val (.ref b_10), .val (.ref b_13), .val (.ref b_16), .val (.ref b_20), .unset, .unset, .unset, .unset] [(.ref b_2)])) t
        refine XS.goto X_33.here hx rfl (pc0 := 142) (pc' := 147) rfl (hb hby at_142) (by decide) (by decide) ?_
        show Steps p.tables e below (T_33.setTop (mkF m 147 #[.val (.long q1), .second, .val (.int p2), .val (.int p3), .val (.int p4), .val (.int (1 : Int32)), .val (.int (3 : Int32)), .val (.ref b_1), .val (.ref b_2), .val (.ref b_10), .val (.ref b_13), .val (.ref b_16), .val (.ref b_20), .unset, .unset, .unset, .unset] [(.ref b_2)])) t
        refine XS.astore X_33.here hx rfl (hb hby at_147) rfl rfl (l' := #[.val (.long q1), .second, .val (.int p2), .val (.int p3), .val (.int p4), .val (.int (1 : Int32)), .val (.int (3 : Int32)), .val (.ref b_1), .val (.ref b_2), .val (.ref b_10), .val (.ref b_13), .val (.ref b_16), .val (.ref b_20), .val (.ref b_2), .unset, .unset, .unset]) rfl ?_
        show Steps p.tables e below (T_33.setTop (mkF m 149 #[.val (.long q1), .second, .val (.int p2), .val (.int p3), .val (.int p4), .val (.int (1 : Int32)), .val (.int (3 : Int32)), .val (.ref b_1), .val (.ref b_2), .val (.ref b_10), .val (.ref b_13), .val (.ref b_16), .val (.ref b_20), .val (.ref b_2), .unset, .unset, .unset] [])) t
        refine XS.iload X_33.here hx rfl (hb hby at_149) rfl ?_
        show Steps p.tables e below (T_33.setTop (mkF m 151 #[.val (.long q1), .second, .val (.int p2), .val (.int p3), .val (.int p4), .val (.int (1 : Int32)), .val (.int (3 : Int32)), .val (.ref b_1), .val (.ref b_2), .val (.ref b_10), .val (.ref b_13), .val (.ref b_16), .val (.ref b_20), .val (.ref b_2), .unset, .unset, .unset] [(.int (3 : Int32))])) t
        refine XS.ifYes X_33.here hx rfl (pc0 := 151) (pc' := 159) rfl (hb hby at_151) rfl ((if0 _ _).trans (feq (by decide : ¬ ((3 : Int32) = (0 : Int32)))).2) (by decide) (by decide) ?_
        show Steps p.tables e below (T_33.setTop (mkF m 159 #[.val (.long q1), .second, .val (.int p2), .val (.int p3), .val (.int p4), .val (.int (1 : Int32)), .val (.int (3 : Int32)), .val (.ref b_1), .val (.ref b_2), .val (.ref b_10), .val (.ref b_13), .val (.ref b_16), .val (.ref b_20), .val (.ref b_2), .unset, .unset, .unset] [])) t
        refine XS.iload X_33.here hx rfl (hb hby at_159) rfl ?_
        show Steps p.tables e below (T_33.setTop (mkF m 161 #[.val (.long q1), .second, .val (.int p2), .val (.int p3), .val (.int p4), .val (.int (1 : Int32)), .val (.int (3 : Int32)), .val (.ref b_1), .val (.ref b_2), .val (.ref b_10), .val (.ref b_13), .val (.ref b_16), .val (.ref b_20), .val (.ref b_2), .unset, .unset, .unset] [(.int (3 : Int32))])) t
        refine XS.iconst X_33.here hx rfl (hb hby at_161) ?_
        show Steps p.tables e below (T_33.setTop (mkF m 162 #[.val (.long q1), .second, .val (.int p2), .val (.int p3), .val (.int p4), .val (.int (1 : Int32)), .val (.int (3 : Int32)), .val (.ref b_1), .val (.ref b_2), .val (.ref b_10), .val (.ref b_13), .val (.ref b_16), .val (.ref b_20), .val (.ref b_2), .unset, .unset, .unset] [(.int (1 : Int32)), (.int (3 : Int32))])) t
        refine XS.icmpYes X_33.here hx rfl (pc0 := 162) (pc' := 170) rfl (hb hby at_162) rfl (feq (by decide : ¬ ((3 : Int32) = (1 : Int32)))).2 (by decide) (by decide) ?_
        show Steps p.tables e below (T_33.setTop (mkF m 170 #[.val (.long q1), .second, .val (.int p2), .val (.int p3), .val (.int p4), .val (.int (1 : Int32)), .val (.int (3 : Int32)), .val (.ref b_1), .val (.ref b_2), .val (.ref b_10), .val (.ref b_13), .val (.ref b_16), .val (.ref b_20), .val (.ref b_2), .unset, .unset, .unset] [])) t
        refine XS.iload X_33.here hx rfl (hb hby at_170) rfl ?_
        show Steps p.tables e below (T_33.setTop (mkF m 172 #[.val (.long q1), .second, .val (.int p2), .val (.int p3), .val (.int p4), .val (.int (1 : Int32)), .val (.int (3 : Int32)), .val (.ref b_1), .val (.ref b_2), .val (.ref b_10), .val (.ref b_13), .val (.ref b_16), .val (.ref b_20), .val (.ref b_2), .unset, .unset, .unset] [(.int (3 : Int32))])) t
        refine XS.iconst X_33.here hx rfl (hb hby at_172) ?_
        show Steps p.tables e below (T_33.setTop (mkF m 173 #[.val (.long q1), .second, .val (.int p2), .val (.int p3), .val (.int p4), .val (.int (1 : Int32)), .val (.int (3 : Int32)), .val (.ref b_1), .val (.ref b_2), .val (.ref b_10), .val (.ref b_13), .val (.ref b_16), .val (.ref b_20), .val (.ref b_2), .unset, .unset, .unset] [(.int (2 : Int32)), (.int (3 : Int32))])) t
        refine XS.icmpYes X_33.here hx rfl (pc0 := 173) (pc' := 181) rfl (hb hby at_173) rfl (feq (by decide : ¬ ((3 : Int32) = (2 : Int32)))).2 (by decide) (by decide) ?_
        show Steps p.tables e below (T_33.setTop (mkF m 181 #[.val (.long q1), .second, .val (.int p2), .val (.int p3), .val (.int p4), .val (.int (1 : Int32)), .val (.int (3 : Int32)), .val (.ref b_1), .val (.ref b_2), .val (.ref b_10), .val (.ref b_13), .val (.ref b_16), .val (.ref b_20), .val (.ref b_2), .unset, .unset, .unset] [])) t
        refine XS.aload X_33.here hx rfl (hb hby at_181) rfl rfl ?_
        show Steps p.tables e below (T_33.setTop (mkF m 183 #[.val (.long q1), .second, .val (.int p2), .val (.int p3), .val (.int p4), .val (.int (1 : Int32)), .val (.int (3 : Int32)), .val (.ref b_1), .val (.ref b_2), .val (.ref b_10), .val (.ref b_13), .val (.ref b_16), .val (.ref b_20), .val (.ref b_2), .unset, .unset, .unset] [(.ref b_20)])) t
        refine XS.astore X_33.here hx rfl (hb hby at_183) rfl rfl (l' := #[.val (.long q1), .second, .val (.int p2), .val (.int p3), .val (.int p4), .val (.int (1 : Int32)), .val (.int (3 : Int32)), .val (.ref b_1), .val (.ref b_2), .val (.ref b_10), .val (.ref b_13), .val (.ref b_16), .val (.ref b_20), .val (.ref b_2), .val (.ref b_20), .unset, .unset]) rfl ?_
        show Steps p.tables e below (T_33.setTop (mkF m 185 #[.val (.long q1), .second, .val (.int p2), .val (.int p3), .val (.int p4), .val (.int (1 : Int32)), .val (.int (3 : Int32)), .val (.ref b_1), .val (.ref b_2), .val (.ref b_10), .val (.ref b_13), .val (.ref b_16), .val (.ref b_20), .val (.ref b_2), .val (.ref b_20), .unset, .unset] [])) t
        refine XS.aload X_33.here hx rfl (hb hby at_185) rfl rfl ?_
        show Steps p.tables e below (T_33.setTop (mkF m 187 #[.val (.long q1), .second, .val (.int p2), .val (.int p3), .val (.int p4), .val (.int (1 : Int32)), .val (.int (3 : Int32)), .val (.ref b_1), .val (.ref b_2), .val (.ref b_10), .val (.ref b_13), .val (.ref b_16), .val (.ref b_20), .val (.ref b_2), .val (.ref b_20), .unset, .unset] [(.ref b_2)])) t
        refine XS.aload X_33.here hx rfl (hb hby at_187) rfl rfl ?_
        exact kt
      have f_186 := ((((((((((V_9.ext E_10).ext E_13).ext E_16).ext E_20).other W_25 ne_b_2_b_13).other W_27 ne_b_2_b_16).other W_29 ne_b_2_b_16).other W_30 ne_b_2_b_20).other W_32 ne_b_2_b_20).other W_33 ne_b_2_b_20)
      obtain ⟨_, _, ⟨T_187, L_187, k_187, n_187⟩, -, X_187, ⟨Lc_187, hQ_187, l_187, y_187, z_187⟩, st_187⟩ := Jvm.LawKit.callS X_33 hx (y := (⟨"com/example/thin_table/thintable/model/KeyOrder", "newestValue", "([B[B)[B"⟩ : MethodName)) hown (mvT hZ (hw _ (List.mem_of_getElem? (i := 5) rfl))) (mvT hZ (hw _ (List.mem_of_getElem? (i := 6) rfl))) (mvT hZ (hw _ (List.mem_of_getElem? (i := 7) rfl))) (mvT hZ (hw _ (List.mem_of_getElem? (i := 8) rfl))) (by decide) (backOf (W := 0) (rnew11_3 l Z a0 hw [] (b_2) (b_20) k_2 k_20 [(.int (nar .byte (p2.toInt8.toInt32))), (.int (nar .byte (((p2.toUInt32 >>> ((8 : Int32) &&& 31).toUInt32).toInt32).toInt8.toInt32))), (.int (nar .byte (((p2.toUInt32 >>> ((16 : Int32) &&& 31).toUInt32).toInt32).toInt8.toInt32))), (.int (own_by q1 56)), (.int (own_by q1 48)), (.int (own_by q1 40)), (.int (own_by q1 32)), (.int (own_by q1 24)), (.int (own_by q1 16)), (.int (own_by q1 8)), (.int (own_b0 q1))] [(.int (nar .byte (p3.toInt8.toInt32))), (.int (nar .byte (((p3.toUInt32 >>> ((8 : Int32) &&& 31).toUInt32).toInt32).toInt8.toInt32))), (.int (nar .byte (((p3.toUInt32 >>> ((16 : Int32) &&& 31).toUInt32).toInt32).toInt8.toInt32)))] h_33 n0 Z_33 f_186 V_33) hZ (hw _ (List.mem_of_getElem? (i := 8) rfl)) (hw _ (List.mem_of_getElem? (i := 7) rfl)) (by decide) (by decide)) (g := (mkF m 189 #[.val (.long q1), .second, .val (.int p2), .val (.int p3), .val (.int p4), .val (.int (1 : Int32)), .val (.int (3 : Int32)), .val (.ref b_1), .val (.ref b_2), .val (.ref b_10), .val (.ref b_13), .val (.ref b_16), .val (.ref b_20), .val (.ref b_2), .val (.ref b_20), .unset, .unset] [(.ref b_20), (.ref b_2)])) rfl (by rw [hml]; rfl) (argsL := [(.ref b_2), (.ref b_20)]) (rest := []) (lenOf pd_1 rfl) rfl (by show 2 * 0 + _ ≤ _; exact Nat.le_of_eq rfl) (hb hby at_189) (fun _ _ => ⟨rfl, e_33, (by decide : 6 + 1 ≤ _), (by decide : 25 + 11 ≤ _)⟩)
      dsimp only [Pt.U, Pt.locs, Pt.cells, Pt.slots] at X_187 l_187 y_187 z_187 st_187 hQ_187
      subst l_187 y_187 z_187
      obtain ⟨r_187, kB_187, rfl, N_187q, K_187, sr_187, V_187⟩ := hQ_187
      have N_187 := Fr.app N_33 N_187q
      have f_188 := (((((((f_21.ext E_20).wr W_25).wr W_27).wr W_29).wr W_30).wr W_32).wr W_33)
      have ne_b_1_r_187 : b_1 ≠ r_187 := Nat.ne_of_lt (Nat.lt_of_lt_of_le f_188.lt sr_187)
      have f_189 := (((((((f_22.ext E_20).wr W_25).wr W_27).wr W_29).wr W_30).wr W_32).wr W_33)
      have ne_b_2_r_187 : b_2 ≠ r_187 := Nat.ne_of_lt (Nat.lt_of_lt_of_le f_189.lt sr_187)
      have f_190 := (((((((f_23.ext E_20).wr W_25).wr W_27).wr W_29).wr W_30).wr W_32).wr W_33)
      have ne_b_10_r_187 : b_10 ≠ r_187 := Nat.ne_of_lt (Nat.lt_of_lt_of_le f_190.lt sr_187)
      have f_191 := (((((((f_24.ext E_20).wr W_25).wr W_27).wr W_29).wr W_30).wr W_32).wr W_33)
      have ne_b_13_r_187 : b_13 ≠ r_187 := Nat.ne_of_lt (Nat.lt_of_lt_of_le f_191.lt sr_187)
      have f_192 := (((((((B_16.ext E_20).wr W_25).wr W_27).wr W_29).wr W_30).wr W_32).wr W_33)
      have ne_b_16_r_187 : b_16 ≠ r_187 := Nat.ne_of_lt (Nat.lt_of_lt_of_le f_192.lt sr_187)
      have f_193 := ((((((B_20.wr W_25).wr W_27).wr W_29).wr W_30).wr W_32).wr W_33)
      have ne_b_20_r_187 : b_20 ≠ r_187 := Nat.ne_of_lt (Nat.lt_of_lt_of_le f_193.lt sr_187)
      have g_r_187 : n0 ≤ r_187 := Nat.le_trans Z_33 sr_187
      have Z_187 : n0 ≤ T_187.heap.size := Nat.le_trans Z_33 K_187.1
      refine own_go (g' := (mkF m 192 #[.val (.long q1), .second, .val (.int p2), .val (.int p3), .val (.int p4), .val (.int (1 : Int32)), .val (.int (3 : Int32)), .val (.ref b_1), .val (.ref b_2), .val (.ref b_10), .val (.ref b_13), .val (.ref b_16), .val (.ref b_20), .val (.ref b_2), .val (.ref b_20), .unset, .unset] [(.ref r_187)])) st_187 ?_
      replace V_187 : Arv Z T_187.heap r_187 kB_187 .byte (11 : Int32) [(.int (own_by q1 56)), (.int (own_by q1 48)), (.int (own_by q1 40)), (.int (own_by q1 32)), (.int (own_by q1 24)), (.int (own_by q1 16)), (.int (own_by q1 8)), (.int (own_b0 q1)), (.int (nar .byte (p3.toInt8.toInt32))), (.int (nar .byte (((p3.toUInt32 >>> ((8 : Int32) &&& 31).toUInt32).toInt32).toInt8.toInt32))), (.int (nar .byte (((p3.toUInt32 >>> ((16 : Int32) &&& 31).toUInt32).toInt32).toInt8.toInt32)))] (.int (0 : Int32)) := V_187
      refine own_go (T' := T_187) (g' := (mkF m 201 #[.val (.long q1), .second, .val (.int p2), .val (.int p3), .val (.int p4), .val (.int (1 : Int32)), .val (.int (3 : Int32)), .val (.ref b_1), .val (.ref b_2), .val (.ref b_10), .val (.ref b_13), .val (.ref b_16), .val (.ref b_20), .val (.ref b_2), .val (.ref b_20), .val (.ref r_187), .unset] [(.ref r_187)])) (fun t kt => ?_) ?_
      · show Steps p.tables e below (T_187.setTop (mkF m 192 #[.val (.long q1), .second, .val (.int p2), .val (.int p3), .val (.int p4), .val (.int (1 : Int32)), .val (.int (3 : Int32)), .val (.ref b_1), .val (.ref b_2), .val (.ref b_10), .val (.ref b_13), .val (.ref b_16), .val (.ref b_20), .val (.ref b_2), .val (.ref b_20), .unset, .unset] [(.ref r_187)])) t
        refine XS.astore X_187.here hx rfl (hb hby at_192) rfl rfl (l' := #[.val (.long q1), .second, .val (.int p2), .val (.int p3), .val (.int p4), .val (.int (1 : Int32)), .val (.int (3 : Int32)), .val (.ref b_1), .val (.ref b_2), .val (.ref b_10), .val (.ref b_13), .val (.ref b_16), .val (.ref b_20), .val (.ref b_2), .val (.ref b_20), .val (.ref r_187), .unset]) rfl ?_
        show Steps p.tables e below (T_187.setTop (mkF m 194 #[.val (.long q1), .second, .val (.int p2), .val (.int p3), .val (.int p4), .val (.int (1 : Int32)), .val (.int (3 : Int32)), .val (.ref b_1), .val (.ref b_2), .val (.ref b_10), .val (.ref b_13), .val (.ref b_16), .val (.ref b_20), .val (.ref b_2), .val (.ref b_20), .val (.ref r_187), .unset] [])) t
        refine XS.aload X_187.here hx rfl (hb hby at_194) rfl rfl ?_
        show Steps p.tables e below (T_187.setTop (mkF m 196 #[.val (.long q1), .second, .val (.int p2), .val (.int p3), .val (.int p4), .val (.int (1 : Int32)), .val (.int (3 : Int32)), .val (.ref b_1), .val (.ref b_2), .val (.ref b_10), .val (.ref b_13), .val (.ref b_16), .val (.ref b_20), .val (.ref b_2), .val (.ref b_20), .val (.ref r_187), .unset] [(.ref r_187)])) t
        refine XS.ifnullNo X_187.here hx rfl (hb hby at_196) rfl ?_
        show Steps p.tables e below (T_187.setTop (mkF m 199 #[.val (.long q1), .second, .val (.int p2), .val (.int p3), .val (.int p4), .val (.int (1 : Int32)), .val (.int (3 : Int32)), .val (.ref b_1), .val (.ref b_2), .val (.ref b_10), .val (.ref b_13), .val (.ref b_16), .val (.ref b_20), .val (.ref b_2), .val (.ref b_20), .val (.ref r_187), .unset] [])) t
        refine XS.aload X_187.here hx rfl (hb hby at_199) rfl rfl ?_
        exact kt
      have vq_194 := V_187
      obtain ⟨c_194, a_194, -, s_194, m_194, -, -⟩ := vq_194
      refine own_go (T' := T_187) (g' := (mkF m 202 #[.val (.long q1), .second, .val (.int p2), .val (.int p3), .val (.int p4), .val (.int (1 : Int32)), .val (.int (3 : Int32)), .val (.ref b_1), .val (.ref b_2), .val (.ref b_10), .val (.ref b_13), .val (.ref b_16), .val (.ref b_20), .val (.ref b_2), .val (.ref b_20), .val (.ref r_187), .unset] [(.int (11 : Int32))])) (fun t kt => ?_) ?_
      · refine X_187.arraylength hx a_194.1 (State.isArrayOf_alike hZ.alike a_194.2.1) (g := (mkF m 201 #[.val (.long q1), .second, .val (.int p2), .val (.int p3), .val (.int p4), .val (.int (1 : Int32)), .val (.int (3 : Int32)), .val (.ref b_1), .val (.ref b_2), .val (.ref b_10), .val (.ref b_13), .val (.ref b_16), .val (.ref b_20), .val (.ref b_2), .val (.ref b_20), .val (.ref r_187), .unset] [(.ref r_187)])) rfl rfl (hb hby at_201) _ ?_
        rw [len_of s_194 m_194]
        exact kt
      refine own_go (T' := T_187) (g' := (mkF m 227 #[.val (.long q1), .second, .val (.int p2), .val (.int p3), .val (.int p4), .val (.int (1 : Int32)), .val (.int (3 : Int32)), .val (.ref b_1), .val (.ref b_2), .val (.ref b_10), .val (.ref b_13), .val (.ref b_16), .val (.ref b_20), .val (.ref b_2), .val (.ref b_20), .val (.ref r_187), .unset] [(.long q1), (.ref r_187)])) (fun t kt => ?_) ?_
      · show Steps p.tables e below (T_187.setTop (mkF m 202 #[.val (.long q1), .second, .val (.int p2), .val (.int p3), .val (.int p4), .val (.int (1 : Int32)), .val (.int (3 : Int32)), .val (.ref b_1), .val (.ref b_2), .val (.ref b_10), .val (.ref b_13), .val (.ref b_16), .val (.ref b_20), .val (.ref b_2), .val (.ref b_20), .val (.ref r_187), .unset] [(.int (11 : Int32))])) t
        refine XS.bipush X_187.here hx rfl (hb hby at_202) ?_
        show Steps p.tables e below (T_187.setTop (mkF m 204 #[.val (.long q1), .second, .val (.int p2), .val (.int p3), .val (.int p4), .val (.int (1 : Int32)), .val (.int (3 : Int32)), .val (.ref b_1), .val (.ref b_2), .val (.ref b_10), .val (.ref b_13), .val (.ref b_16), .val (.ref b_20), .val (.ref b_2), .val (.ref b_20), .val (.ref r_187), .unset] [(.int (8 : Int32)), (.int (11 : Int32))])) t
        refine XS.iload X_187.here hx rfl (hb hby at_204) rfl ?_
        show Steps p.tables e below (T_187.setTop (mkF m 206 #[.val (.long q1), .second, .val (.int p2), .val (.int p3), .val (.int p4), .val (.int (1 : Int32)), .val (.int (3 : Int32)), .val (.ref b_1), .val (.ref b_2), .val (.ref b_10), .val (.ref b_13), .val (.ref b_16), .val (.ref b_20), .val (.ref b_2), .val (.ref b_20), .val (.ref r_187), .unset] [(.int (3 : Int32)), (.int (8 : Int32)), (.int (11 : Int32))])) t
        refine XS.iadd X_187.here hx rfl (hb hby at_206) rfl ?_
        show Steps p.tables e below (T_187.setTop (mkF m 207 #[.val (.long q1), .second, .val (.int p2), .val (.int p3), .val (.int p4), .val (.int (1 : Int32)), .val (.int (3 : Int32)), .val (.ref b_1), .val (.ref b_2), .val (.ref b_10), .val (.ref b_13), .val (.ref b_16), .val (.ref b_20), .val (.ref b_2), .val (.ref b_20), .val (.ref r_187), .unset] [(.int (11 : Int32)), (.int (11 : Int32))])) t
        refine XS.icmpNo X_187.here hx rfl (hb hby at_207) rfl (teq (by decide : (11 : Int32) = (11 : Int32))).2 ?_
        show Steps p.tables e below (T_187.setTop (mkF m 210 #[.val (.long q1), .second, .val (.int p2), .val (.int p3), .val (.int p4), .val (.int (1 : Int32)), .val (.int (3 : Int32)), .val (.ref b_1), .val (.ref b_2), .val (.ref b_10), .val (.ref b_13), .val (.ref b_16), .val (.ref b_20), .val (.ref b_2), .val (.ref b_20), .val (.ref r_187), .unset] [])) t
        refine XS.aload X_187.here hx rfl (hb hby at_210) rfl rfl ?_
        show Steps p.tables e below (T_187.setTop (mkF m 212 #[.val (.long q1), .second, .val (.int p2), .val (.int p3), .val (.int p4), .val (.int (1 : Int32)), .val (.int (3 : Int32)), .val (.ref b_1), .val (.ref b_2), .val (.ref b_10), .val (.ref b_13), .val (.ref b_16), .val (.ref b_20), .val (.ref b_2), .val (.ref b_20), .val (.ref r_187), .unset] [(.ref r_187)])) t
        refine XS.aload X_187.here hx rfl (hb hby at_212) rfl rfl ?_
        show Steps p.tables e below (T_187.setTop (mkF m 214 #[.val (.long q1), .second, .val (.int p2), .val (.int p3), .val (.int p4), .val (.int (1 : Int32)), .val (.int (3 : Int32)), .val (.ref b_1), .val (.ref b_2), .val (.ref b_10), .val (.ref b_13), .val (.ref b_16), .val (.ref b_20), .val (.ref b_2), .val (.ref b_20), .val (.ref r_187), .unset] [(.ref b_20), (.ref r_187)])) t
        refine Jvm.RoadKit.acmp (g := (mkF m 214 #[.val (.long q1), .second, .val (.int p2), .val (.int p3), .val (.int p4), .val (.int (1 : Int32)), .val (.int (3 : Int32)), .val (.ref b_1), .val (.ref b_2), .val (.ref b_10), .val (.ref b_13), .val (.ref b_16), .val (.ref b_20), .val (.ref b_2), .val (.ref b_20), .val (.ref r_187), .unset] [(.ref b_20), (.ref r_187)])) X_187 hx rfl rfl rfl (pc0 := 214) (pc' := 217) (same := false) rfl (hb hby at_214) rfl (decide_eq_false fun q => (Ne.symm ne_b_20_r_187) (Value.ref.inj q)) (by decide) (by decide) ?_
        show Steps p.tables e below (T_187.setTop (mkF m 217 #[.val (.long q1), .second, .val (.int p2), .val (.int p3), .val (.int p4), .val (.int (1 : Int32)), .val (.int (3 : Int32)), .val (.ref b_1), .val (.ref b_2), .val (.ref b_10), .val (.ref b_13), .val (.ref b_16), .val (.ref b_20), .val (.ref b_2), .val (.ref b_20), .val (.ref r_187), .unset] [])) t
        refine XS.aload X_187.here hx rfl (hb hby at_217) rfl rfl ?_
        show Steps p.tables e below (T_187.setTop (mkF m 219 #[.val (.long q1), .second, .val (.int p2), .val (.int p3), .val (.int p4), .val (.int (1 : Int32)), .val (.int (3 : Int32)), .val (.ref b_1), .val (.ref b_2), .val (.ref b_10), .val (.ref b_13), .val (.ref b_16), .val (.ref b_20), .val (.ref b_2), .val (.ref b_20), .val (.ref r_187), .unset] [(.ref r_187)])) t
        refine XS.aload X_187.here hx rfl (hb hby at_219) rfl rfl ?_
        show Steps p.tables e below (T_187.setTop (mkF m 221 #[.val (.long q1), .second, .val (.int p2), .val (.int p3), .val (.int p4), .val (.int (1 : Int32)), .val (.int (3 : Int32)), .val (.ref b_1), .val (.ref b_2), .val (.ref b_10), .val (.ref b_13), .val (.ref b_16), .val (.ref b_20), .val (.ref b_2), .val (.ref b_20), .val (.ref r_187), .unset] [(.ref b_2), (.ref r_187)])) t
        refine Jvm.RoadKit.acmp (g := (mkF m 221 #[.val (.long q1), .second, .val (.int p2), .val (.int p3), .val (.int p4), .val (.int (1 : Int32)), .val (.int (3 : Int32)), .val (.ref b_1), .val (.ref b_2), .val (.ref b_10), .val (.ref b_13), .val (.ref b_16), .val (.ref b_20), .val (.ref b_2), .val (.ref b_20), .val (.ref r_187), .unset] [(.ref b_2), (.ref r_187)])) X_187 hx rfl rfl rfl (pc0 := 221) (pc' := 224) (same := false) rfl (hb hby at_221) rfl (decide_eq_false fun q => (Ne.symm ne_b_2_r_187) (Value.ref.inj q)) (by decide) (by decide) ?_
        show Steps p.tables e below (T_187.setTop (mkF m 224 #[.val (.long q1), .second, .val (.int p2), .val (.int p3), .val (.int p4), .val (.int (1 : Int32)), .val (.int (3 : Int32)), .val (.ref b_1), .val (.ref b_2), .val (.ref b_10), .val (.ref b_13), .val (.ref b_16), .val (.ref b_20), .val (.ref b_2), .val (.ref b_20), .val (.ref r_187), .unset] [])) t
        refine XS.aload X_187.here hx rfl (hb hby at_224) rfl rfl ?_
        show Steps p.tables e below (T_187.setTop (mkF m 226 #[.val (.long q1), .second, .val (.int p2), .val (.int p3), .val (.int p4), .val (.int (1 : Int32)), .val (.int (3 : Int32)), .val (.ref b_1), .val (.ref b_2), .val (.ref b_10), .val (.ref b_13), .val (.ref b_16), .val (.ref b_20), .val (.ref b_2), .val (.ref b_20), .val (.ref r_187), .unset] [(.ref r_187)])) t
        refine XS.lloadN X_187.here hx rfl (hb hby at_226) rfl ?_
        exact kt
      obtain ⟨_, _, ⟨T_195, L_195, k_195, n_195⟩, -, X_195, ⟨Lc_195, hQ_195, l_195, y_195, z_195⟩, st_195⟩ := Jvm.LawKit.callS X_187 hx (y := (⟨"com/example/thin_table/thintable/model/KeyOrderNewestValuePinLaw", "head", "([BJ)Z"⟩ : MethodName)) hown (mvT hZ (hw _ (List.mem_of_getElem? (i := 13) rfl))) (mvT hZ (hw _ (List.mem_of_getElem? (i := 14) rfl))) (mvT hZ (hw _ (List.mem_of_getElem? (i := 3) rfl))) (mvT hZ (hw _ (List.mem_of_getElem? (i := 15) rfl))) (by decide) (backOf (W := 0) (rhead3 l Z a0 hw [] (r_187) (q1) p3 kB_187 T_187.heap n0 Z_187 V_187) hZ (hw _ (List.mem_of_getElem? (i := 15) rfl)) (hw _ (List.mem_of_getElem? (i := 3) rfl)) (by decide) (by decide)) (g := (mkF m 227 #[.val (.long q1), .second, .val (.int p2), .val (.int p3), .val (.int p4), .val (.int (1 : Int32)), .val (.int (3 : Int32)), .val (.ref b_1), .val (.ref b_2), .val (.ref b_10), .val (.ref b_13), .val (.ref b_16), .val (.ref b_20), .val (.ref b_2), .val (.ref b_20), .val (.ref r_187), .unset] [(.long q1), (.ref r_187)])) rfl (by rw [hml]; rfl) (argsL := [(.ref r_187), (.long q1)]) (rest := []) (lenOf pd_3 rfl) rfl (by show 2 * 0 + _ ≤ _; exact Nat.le_of_eq rfl) (hb hby at_227) (fun _ _ => ⟨rfl, rfl, (by decide : 7 + 0 ≤ _), (by decide : 36 + 0 ≤ _)⟩)
      dsimp only [Pt.U, Pt.locs, Pt.cells, Pt.slots] at X_195 l_195 y_195 z_195 st_195 hQ_195
      subst l_195 y_195 z_195
      obtain ⟨rfl, N_195q, e_195⟩ := hQ_195
      have N_195 := Fr.app N_187 N_195q
      refine own_go (g' := (mkF m 230 #[.val (.long q1), .second, .val (.int p2), .val (.int p3), .val (.int p4), .val (.int (1 : Int32)), .val (.int (3 : Int32)), .val (.ref b_1), .val (.ref b_2), .val (.ref b_10), .val (.ref b_13), .val (.ref b_16), .val (.ref b_20), .val (.ref b_2), .val (.ref b_20), .val (.ref r_187), .unset] [(.int (1 : Int32))])) st_195 ?_
      refine own_go (T' := T_195) (g' := (mkF m 238 #[.val (.long q1), .second, .val (.int p2), .val (.int p3), .val (.int p4), .val (.int (1 : Int32)), .val (.int (3 : Int32)), .val (.ref b_1), .val (.ref b_2), .val (.ref b_10), .val (.ref b_13), .val (.ref b_16), .val (.ref b_20), .val (.ref b_2), .val (.ref b_20), .val (.ref r_187), .unset] [(.int p3), (.int (3 : Int32)), (.ref r_187)])) (fun t kt => ?_) ?_
      · show Steps p.tables e below (T_195.setTop (mkF m 230 #[.val (.long q1), .second, .val (.int p2), .val (.int p3), .val (.int p4), .val (.int (1 : Int32)), .val (.int (3 : Int32)), .val (.ref b_1), .val (.ref b_2), .val (.ref b_10), .val (.ref b_13), .val (.ref b_16), .val (.ref b_20), .val (.ref b_2), .val (.ref b_20), .val (.ref r_187), .unset] [(.int (1 : Int32))])) t
        refine XS.ifNo X_195.here hx rfl (hb hby at_230) rfl ((if0 _ _).trans (feq (by decide : ¬ ((1 : Int32) = (0 : Int32)))).1) ?_
        show Steps p.tables e below (T_195.setTop (mkF m 233 #[.val (.long q1), .second, .val (.int p2), .val (.int p3), .val (.int p4), .val (.int (1 : Int32)), .val (.int (3 : Int32)), .val (.ref b_1), .val (.ref b_2), .val (.ref b_10), .val (.ref b_13), .val (.ref b_16), .val (.ref b_20), .val (.ref b_2), .val (.ref b_20), .val (.ref r_187), .unset] [])) t
        refine XS.aload X_195.here hx rfl (hb hby at_233) rfl rfl ?_
        show Steps p.tables e below (T_195.setTop (mkF m 235 #[.val (.long q1), .second, .val (.int p2), .val (.int p3), .val (.int p4), .val (.int (1 : Int32)), .val (.int (3 : Int32)), .val (.ref b_1), .val (.ref b_2), .val (.ref b_10), .val (.ref b_13), .val (.ref b_16), .val (.ref b_20), .val (.ref b_2), .val (.ref b_20), .val (.ref r_187), .unset] [(.ref r_187)])) t
        refine XS.iload X_195.here hx rfl (hb hby at_235) rfl ?_
        show Steps p.tables e below (T_195.setTop (mkF m 237 #[.val (.long q1), .second, .val (.int p2), .val (.int p3), .val (.int p4), .val (.int (1 : Int32)), .val (.int (3 : Int32)), .val (.ref b_1), .val (.ref b_2), .val (.ref b_10), .val (.ref b_13), .val (.ref b_16), .val (.ref b_20), .val (.ref b_2), .val (.ref b_20), .val (.ref r_187), .unset] [(.int (3 : Int32)), (.ref r_187)])) t
        refine XS.iloadN X_195.here hx rfl (hb hby at_237) rfl ?_
        exact kt
      obtain ⟨_, _, ⟨T_196, L_196, k_196, n_196⟩, -, X_196, ⟨Lc_196, hQ_196, l_196, y_196, z_196⟩, st_196⟩ := Jvm.LawKit.callS X_195 hx (y := (⟨"com/example/thin_table/thintable/model/KeyOrderNewestValuePinLaw", "tail", "([BII)Z"⟩ : MethodName)) hown (mvT hZ (hw _ (List.mem_of_getElem? (i := 16) rfl))) (mvT hZ (hw _ (List.mem_of_getElem? (i := 17) rfl))) (mvT hZ (hw _ (List.mem_of_getElem? (i := 3) rfl))) (mvT hZ (hw _ (List.mem_of_getElem? (i := 18) rfl))) (by decide) (backOf (W := 0) (rtail3 l Z a0 hw [] r_187 q1 p3 kB_187 T_187.heap n0 Z_187 V_187) hZ (hw _ (List.mem_of_getElem? (i := 18) rfl)) (hw _ (List.mem_of_getElem? (i := 3) rfl)) (by decide) (by decide)) (g := (mkF m 238 #[.val (.long q1), .second, .val (.int p2), .val (.int p3), .val (.int p4), .val (.int (1 : Int32)), .val (.int (3 : Int32)), .val (.ref b_1), .val (.ref b_2), .val (.ref b_10), .val (.ref b_13), .val (.ref b_16), .val (.ref b_20), .val (.ref b_2), .val (.ref b_20), .val (.ref r_187), .unset] [(.int p3), (.int (3 : Int32)), (.ref r_187)])) rfl (by rw [hml]; rfl) (argsL := [(.ref r_187), (.int (3 : Int32)), (.int p3)]) (rest := []) (lenOf pd_4 rfl) rfl (by show 2 * 0 + _ ≤ _; exact Nat.le_of_eq rfl) (hb hby at_238) (fun _ _ => ⟨rfl, e_195, (by decide : 7 + 0 ≤ _), (by decide : 36 + 0 ≤ _)⟩)
      dsimp only [Pt.U, Pt.locs, Pt.cells, Pt.slots] at X_196 l_196 y_196 z_196 st_196 hQ_196
      subst l_196 y_196 z_196
      obtain ⟨rfl, N_196q, e_196⟩ := hQ_196
      have N_196 := Fr.app N_195 N_196q
      refine own_go (g' := (mkF m 241 #[.val (.long q1), .second, .val (.int p2), .val (.int p3), .val (.int p4), .val (.int (1 : Int32)), .val (.int (3 : Int32)), .val (.ref b_1), .val (.ref b_2), .val (.ref b_10), .val (.ref b_13), .val (.ref b_16), .val (.ref b_20), .val (.ref b_2), .val (.ref b_20), .val (.ref r_187), .unset] [(.int (1 : Int32))])) st_196 ?_
      refine own_go (T' := T_196) (g' := (mkF m 262 #[.val (.long q1), .second, .val (.int p2), .val (.int p3), .val (.int p4), .val (.int (1 : Int32)), .val (.int (3 : Int32)), .val (.ref b_1), .val (.ref b_2), .val (.ref b_10), .val (.ref b_13), .val (.ref b_16), .val (.ref b_20), .val (.ref b_2), .val (.ref b_20), .val (.ref r_187), .val (.int (1 : Int32))] [(.ref b_2), (.ref b_2)])) (fun t kt => ?_) ?_
      · show Steps p.tables e below (T_196.setTop (mkF m 241 #[.val (.long q1), .second, .val (.int p2), .val (.int p3), .val (.int p4), .val (.int (1 : Int32)), .val (.int (3 : Int32)), .val (.ref b_1), .val (.ref b_2), .val (.ref b_10), .val (.ref b_13), .val (.ref b_16), .val (.ref b_20), .val (.ref b_2), .val (.ref b_20), .val (.ref r_187), .unset] [(.int (1 : Int32))])) t
        refine XS.ifNo X_196.here hx rfl (hb hby at_241) rfl ((if0 _ _).trans (feq (by decide : ¬ ((1 : Int32) = (0 : Int32)))).1) ?_
        show Steps p.tables e below (T_196.setTop (mkF m 244 #[.val (.long q1), .second, .val (.int p2), .val (.int p3), .val (.int p4), .val (.int (1 : Int32)), .val (.int (3 : Int32)), .val (.ref b_1), .val (.ref b_2), .val (.ref b_10), .val (.ref b_13), .val (.ref b_16), .val (.ref b_20), .val (.ref b_2), .val (.ref b_20), .val (.ref r_187), .unset] [])) t
        refine XS.iconst X_196.here hx rfl (hb hby at_244) ?_
        show Steps p.tables e below (T_196.setTop (mkF m 245 #[.val (.long q1), .second, .val (.int p2), .val (.int p3), .val (.int p4), .val (.int (1 : Int32)), .val (.int (3 : Int32)), .val (.ref b_1), .val (.ref b_2), .val (.ref b_10), .val (.ref b_13), .val (.ref b_16), .val (.ref b_20), .val (.ref b_2), .val (.ref b_20), .val (.ref r_187), .unset] [(.int (1 : Int32))])) t
        refine XS.goto X_196.here hx rfl (pc0 := 245) (pc' := 249) rfl (hb hby at_245) (by decide) (by decide) ?_
        show Steps p.tables e below (T_196.setTop (mkF m 249 #[.val (.long q1), .second, .val (.int p2), .val (.int p3), .val (.int p4), .val (.int (1 : Int32)), .val (.int (3 : Int32)), .val (.ref b_1), .val (.ref b_2), .val (.ref b_10), .val (.ref b_13), .val (.ref b_16), .val (.ref b_20), .val (.ref b_2), .val (.ref b_20), .val (.ref r_187), .unset] [(.int (1 : Int32))])) t
        refine XS.istore X_196.here hx rfl (hb hby at_249) rfl (l' := #[.val (.long q1), .second, .val (.int p2), .val (.int p3), .val (.int p4), .val (.int (1 : Int32)), .val (.int (3 : Int32)), .val (.ref b_1), .val (.ref b_2), .val (.ref b_10), .val (.ref b_13), .val (.ref b_16), .val (.ref b_20), .val (.ref b_2), .val (.ref b_20), .val (.ref r_187), .val (.int (1 : Int32))]) rfl ?_
        show Steps p.tables e below (T_196.setTop (mkF m 251 #[.val (.long q1), .second, .val (.int p2), .val (.int p3), .val (.int p4), .val (.int (1 : Int32)), .val (.int (3 : Int32)), .val (.ref b_1), .val (.ref b_2), .val (.ref b_10), .val (.ref b_13), .val (.ref b_16), .val (.ref b_20), .val (.ref b_2), .val (.ref b_20), .val (.ref r_187), .val (.int (1 : Int32))] [])) t
        refine XS.iload X_196.here hx rfl (hb hby at_251) rfl ?_
        show Steps p.tables e below (T_196.setTop (mkF m 253 #[.val (.long q1), .second, .val (.int p2), .val (.int p3), .val (.int p4), .val (.int (1 : Int32)), .val (.int (3 : Int32)), .val (.ref b_1), .val (.ref b_2), .val (.ref b_10), .val (.ref b_13), .val (.ref b_16), .val (.ref b_20), .val (.ref b_2), .val (.ref b_20), .val (.ref r_187), .val (.int (1 : Int32))] [(.int (1 : Int32))])) t
        refine XS.ifYes X_196.here hx rfl (pc0 := 253) (pc' := 258) rfl (hb hby at_253) rfl ((if0 _ _).trans (feq (by decide : ¬ ((1 : Int32) = (0 : Int32)))).2) (by decide) (by decide) ?_
        show Steps p.tables e below (T_196.setTop (mkF m 258 #[.val (.long q1), .second, .val (.int p2), .val (.int p3), .val (.int p4), .val (.int (1 : Int32)), .val (.int (3 : Int32)), .val (.ref b_1), .val (.ref b_2), .val (.ref b_10), .val (.ref b_13), .val (.ref b_16), .val (.ref b_20), .val (.ref b_2), .val (.ref b_20), .val (.ref r_187), .val (.int (1 : Int32))] [])) t
        refine XS.aload X_196.here hx rfl (hb hby at_258) rfl rfl ?_
        show Steps p.tables e below (T_196.setTop (mkF m 260 #[.val (.long q1), .second, .val (.int p2), .val (.int p3), .val (.int p4), .val (.int (1 : Int32)), .val (.int (3 : Int32)), .val (.ref b_1), .val (.ref b_2), .val (.ref b_10), .val (.ref b_13), .val (.ref b_16), .val (.ref b_20), .val (.ref b_2), .val (.ref b_20), .val (.ref r_187), .val (.int (1 : Int32))] [(.ref b_2)])) t
        refine XS.aload X_196.here hx rfl (hb hby at_260) rfl rfl ?_
        exact kt
      have f_197 := (f_186.keep K_187 nin0)
      have vq_198 := f_197
      obtain ⟨c_198, a_198, -, s_198, m_198, -, -⟩ := vq_198
      refine own_go (T' := T_196) (g' := (mkF m 263 #[.val (.long q1), .second, .val (.int p2), .val (.int p3), .val (.int p4), .val (.int (1 : Int32)), .val (.int (3 : Int32)), .val (.ref b_1), .val (.ref b_2), .val (.ref b_10), .val (.ref b_13), .val (.ref b_16), .val (.ref b_20), .val (.ref b_2), .val (.ref b_20), .val (.ref r_187), .val (.int (1 : Int32))] [(.int (11 : Int32)), (.ref b_2)])) (fun t kt => ?_) ?_
      · refine X_196.arraylength hx (by rw [e_196]; exact a_198.1) (State.isArrayOf_alike hZ.alike a_198.2.1) (g := (mkF m 262 #[.val (.long q1), .second, .val (.int p2), .val (.int p3), .val (.int p4), .val (.int (1 : Int32)), .val (.int (3 : Int32)), .val (.ref b_1), .val (.ref b_2), .val (.ref b_10), .val (.ref b_13), .val (.ref b_16), .val (.ref b_20), .val (.ref b_2), .val (.ref b_20), .val (.ref r_187), .val (.int (1 : Int32))] [(.ref b_2), (.ref b_2)])) rfl rfl (hb hby at_262) _ ?_
        rw [len_of s_198 m_198]
        exact kt
      refine own_go (T' := T_196) (g' := (mkF m 269 #[.val (.long q1), .second, .val (.int p2), .val (.int p3), .val (.int p4), .val (.int (1 : Int32)), .val (.int (3 : Int32)), .val (.ref b_1), .val (.ref b_2), .val (.ref b_10), .val (.ref b_13), .val (.ref b_16), .val (.ref b_20), .val (.ref b_2), .val (.ref b_20), .val (.ref r_187), .val (.int (1 : Int32))] [(.ref b_2), (.ref b_2), (.int (10 : Int32)), (.ref b_2)])) (fun t kt => ?_) ?_
      · show Steps p.tables e below (T_196.setTop (mkF m 263 #[.val (.long q1), .second, .val (.int p2), .val (.int p3), .val (.int p4), .val (.int (1 : Int32)), .val (.int (3 : Int32)), .val (.ref b_1), .val (.ref b_2), .val (.ref b_10), .val (.ref b_13), .val (.ref b_16), .val (.ref b_20), .val (.ref b_2), .val (.ref b_20), .val (.ref r_187), .val (.int (1 : Int32))] [(.int (11 : Int32)), (.ref b_2)])) t
        refine XS.iconst X_196.here hx rfl (hb hby at_263) ?_
        show Steps p.tables e below (T_196.setTop (mkF m 264 #[.val (.long q1), .second, .val (.int p2), .val (.int p3), .val (.int p4), .val (.int (1 : Int32)), .val (.int (3 : Int32)), .val (.ref b_1), .val (.ref b_2), .val (.ref b_10), .val (.ref b_13), .val (.ref b_16), .val (.ref b_20), .val (.ref b_2), .val (.ref b_20), .val (.ref r_187), .val (.int (1 : Int32))] [(.int (1 : Int32)), (.int (11 : Int32)), (.ref b_2)])) t
        refine XS.isub X_196.here hx rfl (hb hby at_264) rfl ?_
        show Steps p.tables e below (T_196.setTop (mkF m 265 #[.val (.long q1), .second, .val (.int p2), .val (.int p3), .val (.int p4), .val (.int (1 : Int32)), .val (.int (3 : Int32)), .val (.ref b_1), .val (.ref b_2), .val (.ref b_10), .val (.ref b_13), .val (.ref b_16), .val (.ref b_20), .val (.ref b_2), .val (.ref b_20), .val (.ref r_187), .val (.int (1 : Int32))] [(.int (10 : Int32)), (.ref b_2)])) t
        refine XS.aload X_196.here hx rfl (hb hby at_265) rfl rfl ?_
        show Steps p.tables e below (T_196.setTop (mkF m 267 #[.val (.long q1), .second, .val (.int p2), .val (.int p3), .val (.int p4), .val (.int (1 : Int32)), .val (.int (3 : Int32)), .val (.ref b_1), .val (.ref b_2), .val (.ref b_10), .val (.ref b_13), .val (.ref b_16), .val (.ref b_20), .val (.ref b_2), .val (.ref b_20), .val (.ref r_187), .val (.int (1 : Int32))] [(.ref b_2), (.int (10 : Int32)), (.ref b_2)])) t
        refine XS.aload X_196.here hx rfl (hb hby at_267) rfl rfl ?_
        exact kt
      have vq_199 := f_197
      obtain ⟨c_199, a_199, -, s_199, m_199, -, -⟩ := vq_199
      refine own_go (T' := T_196) (g' := (mkF m 270 #[.val (.long q1), .second, .val (.int p2), .val (.int p3), .val (.int p4), .val (.int (1 : Int32)), .val (.int (3 : Int32)), .val (.ref b_1), .val (.ref b_2), .val (.ref b_10), .val (.ref b_13), .val (.ref b_16), .val (.ref b_20), .val (.ref b_2), .val (.ref b_20), .val (.ref r_187), .val (.int (1 : Int32))] [(.int (11 : Int32)), (.ref b_2), (.int (10 : Int32)), (.ref b_2)])) (fun t kt => ?_) ?_
      · refine X_196.arraylength hx (by rw [e_196]; exact a_199.1) (State.isArrayOf_alike hZ.alike a_199.2.1) (g := (mkF m 269 #[.val (.long q1), .second, .val (.int p2), .val (.int p3), .val (.int p4), .val (.int (1 : Int32)), .val (.int (3 : Int32)), .val (.ref b_1), .val (.ref b_2), .val (.ref b_10), .val (.ref b_13), .val (.ref b_16), .val (.ref b_20), .val (.ref b_2), .val (.ref b_20), .val (.ref r_187), .val (.int (1 : Int32))] [(.ref b_2), (.ref b_2), (.int (10 : Int32)), (.ref b_2)])) rfl rfl (hb hby at_269) _ ?_
        rw [len_of s_199 m_199]
        exact kt
      refine own_go (T' := T_196) (g' := (mkF m 272 #[.val (.long q1), .second, .val (.int p2), .val (.int p3), .val (.int p4), .val (.int (1 : Int32)), .val (.int (3 : Int32)), .val (.ref b_1), .val (.ref b_2), .val (.ref b_10), .val (.ref b_13), .val (.ref b_16), .val (.ref b_20), .val (.ref b_2), .val (.ref b_20), .val (.ref r_187), .val (.int (1 : Int32))] [(.int (10 : Int32)), (.ref b_2), (.int (10 : Int32)), (.ref b_2)])) (fun t kt => ?_) ?_
      · show Steps p.tables e below (T_196.setTop (mkF m 270 #[.val (.long q1), .second, .val (.int p2), .val (.int p3), .val (.int p4), .val (.int (1 : Int32)), .val (.int (3 : Int32)), .val (.ref b_1), .val (.ref b_2), .val (.ref b_10), .val (.ref b_13), .val (.ref b_16), .val (.ref b_20), .val (.ref b_2), .val (.ref b_20), .val (.ref r_187), .val (.int (1 : Int32))] [(.int (11 : Int32)), (.ref b_2), (.int (10 : Int32)), (.ref b_2)])) t
        refine XS.iconst X_196.here hx rfl (hb hby at_270) ?_
        show Steps p.tables e below (T_196.setTop (mkF m 271 #[.val (.long q1), .second, .val (.int p2), .val (.int p3), .val (.int p4), .val (.int (1 : Int32)), .val (.int (3 : Int32)), .val (.ref b_1), .val (.ref b_2), .val (.ref b_10), .val (.ref b_13), .val (.ref b_16), .val (.ref b_20), .val (.ref b_2), .val (.ref b_20), .val (.ref r_187), .val (.int (1 : Int32))] [(.int (1 : Int32)), (.int (11 : Int32)), (.ref b_2), (.int (10 : Int32)), (.ref b_2)])) t
        refine XS.isub X_196.here hx rfl (hb hby at_271) rfl ?_
        exact kt
      have vq_200 := f_197
      obtain ⟨c_200, a_200, q_200, s_200, m_200, H_200, G_200⟩ := vq_200
      have hin_200 : ¬ ((10 : Int32) < 0 ∨ c_200.slots.size ≤ ((10 : Int32)).toNatClampNeg) := inb_of s_200 ⟨by decide, by decide⟩
      have hat_200 : c_200.slots[((10 : Int32)).toNatClampNeg]? = some (.int (own_b0 q1)) := H_200.at hin_200 rfl
      refine own_go (T' := T_196) (g' := (mkF m 273 #[.val (.long q1), .second, .val (.int p2), .val (.int p3), .val (.int p4), .val (.int (1 : Int32)), .val (.int (3 : Int32)), .val (.ref b_1), .val (.ref b_2), .val (.ref b_10), .val (.ref b_13), .val (.ref b_16), .val (.ref b_20), .val (.ref b_2), .val (.ref b_20), .val (.ref r_187), .val (.int (1 : Int32))] [(.int (own_b0 q1)), (.int (10 : Int32)), (.ref b_2)])) (fun t kt => ?_) ?_
      · refine X_196.baloadBytes hx (j := (10 : Int32)) (v := (.int (own_b0 q1))) (by rw [e_196]; exact a_200.1) (State.isArrayOf_alike hZ.alike a_200.2.1) a_200.2.2 hin_200 hat_200 (g := (mkF m 272 #[.val (.long q1), .second, .val (.int p2), .val (.int p3), .val (.int p4), .val (.int (1 : Int32)), .val (.int (3 : Int32)), .val (.ref b_1), .val (.ref b_2), .val (.ref b_10), .val (.ref b_13), .val (.ref b_16), .val (.ref b_20), .val (.ref b_2), .val (.ref b_20), .val (.ref r_187), .val (.int (1 : Int32))] [(.int (10 : Int32)), (.ref b_2), (.int (10 : Int32)), (.ref b_2)])) rfl rfl (hb hby at_272) _ ?_
        exact kt
      refine own_go (T' := T_196) (g' := (mkF m 276 #[.val (.long q1), .second, .val (.int p2), .val (.int p3), .val (.int p4), .val (.int (1 : Int32)), .val (.int (3 : Int32)), .val (.ref b_1), .val (.ref b_2), .val (.ref b_10), .val (.ref b_13), .val (.ref b_16), .val (.ref b_20), .val (.ref b_2), .val (.ref b_20), .val (.ref r_187), .val (.int (1 : Int32))] [(.int (((own_b0 q1) ^^^ (1 : Int32)).toInt8.toInt32)), (.int (10 : Int32)), (.ref b_2)])) (fun t kt => ?_) ?_
      · show Steps p.tables e below (T_196.setTop (mkF m 273 #[.val (.long q1), .second, .val (.int p2), .val (.int p3), .val (.int p4), .val (.int (1 : Int32)), .val (.int (3 : Int32)), .val (.ref b_1), .val (.ref b_2), .val (.ref b_10), .val (.ref b_13), .val (.ref b_16), .val (.ref b_20), .val (.ref b_2), .val (.ref b_20), .val (.ref r_187), .val (.int (1 : Int32))] [(.int (own_b0 q1)), (.int (10 : Int32)), (.ref b_2)])) t
        refine XS.iconst X_196.here hx rfl (hb hby at_273) ?_
        show Steps p.tables e below (T_196.setTop (mkF m 274 #[.val (.long q1), .second, .val (.int p2), .val (.int p3), .val (.int p4), .val (.int (1 : Int32)), .val (.int (3 : Int32)), .val (.ref b_1), .val (.ref b_2), .val (.ref b_10), .val (.ref b_13), .val (.ref b_16), .val (.ref b_20), .val (.ref b_2), .val (.ref b_20), .val (.ref r_187), .val (.int (1 : Int32))] [(.int (1 : Int32)), (.int (own_b0 q1)), (.int (10 : Int32)), (.ref b_2)])) t
        refine XS.ixor X_196.here hx rfl (hb hby at_274) rfl ?_
        show Steps p.tables e below (T_196.setTop (mkF m 275 #[.val (.long q1), .second, .val (.int p2), .val (.int p3), .val (.int p4), .val (.int (1 : Int32)), .val (.int (3 : Int32)), .val (.ref b_1), .val (.ref b_2), .val (.ref b_10), .val (.ref b_13), .val (.ref b_16), .val (.ref b_20), .val (.ref b_2), .val (.ref b_20), .val (.ref r_187), .val (.int (1 : Int32))] [(.int ((own_b0 q1) ^^^ (1 : Int32))), (.int (10 : Int32)), (.ref b_2)])) t
        refine XS.i2b X_196.here hx rfl (hb hby at_275) rfl ?_
        exact kt
      have vq_201 := f_197
      obtain ⟨c_201, a_201, q_201, s_201, m_201, H_201, G_201⟩ := vq_201
      have hin_201 : ¬ ((10 : Int32) < 0 ∨ c_201.slots.size ≤ ((10 : Int32)).toNatClampNeg) := inb_of s_201 ⟨by decide, by decide⟩
      obtain ⟨T_201, h_201, X_201, e_201, W_201, st_201⟩ := stB X_196 hx hZ e_196 a_201 (j := (10 : Int32)) hin_201 (g := (mkF m 276 #[.val (.long q1), .second, .val (.int p2), .val (.int p3), .val (.int p4), .val (.int (1 : Int32)), .val (.int (3 : Int32)), .val (.ref b_1), .val (.ref b_2), .val (.ref b_10), .val (.ref b_13), .val (.ref b_16), .val (.ref b_20), .val (.ref b_2), .val (.ref b_20), .val (.ref r_187), .val (.int (1 : Int32))] [(.int (((own_b0 q1) ^^^ (1 : Int32)).toInt8.toInt32)), (.int (10 : Int32)), (.ref b_2)])) rfl rfl (hb hby at_276)
      have V_201 : Arv Z h_201 b_2 k_2 .byte (11 : Int32) [(.int (nar .byte (p2.toInt8.toInt32))), (.int (nar .byte (((p2.toUInt32 >>> ((8 : Int32) &&& 31).toUInt32).toInt32).toInt8.toInt32))), (.int (nar .byte (((p2.toUInt32 >>> ((16 : Int32) &&& 31).toUInt32).toInt32).toInt8.toInt32))), (.int (own_by q1 56)), (.int (own_by q1 48)), (.int (own_by q1 40)), (.int (own_by q1 32)), (.int (own_by q1 24)), (.int (own_by q1 16)), (.int (own_by q1 8)), (.int (nar .byte (((own_b0 q1) ^^^ (1 : Int32)).toInt8.toInt32)))] (.int (0 : Int32)) := Arv.set a_201 q_201 s_201 m_201 H_201 G_201 (fits_nar_byte _) W_201 10 rfl (Nat.le_of_ble_eq_true rfl)
      have Z_201 : n0 ≤ h_201.size := Nat.le_trans Z_187 (Keep.of_wr W_201).1
      have N_201 := Fr.snoc X_201 N_196 g_b_2
      refine own_go (g' := (mkF m 277 #[.val (.long q1), .second, .val (.int p2), .val (.int p3), .val (.int p4), .val (.int (1 : Int32)), .val (.int (3 : Int32)), .val (.ref b_1), .val (.ref b_2), .val (.ref b_10), .val (.ref b_13), .val (.ref b_16), .val (.ref b_20), .val (.ref b_2), .val (.ref b_20), .val (.ref r_187), .val (.int (1 : Int32))] [])) st_201 ?_
      refine own_go (T' := T_201) (g' := (mkF m 288 #[.val (.long q1), .second, .val (.int p2), .val (.int p3), .val (.int p4), .val (.int (1 : Int32)), .val (.int (3 : Int32)), .val (.ref b_1), .val (.ref b_2), .val (.ref b_10), .val (.ref b_13), .val (.ref b_16), .val (.ref b_20), .val (.ref b_2), .val (.ref b_20), .val (.ref r_187), .val (.int (1 : Int32))] [(.int (0 : Int32)), (.ref b_20), (.int (0 : Int32)), (.ref b_20)])) (fun t kt => ?_) ?_
      · show Steps p.tables e below (T_201.setTop (mkF m 277 #[.val (.long q1), .second, .val (.int p2), .val (.int p3), .val (.int p4), .val (.int (1 : Int32)), .val (.int (3 : Int32)), .val (.ref b_1), .val (.ref b_2), .val (.ref b_10), .val (.ref b_13), .val (.ref b_16), .val (.ref b_20), .val (.ref b_2), .val (.ref b_20), .val (.ref r_187), .val (.int (1 : Int32))] [])) t
        refine XS.iload X_201.here hx rfl (hb hby at_277) rfl ?_
        show Steps p.tables e below (T_201.setTop (mkF m 279 #[.val (.long q1), .second, .val (.int p2), .val (.int p3), .val (.int p4), .val (.int (1 : Int32)), .val (.int (3 : Int32)), .val (.ref b_1), .val (.ref b_2), .val (.ref b_10), .val (.ref b_13), .val (.ref b_16), .val (.ref b_20), .val (.ref b_2), .val (.ref b_20), .val (.ref r_187), .val (.int (1 : Int32))] [(.int (3 : Int32))])) t
        refine XS.ifNo X_201.here hx rfl (hb hby at_279) rfl ((if0 _ _).trans (tlt (by decide : (0 : Int32) < (3 : Int32))).2.2.2) ?_
        show Steps p.tables e below (T_201.setTop (mkF m 282 #[.val (.long q1), .second, .val (.int p2), .val (.int p3), .val (.int p4), .val (.int (1 : Int32)), .val (.int (3 : Int32)), .val (.ref b_1), .val (.ref b_2), .val (.ref b_10), .val (.ref b_13), .val (.ref b_16), .val (.ref b_20), .val (.ref b_2), .val (.ref b_20), .val (.ref r_187), .val (.int (1 : Int32))] [])) t
        refine XS.aload X_201.here hx rfl (hb hby at_282) rfl rfl ?_
        show Steps p.tables e below (T_201.setTop (mkF m 284 #[.val (.long q1), .second, .val (.int p2), .val (.int p3), .val (.int p4), .val (.int (1 : Int32)), .val (.int (3 : Int32)), .val (.ref b_1), .val (.ref b_2), .val (.ref b_10), .val (.ref b_13), .val (.ref b_16), .val (.ref b_20), .val (.ref b_2), .val (.ref b_20), .val (.ref r_187), .val (.int (1 : Int32))] [(.ref b_20)])) t
        refine XS.iconst X_201.here hx rfl (hb hby at_284) ?_
        show Steps p.tables e below (T_201.setTop (mkF m 285 #[.val (.long q1), .second, .val (.int p2), .val (.int p3), .val (.int p4), .val (.int (1 : Int32)), .val (.int (3 : Int32)), .val (.ref b_1), .val (.ref b_2), .val (.ref b_10), .val (.ref b_13), .val (.ref b_16), .val (.ref b_20), .val (.ref b_2), .val (.ref b_20), .val (.ref r_187), .val (.int (1 : Int32))] [(.int (0 : Int32)), (.ref b_20)])) t
        refine XS.aload X_201.here hx rfl (hb hby at_285) rfl rfl ?_
        show Steps p.tables e below (T_201.setTop (mkF m 287 #[.val (.long q1), .second, .val (.int p2), .val (.int p3), .val (.int p4), .val (.int (1 : Int32)), .val (.int (3 : Int32)), .val (.ref b_1), .val (.ref b_2), .val (.ref b_10), .val (.ref b_13), .val (.ref b_16), .val (.ref b_20), .val (.ref b_2), .val (.ref b_20), .val (.ref r_187), .val (.int (1 : Int32))] [(.ref b_20), (.int (0 : Int32)), (.ref b_20)])) t
        refine XS.iconst X_201.here hx rfl (hb hby at_287) ?_
        exact kt
      have f_203 := ((V_33.keep K_187 nin0).other W_201 (Ne.symm ne_b_2_b_20))
      have vq_202 := f_203
      obtain ⟨c_202, a_202, q_202, s_202, m_202, H_202, G_202⟩ := vq_202
      have hin_202 : ¬ ((0 : Int32) < 0 ∨ c_202.slots.size ≤ ((0 : Int32)).toNatClampNeg) := inb_of s_202 ⟨by decide, by decide⟩
      have hat_202 : c_202.slots[((0 : Int32)).toNatClampNeg]? = some (.int (nar .byte (p3.toInt8.toInt32))) := H_202.at hin_202 rfl
      refine own_go (T' := T_201) (g' := (mkF m 289 #[.val (.long q1), .second, .val (.int p2), .val (.int p3), .val (.int p4), .val (.int (1 : Int32)), .val (.int (3 : Int32)), .val (.ref b_1), .val (.ref b_2), .val (.ref b_10), .val (.ref b_13), .val (.ref b_16), .val (.ref b_20), .val (.ref b_2), .val (.ref b_20), .val (.ref r_187), .val (.int (1 : Int32))] [(.int (nar .byte (p3.toInt8.toInt32))), (.int (0 : Int32)), (.ref b_20)])) (fun t kt => ?_) ?_
      · refine X_201.baloadBytes hx (j := (0 : Int32)) (v := (.int (nar .byte (p3.toInt8.toInt32)))) (by rw [e_201]; exact a_202.1) (State.isArrayOf_alike hZ.alike a_202.2.1) a_202.2.2 hin_202 hat_202 (g := (mkF m 288 #[.val (.long q1), .second, .val (.int p2), .val (.int p3), .val (.int p4), .val (.int (1 : Int32)), .val (.int (3 : Int32)), .val (.ref b_1), .val (.ref b_2), .val (.ref b_10), .val (.ref b_13), .val (.ref b_16), .val (.ref b_20), .val (.ref b_2), .val (.ref b_20), .val (.ref r_187), .val (.int (1 : Int32))] [(.int (0 : Int32)), (.ref b_20), (.int (0 : Int32)), (.ref b_20)])) rfl rfl (hb hby at_288) _ ?_
        exact kt
      refine own_go (T' := T_201) (g' := (mkF m 292 #[.val (.long q1), .second, .val (.int p2), .val (.int p3), .val (.int p4), .val (.int (1 : Int32)), .val (.int (3 : Int32)), .val (.ref b_1), .val (.ref b_2), .val (.ref b_10), .val (.ref b_13), .val (.ref b_16), .val (.ref b_20), .val (.ref b_2), .val (.ref b_20), .val (.ref r_187), .val (.int (1 : Int32))] [(.int (((nar .byte (p3.toInt8.toInt32)) ^^^ (1 : Int32)).toInt8.toInt32)), (.int (0 : Int32)), (.ref b_20)])) (fun t kt => ?_) ?_
      · show Steps p.tables e below (T_201.setTop (mkF m 289 #[.val (.long q1), .second, .val (.int p2), .val (.int p3), .val (.int p4), .val (.int (1 : Int32)), .val (.int (3 : Int32)), .val (.ref b_1), .val (.ref b_2), .val (.ref b_10), .val (.ref b_13), .val (.ref b_16), .val (.ref b_20), .val (.ref b_2), .val (.ref b_20), .val (.ref r_187), .val (.int (1 : Int32))] [(.int (nar .byte (p3.toInt8.toInt32))), (.int (0 : Int32)), (.ref b_20)])) t
        refine XS.iconst X_201.here hx rfl (hb hby at_289) ?_
        show Steps p.tables e below (T_201.setTop (mkF m 290 #[.val (.long q1), .second, .val (.int p2), .val (.int p3), .val (.int p4), .val (.int (1 : Int32)), .val (.int (3 : Int32)), .val (.ref b_1), .val (.ref b_2), .val (.ref b_10), .val (.ref b_13), .val (.ref b_16), .val (.ref b_20), .val (.ref b_2), .val (.ref b_20), .val (.ref r_187), .val (.int (1 : Int32))] [(.int (1 : Int32)), (.int (nar .byte (p3.toInt8.toInt32))), (.int (0 : Int32)), (.ref b_20)])) t
        refine XS.ixor X_201.here hx rfl (hb hby at_290) rfl ?_
        show Steps p.tables e below (T_201.setTop (mkF m 291 #[.val (.long q1), .second, .val (.int p2), .val (.int p3), .val (.int p4), .val (.int (1 : Int32)), .val (.int (3 : Int32)), .val (.ref b_1), .val (.ref b_2), .val (.ref b_10), .val (.ref b_13), .val (.ref b_16), .val (.ref b_20), .val (.ref b_2), .val (.ref b_20), .val (.ref r_187), .val (.int (1 : Int32))] [(.int ((nar .byte (p3.toInt8.toInt32)) ^^^ (1 : Int32))), (.int (0 : Int32)), (.ref b_20)])) t
        refine XS.i2b X_201.here hx rfl (hb hby at_291) rfl ?_
        exact kt
      have vq_204 := f_203
      obtain ⟨c_204, a_204, q_204, s_204, m_204, H_204, G_204⟩ := vq_204
      have hin_204 : ¬ ((0 : Int32) < 0 ∨ c_204.slots.size ≤ ((0 : Int32)).toNatClampNeg) := inb_of s_204 ⟨by decide, by decide⟩
      obtain ⟨T_204, h_204, X_204, e_204, W_204, st_204⟩ := stB X_201 hx hZ e_201 a_204 (j := (0 : Int32)) hin_204 (g := (mkF m 292 #[.val (.long q1), .second, .val (.int p2), .val (.int p3), .val (.int p4), .val (.int (1 : Int32)), .val (.int (3 : Int32)), .val (.ref b_1), .val (.ref b_2), .val (.ref b_10), .val (.ref b_13), .val (.ref b_16), .val (.ref b_20), .val (.ref b_2), .val (.ref b_20), .val (.ref r_187), .val (.int (1 : Int32))] [(.int (((nar .byte (p3.toInt8.toInt32)) ^^^ (1 : Int32)).toInt8.toInt32)), (.int (0 : Int32)), (.ref b_20)])) rfl rfl (hb hby at_292)
      have V_204 : Arv Z h_204 b_20 k_20 .byte (3 : Int32) [(.int (nar .byte (((nar .byte (p3.toInt8.toInt32)) ^^^ (1 : Int32)).toInt8.toInt32))), (.int (nar .byte (((p3.toUInt32 >>> ((8 : Int32) &&& 31).toUInt32).toInt32).toInt8.toInt32))), (.int (nar .byte (((p3.toUInt32 >>> ((16 : Int32) &&& 31).toUInt32).toInt32).toInt8.toInt32)))] (.int (0 : Int32)) := Arv.set a_204 q_204 s_204 m_204 H_204 G_204 (fits_nar_byte _) W_204 0 rfl (Nat.le_of_ble_eq_true rfl)
      have Z_204 : n0 ≤ h_204.size := Nat.le_trans Z_201 (Keep.of_wr W_204).1
      have N_204 := Fr.snoc X_204 N_201 g_b_20
      refine own_go (g' := (mkF m 293 #[.val (.long q1), .second, .val (.int p2), .val (.int p3), .val (.int p4), .val (.int (1 : Int32)), .val (.int (3 : Int32)), .val (.ref b_1), .val (.ref b_2), .val (.ref b_10), .val (.ref b_13), .val (.ref b_16), .val (.ref b_20), .val (.ref b_2), .val (.ref b_20), .val (.ref r_187), .val (.int (1 : Int32))] [])) st_204 ?_
      refine own_go (T' := T_204) (g' := (mkF m 297 #[.val (.long q1), .second, .val (.int p2), .val (.int p3), .val (.int p4), .val (.int (1 : Int32)), .val (.int (3 : Int32)), .val (.ref b_1), .val (.ref b_2), .val (.ref b_10), .val (.ref b_13), .val (.ref b_16), .val (.ref b_20), .val (.ref b_2), .val (.ref b_20), .val (.ref r_187), .val (.int (1 : Int32))] [(.int (7 : Int32)), (.ref r_187)])) (fun t kt => ?_) ?_
      · show Steps p.tables e below (T_204.setTop (mkF m 293 #[.val (.long q1), .second, .val (.int p2), .val (.int p3), .val (.int p4), .val (.int (1 : Int32)), .val (.int (3 : Int32)), .val (.ref b_1), .val (.ref b_2), .val (.ref b_10), .val (.ref b_13), .val (.ref b_16), .val (.ref b_20), .val (.ref b_2), .val (.ref b_20), .val (.ref r_187), .val (.int (1 : Int32))] [])) t
        refine XS.aload X_204.here hx rfl (hb hby at_293) rfl rfl ?_
        show Steps p.tables e below (T_204.setTop (mkF m 295 #[.val (.long q1), .second, .val (.int p2), .val (.int p3), .val (.int p4), .val (.int (1 : Int32)), .val (.int (3 : Int32)), .val (.ref b_1), .val (.ref b_2), .val (.ref b_10), .val (.ref b_13), .val (.ref b_16), .val (.ref b_20), .val (.ref b_2), .val (.ref b_20), .val (.ref r_187), .val (.int (1 : Int32))] [(.ref r_187)])) t
        refine XS.bipush X_204.here hx rfl (hb hby at_295) ?_
        exact kt
      have f_206 := ((V_187.other W_201 (Ne.symm ne_b_2_r_187)).other W_204 (Ne.symm ne_b_20_r_187))
      have vq_205 := f_206
      obtain ⟨c_205, a_205, q_205, s_205, m_205, H_205, G_205⟩ := vq_205
      have hin_205 : ¬ ((7 : Int32) < 0 ∨ c_205.slots.size ≤ ((7 : Int32)).toNatClampNeg) := inb_of s_205 ⟨by decide, by decide⟩
      have hat_205 : c_205.slots[((7 : Int32)).toNatClampNeg]? = some (.int (own_b0 q1)) := H_205.at hin_205 rfl
      refine own_go (T' := T_204) (g' := (mkF m 298 #[.val (.long q1), .second, .val (.int p2), .val (.int p3), .val (.int p4), .val (.int (1 : Int32)), .val (.int (3 : Int32)), .val (.ref b_1), .val (.ref b_2), .val (.ref b_10), .val (.ref b_13), .val (.ref b_16), .val (.ref b_20), .val (.ref b_2), .val (.ref b_20), .val (.ref r_187), .val (.int (1 : Int32))] [(.int (own_b0 q1))])) (fun t kt => ?_) ?_
      · refine X_204.baloadBytes hx (j := (7 : Int32)) (v := (.int (own_b0 q1))) (by rw [e_204]; exact a_205.1) (State.isArrayOf_alike hZ.alike a_205.2.1) a_205.2.2 hin_205 hat_205 (g := (mkF m 297 #[.val (.long q1), .second, .val (.int p2), .val (.int p3), .val (.int p4), .val (.int (1 : Int32)), .val (.int (3 : Int32)), .val (.ref b_1), .val (.ref b_2), .val (.ref b_10), .val (.ref b_13), .val (.ref b_16), .val (.ref b_20), .val (.ref b_2), .val (.ref b_20), .val (.ref r_187), .val (.int (1 : Int32))] [(.int (7 : Int32)), (.ref r_187)])) rfl rfl (hb hby at_297) _ ?_
        exact kt
      refine own_go (T' := T_204) (g' := (mkF m 313 #[.val (.long q1), .second, .val (.int p2), .val (.int p3), .val (.int p4), .val (.int (1 : Int32)), .val (.int (3 : Int32)), .val (.ref b_1), .val (.ref b_2), .val (.ref b_10), .val (.ref b_13), .val (.ref b_16), .val (.ref b_20), .val (.ref b_2), .val (.ref b_20), .val (.ref r_187), .val (.int (1 : Int32))] [(.int (8 : Int32)), (.ref r_187)])) (fun t kt => ?_) ?_
      · show Steps p.tables e below (T_204.setTop (mkF m 298 #[.val (.long q1), .second, .val (.int p2), .val (.int p3), .val (.int p4), .val (.int (1 : Int32)), .val (.int (3 : Int32)), .val (.ref b_1), .val (.ref b_2), .val (.ref b_10), .val (.ref b_13), .val (.ref b_16), .val (.ref b_20), .val (.ref b_2), .val (.ref b_20), .val (.ref r_187), .val (.int (1 : Int32))] [(.int (own_b0 q1))])) t
        refine XS.lloadN X_204.here hx rfl (hb hby at_298) rfl ?_
        show Steps p.tables e below (T_204.setTop (mkF m 299 #[.val (.long q1), .second, .val (.int p2), .val (.int p3), .val (.int p4), .val (.int (1 : Int32)), .val (.int (3 : Int32)), .val (.ref b_1), .val (.ref b_2), .val (.ref b_10), .val (.ref b_13), .val (.ref b_16), .val (.ref b_20), .val (.ref b_2), .val (.ref b_20), .val (.ref r_187), .val (.int (1 : Int32))] [(.long q1), (.int (own_b0 q1))])) t
        refine XS.l2i X_204.here hx rfl (hb hby at_299) rfl ?_
        show Steps p.tables e below (T_204.setTop (mkF m 300 #[.val (.long q1), .second, .val (.int p2), .val (.int p3), .val (.int p4), .val (.int (1 : Int32)), .val (.int (3 : Int32)), .val (.ref b_1), .val (.ref b_2), .val (.ref b_10), .val (.ref b_13), .val (.ref b_16), .val (.ref b_20), .val (.ref b_2), .val (.ref b_20), .val (.ref r_187), .val (.int (1 : Int32))] [(.int (q1.toInt32)), (.int (own_b0 q1))])) t
        refine XS.i2b X_204.here hx rfl (hb hby at_300) rfl ?_
        show Steps p.tables e below (T_204.setTop (mkF m 301 #[.val (.long q1), .second, .val (.int p2), .val (.int p3), .val (.int p4), .val (.int (1 : Int32)), .val (.int (3 : Int32)), .val (.ref b_1), .val (.ref b_2), .val (.ref b_10), .val (.ref b_13), .val (.ref b_16), .val (.ref b_20), .val (.ref b_2), .val (.ref b_20), .val (.ref r_187), .val (.int (1 : Int32))] [(.int ((q1.toInt32).toInt8.toInt32)), (.int (own_b0 q1))])) t
        refine XS.icmpNo X_204.here hx rfl (hb hby at_301) rfl (teq (own_b0_eq q1 : (own_b0 q1) = ((q1.toInt32).toInt8.toInt32))).2 ?_
        show Steps p.tables e below (T_204.setTop (mkF m 304 #[.val (.long q1), .second, .val (.int p2), .val (.int p3), .val (.int p4), .val (.int (1 : Int32)), .val (.int (3 : Int32)), .val (.ref b_1), .val (.ref b_2), .val (.ref b_10), .val (.ref b_13), .val (.ref b_16), .val (.ref b_20), .val (.ref b_2), .val (.ref b_20), .val (.ref r_187), .val (.int (1 : Int32))] [])) t
        refine XS.iload X_204.here hx rfl (hb hby at_304) rfl ?_
        show Steps p.tables e below (T_204.setTop (mkF m 306 #[.val (.long q1), .second, .val (.int p2), .val (.int p3), .val (.int p4), .val (.int (1 : Int32)), .val (.int (3 : Int32)), .val (.ref b_1), .val (.ref b_2), .val (.ref b_10), .val (.ref b_13), .val (.ref b_16), .val (.ref b_20), .val (.ref b_2), .val (.ref b_20), .val (.ref r_187), .val (.int (1 : Int32))] [(.int (3 : Int32))])) t
        refine XS.ifNo X_204.here hx rfl (hb hby at_306) rfl ((if0 _ _).trans (feq (by decide : ¬ ((3 : Int32) = (0 : Int32)))).1) ?_
        show Steps p.tables e below (T_204.setTop (mkF m 309 #[.val (.long q1), .second, .val (.int p2), .val (.int p3), .val (.int p4), .val (.int (1 : Int32)), .val (.int (3 : Int32)), .val (.ref b_1), .val (.ref b_2), .val (.ref b_10), .val (.ref b_13), .val (.ref b_16), .val (.ref b_20), .val (.ref b_2), .val (.ref b_20), .val (.ref r_187), .val (.int (1 : Int32))] [])) t
        refine XS.aload X_204.here hx rfl (hb hby at_309) rfl rfl ?_
        show Steps p.tables e below (T_204.setTop (mkF m 311 #[.val (.long q1), .second, .val (.int p2), .val (.int p3), .val (.int p4), .val (.int (1 : Int32)), .val (.int (3 : Int32)), .val (.ref b_1), .val (.ref b_2), .val (.ref b_10), .val (.ref b_13), .val (.ref b_16), .val (.ref b_20), .val (.ref b_2), .val (.ref b_20), .val (.ref r_187), .val (.int (1 : Int32))] [(.ref r_187)])) t
        refine XS.bipush X_204.here hx rfl (hb hby at_311) ?_
        exact kt
      have vq_207 := f_206
      obtain ⟨c_207, a_207, q_207, s_207, m_207, H_207, G_207⟩ := vq_207
      have hin_207 : ¬ ((8 : Int32) < 0 ∨ c_207.slots.size ≤ ((8 : Int32)).toNatClampNeg) := inb_of s_207 ⟨by decide, by decide⟩
      have hat_207 : c_207.slots[((8 : Int32)).toNatClampNeg]? = some (.int (nar .byte (p3.toInt8.toInt32))) := H_207.at hin_207 rfl
      refine own_go (T' := T_204) (g' := (mkF m 314 #[.val (.long q1), .second, .val (.int p2), .val (.int p3), .val (.int p4), .val (.int (1 : Int32)), .val (.int (3 : Int32)), .val (.ref b_1), .val (.ref b_2), .val (.ref b_10), .val (.ref b_13), .val (.ref b_16), .val (.ref b_20), .val (.ref b_2), .val (.ref b_20), .val (.ref r_187), .val (.int (1 : Int32))] [(.int (nar .byte (p3.toInt8.toInt32)))])) (fun t kt => ?_) ?_
      · refine X_204.baloadBytes hx (j := (8 : Int32)) (v := (.int (nar .byte (p3.toInt8.toInt32)))) (by rw [e_204]; exact a_207.1) (State.isArrayOf_alike hZ.alike a_207.2.1) a_207.2.2 hin_207 hat_207 (g := (mkF m 313 #[.val (.long q1), .second, .val (.int p2), .val (.int p3), .val (.int p4), .val (.int (1 : Int32)), .val (.int (3 : Int32)), .val (.ref b_1), .val (.ref b_2), .val (.ref b_10), .val (.ref b_13), .val (.ref b_16), .val (.ref b_20), .val (.ref b_2), .val (.ref b_20), .val (.ref r_187), .val (.int (1 : Int32))] [(.int (8 : Int32)), (.ref r_187)])) rfl rfl (hb hby at_313) _ ?_
        exact kt
      refine own_go (T' := T_204) (g' := (mkF m 324 #[.val (.long q1), .second, .val (.int p2), .val (.int p3), .val (.int p4), .val (.int (1 : Int32)), .val (.int (3 : Int32)), .val (.ref b_1), .val (.ref b_2), .val (.ref b_10), .val (.ref b_13), .val (.ref b_16), .val (.ref b_20), .val (.ref b_2), .val (.ref b_20), .val (.ref r_187), .val (.int (1 : Int32))] [(.int (1 : Int32))])) (fun t kt => ?_) ?_
      · show Steps p.tables e below (T_204.setTop (mkF m 314 #[.val (.long q1), .second, .val (.int p2), .val (.int p3), .val (.int p4), .val (.int (1 : Int32)), .val (.int (3 : Int32)), .val (.ref b_1), .val (.ref b_2), .val (.ref b_10), .val (.ref b_13), .val (.ref b_16), .val (.ref b_20), .val (.ref b_2), .val (.ref b_20), .val (.ref r_187), .val (.int (1 : Int32))] [(.int (nar .byte (p3.toInt8.toInt32)))])) t
        refine XS.iloadN X_204.here hx rfl (hb hby at_314) rfl ?_
        show Steps p.tables e below (T_204.setTop (mkF m 315 #[.val (.long q1), .second, .val (.int p2), .val (.int p3), .val (.int p4), .val (.int (1 : Int32)), .val (.int (3 : Int32)), .val (.ref b_1), .val (.ref b_2), .val (.ref b_10), .val (.ref b_13), .val (.ref b_16), .val (.ref b_20), .val (.ref b_2), .val (.ref b_20), .val (.ref r_187), .val (.int (1 : Int32))] [(.int p3), (.int (nar .byte (p3.toInt8.toInt32)))])) t
        refine XS.i2b X_204.here hx rfl (hb hby at_315) rfl ?_
        show Steps p.tables e below (T_204.setTop (mkF m 316 #[.val (.long q1), .second, .val (.int p2), .val (.int p3), .val (.int p4), .val (.int (1 : Int32)), .val (.int (3 : Int32)), .val (.ref b_1), .val (.ref b_2), .val (.ref b_10), .val (.ref b_13), .val (.ref b_16), .val (.ref b_20), .val (.ref b_2), .val (.ref b_20), .val (.ref r_187), .val (.int (1 : Int32))] [(.int (p3.toInt8.toInt32)), (.int (nar .byte (p3.toInt8.toInt32)))])) t
        refine XS.icmpNo X_204.here hx rfl (hb hby at_316) rfl (teq (own_nar _ : (nar .byte (p3.toInt8.toInt32)) = (p3.toInt8.toInt32))).2 ?_
        show Steps p.tables e below (T_204.setTop (mkF m 319 #[.val (.long q1), .second, .val (.int p2), .val (.int p3), .val (.int p4), .val (.int (1 : Int32)), .val (.int (3 : Int32)), .val (.ref b_1), .val (.ref b_2), .val (.ref b_10), .val (.ref b_13), .val (.ref b_16), .val (.ref b_20), .val (.ref b_2), .val (.ref b_20), .val (.ref r_187), .val (.int (1 : Int32))] [])) t
        refine XS.iconst X_204.here hx rfl (hb hby at_319) ?_
        show Steps p.tables e below (T_204.setTop (mkF m 320 #[.val (.long q1), .second, .val (.int p2), .val (.int p3), .val (.int p4), .val (.int (1 : Int32)), .val (.int (3 : Int32)), .val (.ref b_1), .val (.ref b_2), .val (.ref b_10), .val (.ref b_13), .val (.ref b_16), .val (.ref b_20), .val (.ref b_2), .val (.ref b_20), .val (.ref r_187), .val (.int (1 : Int32))] [(.int (1 : Int32))])) t
        refine XS.goto X_204.here hx rfl (pc0 := 320) (pc' := 324) rfl (hb hby at_320) (by decide) (by decide) ?_
        exact kt
      obtain ⟨fs, hr, hrun, hended, hW, hsame⟩ := X_204.leave (v := some (.int (1 : Int32))) (fun h => by rw [Bd.returns] at h; cases h)
      refine ⟨_, _, ?_, hrun, hended, _, _, rfl, ?_, ⟨_, rfl⟩, hW, hsame.mono (by decide) (by decide)⟩
      · exact retN X_204 hx (t := .boolean) Bd.returns (by simp) (hb hby at_324) hr
      · show Q_rm0 Z _ _ _ _ h0 n0 _ T_204.heap _
        rw [e_204]
        exact ⟨rfl, N_204⟩
set_option maxRecDepth 65536 in
set_option maxHeartbeats 40000000 in
theorem comes_1 {Post : Tables → Env → Array Value → State → Outcome → State → Prop} (hpost : ∀ tb e args s v u, (limb_1_1.after args s (.returned v) u = true ∧ limb_1_2.after args s (.returned v) u = true ∧ True) → FrameEnd s (.returned v) u (Jvm.fieldLocs frame_1_writes args s ++ Jvm.arrayLocs frame_1_arrays args s ++ Jvm.staticLocs frame_1_statics s) 24 192 → Post tb e args s (.returned v) u) :
    ArmFor flags0 classFile x code maxLocals ret World_1 tables_1 room_1 Calls_1 rest_1 Pre_1 Post := by
  intro l hfl _ _ p e ha hc hk s m args below hf hA hF happ hP
  obtain ⟨hcalls, hrest, hpre⟩ := hP
  obtain ⟨-, -, -, hnamed, -, -, -, hat⟩ := (Spec.applies_iff hf).mp happ
  obtain ⟨hg, hn⟩ := and_e (Cond.before_iff.mp (show (Jvm.Cond.and given_1 narrow_1).before args s = true from hpre))
  obtain ⟨u0, v0⟩ := and_e hg
  obtain ⟨u1, v1⟩ := and_e v0
  obtain ⟨u2, v2⟩ := and_e v1
  obtain ⟨u3, v3⟩ := and_e v2
  obtain ⟨w0, w1, w2, w3, rfl⟩ : ∃ w0 w1 w2 w3 : Value, args = #[w0, w1, w2, w3] := by
    have hs : args.size = 4 := by simpa [Cond.value, given_1] using u0
    obtain ⟨L⟩ := args
    match L, hs with
    | [w0, w1, w2, w3], _ => exact ⟨w0, w1, w2, w3, rfl⟩
  have hw := fun d (hd : d ∈ tables_1) => atoms_spec (ws := Jvm.Cond.code x code maxLocals ret :: tables_1) hat d (List.mem_cons_of_mem _ hd)
  obtain ⟨i0, ei0⟩ := isL_v u1
  obtain rfl : w0 = (.long i0) := Option.some.inj ei0
  obtain ⟨i1, ei1⟩ := is_v u2
  obtain rfl : w1 = (.int i1) := Option.some.inj ei1
  obtain ⟨i2, ei2⟩ := is_v u3
  obtain rfl : w2 = (.int i2) := Option.some.inj ei2
  obtain ⟨i3, ei3⟩ := is_v v3
  obtain rfl : w3 = (.int i3) := Option.some.inj ei3
  obtain ⟨n, o, h1, h2, h3, _, L, rfl, ⟨rfl, N⟩, hq⟩ := rm0 l s _ hw tables_1 i0 i1 i2 i3  s.heap s.heap.size (Nat.le_refl _)  p e ha hc hk s m _ below hf ((Spec.applies_iff_loose hf).mp happ).1 ⟨rfl, State.Warmed39.refl s, rfl⟩ trivial
  refine ⟨n, _, h1, h2, h3, hpost _ _ _ _ _ _ ⟨Cond.after_iff.mpr rfl, Cond.after_iff.mpr (eq_i res_at (Term.int_eval (1)) rfl), trivial⟩ ⟨hq.1, hq.2.1, (hq.2.2.sift fun y hy => Or.inr (N y hy)).mono (by decide) (by decide)⟩⟩
theorem main_1_1 : Claimed_1_1 := comes_1 fun _ _ _ _ _ _ h hF => ⟨h.1, hF⟩
theorem main_1_2 : Claimed_1_2 := comes_1 fun _ _ _ _ _ _ h hF => ⟨h.2.1, hF⟩
end Jvm.Pilot.@@N@@
namespace Jvm.Pilot.@@N@@
open Jvm Jvm.ClassFile Sem Op Lib Jvm.Free Jvm.Stand Jvm.Pilot.@@N@@.Jvm.D
/-! MADE BY PROGRAM (witnessworld.py) out of the Statement's table words and the real class files: 10 classes; the members and pool entries that the words name. The judged class is class 1, her method 1. -/
namespace start1
open Jvm.ClassFile
def u (s : String) : CpInfo := .utf8 (stringToUtf16 s)
/-- a pool by its gaps: so many unusable entries, then the entry; so many at the end -/
def gap : Nat → List CpInfo → List CpInfo
  | 0, r => r
  | n + 1, r => .unusable :: gap n r
def poolList (es : List (Nat × CpInfo)) (last : Nat) : List CpInfo := es.foldr (fun e r => gap e.1 (e.2 :: r)) (gap last [])
def pool (es : List (Nat × CpInfo)) (last : Nat) : Array CpInfo := ⟨poolList es last⟩
def fileOf (pool : Array CpInfo) (this : Nat) (attrs : Array Attribute := #[]) (ms : Array MethodInfo := #[]) (fl : Nat := 33) (sup : Nat := 0) (ifs : Array Nat := #[]) (fds : Array FieldInfo := #[]) : ClassFile where
  minorVersion := 0
  majorVersion := 65
  constantPool := pool
  accessFlags := fl
  thisClass := this
  superClass := sup
  interfaces := ifs
  fields := fds
  methods := ms
  attributes := attrs
def plain (name : String) (sup : Option ClassId) : Class where
  name := name
  kind := .ordinary
  loader := none
  accessFlags := 33
  super := sup
  interfaces := #[]
  cf := none
  fields := #[]
  methods := #[]
  instanceTypes := #[]
  staticTypes := #[]
  resolved := #[]
  callSites := []
  init := .initialized
  statics := none
  mirror := none

def pool0 : Array CpInfo := pool [(5, u "<init>"), (0, u "()V"), (1, .class_ 10), (1, u "java/lang/Object")] 113

def k0m0 : Method := { name := "<init>", desc := "()V", sig := { parameters := [], returnType := none }, accessFlags := 1, code := none }
/-- java/lang/Object -/
def k0 : Class := { plain "java/lang/Object" none with
  accessFlags := 33
  interfaces := #[]
  cf := some (fileOf pool0 8 #[] #[{ accessFlags := 1, nameIndex := 5, descriptorIndex := 6, attributes := #[] }] 33 0 #[] #[])
  fields := #[]
  methods := #[k0m0]
  instanceTypes := #[]
  staticTypes := #[]
  resolved := Array.replicate 124 none
  statics := none }

def pool1 : Array CpInfo := pool [(2, .class_ 4), (1, u "java/lang/Object"), (0, u "<init>"), (0, u "()V"), (0, .methodref 8 9), (0, .class_ 10), (0, .nameAndType 11 12), (0, u "com/example/thin_table/thintable/model/KeyOrderNewestValuePinLaw"), (0, u "put"), (0, u "([BIJ)V"), (0, .methodref 14 15), (0, .class_ 16), (0, .nameAndType 17 18), (0, u "com/example/thin_table/thintable/model/KeyOrder"), (0, u "newestValue"), (0, u "([B[B)[B"), (0, .methodref 8 20), (0, .nameAndType 21 22), (0, u "head"), (0, u "([BJ)Z"), (0, .methodref 8 24), (0, .nameAndType 25 26), (0, u "tail"), (0, u "([BII)Z"), (2, u "law"), (0, u "(JIII)Z")] 5

def k1m0 : Method := { name := "<init>", desc := "()V", sig := { parameters := [], returnType := none }, accessFlags := 2, code := none }
def k1c1 : Code := { maxStack := 5, maxLocals := 17, code := code, exceptionTable := #[], attributes := #[] }
def k1m1 : Method := { name := "law", desc := "(JIII)Z", sig := { parameters := [.long, .int, .int, .int], returnType := some .boolean }, accessFlags := 9, code := some k1c1 }
def k1c2 : Code := { maxStack := 5, maxLocals := 4, code := method_3_code, exceptionTable := #[], attributes := #[] }
def k1m2 : Method := { name := "put", desc := "([BIJ)V", sig := { parameters := [(.array .byte), .int, .long], returnType := none }, accessFlags := 10, code := some k1c2 }
def k1c3 : Code := { maxStack := 4, maxLocals := 3, code := method_4_code, exceptionTable := #[], attributes := #[] }
def k1m3 : Method := { name := "head", desc := "([BJ)Z", sig := { parameters := [(.array .byte), .long], returnType := some .boolean }, accessFlags := 10, code := some k1c3 }
def k1c4 : Code := { maxStack := 3, maxLocals := 3, code := method_5_code, exceptionTable := #[], attributes := #[] }
def k1m4 : Method := { name := "tail", desc := "([BII)Z", sig := { parameters := [(.array .byte), .int, .int], returnType := some .boolean }, accessFlags := 10, code := some k1c4 }
/-- com/example/thin_table/thintable/model/KeyOrderNewestValuePinLaw -/
def k1 : Class := { plain "com/example/thin_table/thintable/model/KeyOrderNewestValuePinLaw" (some 0) with
  accessFlags := 49
  interfaces := #[]
  cf := some (fileOf pool1 8 #[] #[{ accessFlags := 2, nameIndex := 5, descriptorIndex := 6, attributes := #[] }, { accessFlags := 9, nameIndex := 29, descriptorIndex := 30, attributes := #[] }, { accessFlags := 10, nameIndex := 11, descriptorIndex := 12, attributes := #[] }, { accessFlags := 10, nameIndex := 21, descriptorIndex := 22, attributes := #[] }, { accessFlags := 10, nameIndex := 25, descriptorIndex := 26, attributes := #[] }] 49 2 #[] #[])
  fields := #[]
  methods := #[k1m0, k1m1, k1m2, k1m3, k1m4]
  instanceTypes := #[]
  staticTypes := #[]
  resolved := Array.replicate 36 none
  statics := none }

def pool2 : Array CpInfo := pool [(4, .class_ 6), (1, u "java/lang/Object"), (0, u "<init>"), (0, u "()V"), (0, .class_ 10), (0, u "com/example/thin_table/thintable/model/KeyOrder"), (1, u "[B"), (47, .methodref 61 62), (0, .class_ 63), (0, .nameAndType 64 65), (0, u "java/lang/System"), (0, u "arraycopy"), (0, u "(Ljava/lang/Object;ILjava/lang/Object;II)V"), (21, .class_ 89), (1, u "com/example/thin_table/thintable/model/KeyOrder$CellReader"), (23, u "POLICY"), (59, u "LAYOUT"), (0, u "I"), (2, u "OLDEST_READ_LAYOUT"), (1, u "SETTING"), (0, u "B"), (1, u "ROW_ORDER"), (0, u "COLUMN_ORDER"), (1, u "ESCAPED_ZERO"), (1, u "END_OF_NAME"), (0, u "TIMESTAMP_BYTES"), (1, u "VERSION"), (0, u "DELETION"), (0, u "TABLE_NAME"), (0, u "Ljava/lang/String;"), (0, u "ROW_KEY"), (0, u "COLUMN_NAME"), (20, u "newestValue"), (0, u "([B[B)[B")] 37

def k2m0 : Method := { name := "<init>", desc := "()V", sig := { parameters := [], returnType := none }, accessFlags := 2, code := none }
def k2c1 : Code := { maxStack := 5, maxLocals := 3, code := prog_12_method_16_code, exceptionTable := #[], attributes := #[] }
def k2m1 : Method := { name := "newestValue", desc := "([B[B)[B", sig := { parameters := [(.array .byte), (.array .byte)], returnType := some (.array .byte) }, accessFlags := 9, code := some k2c1 }
/-- com/example/thin_table/thintable/model/KeyOrder -/
def k2 : Class := { plain "com/example/thin_table/thintable/model/KeyOrder" (some 0) with
  accessFlags := 49
  interfaces := #[]
  cf := some (fileOf pool2 9 #[.nestMembers #[87]] #[{ accessFlags := 2, nameIndex := 7, descriptorIndex := 8, attributes := #[] }, { accessFlags := 9, nameIndex := 216, descriptorIndex := 217, attributes := #[] }] 49 4 #[] #[{ accessFlags := 25, nameIndex := 173, descriptorIndex := 174, attributes := #[] }, { accessFlags := 25, nameIndex := 177, descriptorIndex := 174, attributes := #[] }, { accessFlags := 26, nameIndex := 179, descriptorIndex := 180, attributes := #[] }, { accessFlags := 26, nameIndex := 182, descriptorIndex := 180, attributes := #[] }, { accessFlags := 26, nameIndex := 183, descriptorIndex := 180, attributes := #[] }, { accessFlags := 26, nameIndex := 185, descriptorIndex := 180, attributes := #[] }, { accessFlags := 26, nameIndex := 187, descriptorIndex := 180, attributes := #[] }, { accessFlags := 26, nameIndex := 188, descriptorIndex := 174, attributes := #[] }, { accessFlags := 26, nameIndex := 190, descriptorIndex := 174, attributes := #[] }, { accessFlags := 26, nameIndex := 191, descriptorIndex := 174, attributes := #[] }, { accessFlags := 26, nameIndex := 192, descriptorIndex := 193, attributes := #[] }, { accessFlags := 26, nameIndex := 194, descriptorIndex := 193, attributes := #[] }, { accessFlags := 26, nameIndex := 195, descriptorIndex := 193, attributes := #[] }, { accessFlags := 26, nameIndex := 113, descriptorIndex := 12, attributes := #[] }])
  fields := #[{ name := "LAYOUT", type := .int, accessFlags := 25, slot := 0, constantValue := 0 }, { name := "OLDEST_READ_LAYOUT", type := .int, accessFlags := 25, slot := 1, constantValue := 0 }, { name := "SETTING", type := .byte, accessFlags := 26, slot := 2, constantValue := 0 }, { name := "ROW_ORDER", type := .byte, accessFlags := 26, slot := 3, constantValue := 0 }, { name := "COLUMN_ORDER", type := .byte, accessFlags := 26, slot := 4, constantValue := 0 }, { name := "ESCAPED_ZERO", type := .byte, accessFlags := 26, slot := 5, constantValue := 0 }, { name := "END_OF_NAME", type := .byte, accessFlags := 26, slot := 6, constantValue := 0 }, { name := "TIMESTAMP_BYTES", type := .int, accessFlags := 26, slot := 7, constantValue := 0 }, { name := "VERSION", type := .int, accessFlags := 26, slot := 8, constantValue := 0 }, { name := "DELETION", type := .int, accessFlags := 26, slot := 9, constantValue := 0 }, { name := "TABLE_NAME", type := (.object "java/lang/String"), accessFlags := 26, slot := 10, constantValue := 0 }, { name := "ROW_KEY", type := (.object "java/lang/String"), accessFlags := 26, slot := 11, constantValue := 0 }, { name := "COLUMN_NAME", type := (.object "java/lang/String"), accessFlags := 26, slot := 12, constantValue := 0 }, { name := "POLICY", type := (.array .byte), accessFlags := 26, slot := 13, constantValue := 0 }]
  methods := #[k2m0, k2m1]
  instanceTypes := #[]
  staticTypes := #[.int, .int, .byte, .byte, .byte, .byte, .byte, .int, .int, .int, (.object "java/lang/String"), (.object "java/lang/String"), (.object "java/lang/String"), (.array .byte)]
  resolved := Array.replicate 255 none
  statics := none }

def pool3 : Array CpInfo := pool [(2, .class_ 4), (1, u "java/lang/Object"), (0, u "<init>"), (0, u "()V"), (1, .class_ 10), (1, u "java/lang/System"), (0, u "allowSecurityManager"), (0, u "I"), (16, u "cons"), (0, u "Ljava/io/Console;"), (77, .class_ 110), (1, u "java/lang/System$CallersHolder"), (43, u "initialErrStream"), (0, u "Ljava/io/PrintStream;"), (19, u "security"), (0, u "Ljava/lang/SecurityManager;"), (31, .class_ 209), (0, u "java/lang/System$1"), (7, u "props"), (0, u "Ljava/util/Properties;"), (2, u "lineSeparator"), (0, u "Ljava/lang/String;"), (96, .class_ 321), (1, u "java/lang/System$LoggerFinder"), (5, .class_ 328), (0, u "java/lang/System$Logger"), (67, u "err"), (2, u "out"), (91, u "notSupportedJnuEncoding"), (15, u "in"), (17, u "initialIn"), (0, u "Ljava/io/InputStream;"), (35, u "bootLayer"), (0, u "Ljava/lang/ModuleLayer;"), (99, .class_ 664), (0, u "java/lang/System$2"), (9, u "NEVER"), (2, u "MAYBE"), (49, u "arraycopy"), (0, u "(Ljava/lang/Object;ILjava/lang/Object;II)V"), (72, .class_ 802), (0, u "java/lang/System$Logger$Level")] 31

def k3m0 : Method := { name := "<init>", desc := "()V", sig := { parameters := [], returnType := none }, accessFlags := 2, code := none }
def k3m1 : Method := { name := "arraycopy", desc := "(Ljava/lang/Object;ILjava/lang/Object;II)V", sig := { parameters := [(.object "java/lang/Object"), .int, (.object "java/lang/Object"), .int, .int], returnType := none }, accessFlags := 265, code := none }
/-- java/lang/System -/
def k3 : Class := { plain "java/lang/System" (some 0) with
  accessFlags := 49
  interfaces := #[]
  cf := some (fileOf pool3 8 #[.nestMembers #[319, 327, 801, 108, 663, 208]] #[{ accessFlags := 2, nameIndex := 5, descriptorIndex := 6, attributes := #[] }, { accessFlags := 265, nameIndex := 727, descriptorIndex := 728, attributes := #[] }] 49 2 #[] #[{ accessFlags := 25, nameIndex := 507, descriptorIndex := 526, attributes := #[] }, { accessFlags := 25, nameIndex := 399, descriptorIndex := 155, attributes := #[] }, { accessFlags := 25, nameIndex := 396, descriptorIndex := 155, attributes := #[] }, { accessFlags := 10, nameIndex := 525, descriptorIndex := 526, attributes := #[] }, { accessFlags := 26, nameIndex := 674, descriptorIndex := 12, attributes := #[] }, { accessFlags := 26, nameIndex := 677, descriptorIndex := 12, attributes := #[] }, { accessFlags := 10, nameIndex := 11, descriptorIndex := 12, attributes := #[] }, { accessFlags := 74, nameIndex := 175, descriptorIndex := 176, attributes := #[] }, { accessFlags := 10, nameIndex := 491, descriptorIndex := 222, attributes := #[] }, { accessFlags := 74, nameIndex := 29, descriptorIndex := 30, attributes := #[] }, { accessFlags := 74, nameIndex := 154, descriptorIndex := 155, attributes := #[] }, { accessFlags := 10, nameIndex := 217, descriptorIndex := 218, attributes := #[] }, { accessFlags := 10, nameIndex := 221, descriptorIndex := 222, attributes := #[] }, { accessFlags := 8, nameIndex := 562, descriptorIndex := 563, attributes := #[] }])
  fields := #[{ name := "in", type := (.object "java/io/InputStream"), accessFlags := 25, slot := 0, constantValue := 0 }, { name := "out", type := (.object "java/io/PrintStream"), accessFlags := 25, slot := 1, constantValue := 0 }, { name := "err", type := (.object "java/io/PrintStream"), accessFlags := 25, slot := 2, constantValue := 0 }, { name := "initialIn", type := (.object "java/io/InputStream"), accessFlags := 10, slot := 3, constantValue := 0 }, { name := "NEVER", type := .int, accessFlags := 26, slot := 4, constantValue := 0 }, { name := "MAYBE", type := .int, accessFlags := 26, slot := 5, constantValue := 0 }, { name := "allowSecurityManager", type := .int, accessFlags := 10, slot := 6, constantValue := 0 }, { name := "security", type := (.object "java/lang/SecurityManager"), accessFlags := 74, slot := 7, constantValue := 0 }, { name := "notSupportedJnuEncoding", type := (.object "java/lang/String"), accessFlags := 10, slot := 8, constantValue := 0 }, { name := "cons", type := (.object "java/io/Console"), accessFlags := 74, slot := 9, constantValue := 0 }, { name := "initialErrStream", type := (.object "java/io/PrintStream"), accessFlags := 74, slot := 10, constantValue := 0 }, { name := "props", type := (.object "java/util/Properties"), accessFlags := 10, slot := 11, constantValue := 0 }, { name := "lineSeparator", type := (.object "java/lang/String"), accessFlags := 10, slot := 12, constantValue := 0 }, { name := "bootLayer", type := (.object "java/lang/ModuleLayer"), accessFlags := 8, slot := 13, constantValue := 0 }]
  methods := #[k3m0, k3m1]
  instanceTypes := #[]
  staticTypes := #[(.object "java/io/InputStream"), (.object "java/io/PrintStream"), (.object "java/io/PrintStream"), (.object "java/io/InputStream"), .int, .int, .int, (.object "java/lang/SecurityManager"), (.object "java/lang/String"), (.object "java/io/Console"), (.object "java/io/PrintStream"), (.object "java/util/Properties"), (.object "java/lang/String"), (.object "java/lang/ModuleLayer")]
  resolved := Array.replicate 834 none
  statics := none }

def pool4 : Array CpInfo := pool [(1, u "java/lang/Cloneable"), (0, .class_ 1), (0, u "java/lang/Object"), (0, .class_ 3)] 3

/-- java/lang/Cloneable -/
def k4 : Class := { plain "java/lang/Cloneable" (some 0) with
  accessFlags := 1537
  interfaces := #[]
  cf := some (fileOf pool4 2 #[] #[] 1537 4 #[] #[])
  fields := #[]
  methods := #[]
  instanceTypes := #[]
  staticTypes := #[]
  resolved := Array.replicate 8 none
  statics := none }

def pool5 : Array CpInfo := pool [(1, u "java/io/Serializable"), (0, .class_ 1), (0, u "java/lang/Object"), (0, .class_ 3)] 3

/-- java/io/Serializable -/
def k5 : Class := { plain "java/io/Serializable" (some 0) with
  accessFlags := 1537
  interfaces := #[]
  cf := some (fileOf pool5 2 #[] #[] 1537 4 #[] #[])
  fields := #[]
  methods := #[]
  instanceTypes := #[]
  staticTypes := #[]
  resolved := Array.replicate 8 none
  statics := none }

/-- the primitive byte -/
def k6 : Class := { plain "byte" none with kind := .primitive 'B', accessFlags := 0x411 }
/-- [B -/
def k7 : Class := { plain "[B" (some 0) with kind := .array 6 .byte, interfaces := #[4, 5], accessFlags := 1041 }

/-- the primitive int -/
def k8 : Class := { plain "int" none with kind := .primitive 'I', accessFlags := 0x411 }
/-- [I -/
def k9 : Class := { plain "[I" (some 0) with kind := .array 8 .int, interfaces := #[4, 5], accessFlags := 1041 }

def heap : Heap := #[]
def classes : Array Class := #[k0, k1, k2, k3, k4, k5, k6, k7, k8, k9]
def interned : List (Array UInt16 × Addr) := []
def slotsUsed : Nat := 0
def theMethod : MethodId := ⟨1, 1⟩
def args0 : Array Value := #[.long 5, .int 6, .int 1, .int 2]
def aboutOver (below : List Frame) : State where
  vm := { classes := classes, interned := interned.toArray }
  heap := heap
  slotsUsed := slotsUsed
  threads := #[{ frames := .invoking theMethod args0 :: below }]
def below0 : List Frame := [.native { method := ⟨0, 0⟩, args := #[] }]
def about1 : State := aboutOver below0
def p0 : Program := .bare "" "" ""
def e0 : Env := launch0.env 0 0 0
theorem w_frames : about1.frames = Frame.invoking theMethod args0 :: below0 := rfl
set_option maxRecDepth 65536 in
theorem w_args : argsFit about1.vm theMethod args0 = true := by decide +kernel
set_option maxRecDepth 65536 in
theorem w_heap : heapFits about1 = true := by decide +kernel
set_option maxRecDepth 65536 in
theorem w_runnable : about1.curStatus? = some .runnable := by decide +kernel
set_option maxRecDepth 65536 in
theorem w_alone : about1.alone = true := by decide +kernel
set_option maxRecDepth 65536 in
theorem w_named : about1.methodNamed? x = some theMethod := by decide +kernel
set_option maxRecDepth 65536 in
theorem w_hears : about1.hears theMethod below0 = true := by decide +kernel
set_option maxRecDepth 65536 in
theorem w_ripe : about1.ripe theMethod args0 below0 = true := by decide +kernel
theorem w_running : about1.status = .running := rfl
set_option maxRecDepth 65536 in
theorem w_room : about1.hasRoom e0.platform room_1 = true :=
  launch0.hasRoom_least _ room_1 (by decide +kernel) (by decide +kernel) (by decide +kernel) (by decide +kernel) (by decide +kernel) (by decide +kernel)
theorem allAtoms_all (ts : List Jvm.Cond) (a : Array Jvm.Value) (st : Jvm.State) : (allAtoms ts).before a st = ts.all (fun c => c.before a st) := by
  induction ts with
  | nil => rfl
  | cons c t ih =>
    show (Jvm.Cond.and c (allAtoms t)).before a st = _
    rw [Jvm.Cond.before_and, ih, List.all_cons]
def words1 : List Jvm.Cond := Jvm.Cond.code x code maxLocals ret :: tables_1
/-- a 'code' word, met by the world's own term for the bytes: nothing is compared byte by byte -/
theorem code_word {y : MethodName} {bytes : ByteArray} {mx : Nat} {rt : Option FieldType} {a : Array Value} {s : State} {m : MethodId} {meth : Method} {c : Code} (h1 : s.methodNamed? y = some m) (h2 : s.vm.method? m = some meth) (h3 : meth.code = some c) (h4 : c.code = bytes)
    (h5 : (c.maxLocals == mx && c.exceptionTable.isEmpty && decide (c.maxStack ≤ mostOperands) && decide (meth.sig.returnType = rt) && !meth.locks && decide (parseMethodDescriptor y.desc = some meth.sig)) = true) : (Jvm.Cond.code y bytes mx rt).before a s = true := by
  simp only [Bool.and_eq_true, beq_iff_eq, Bool.not_eq_true', decide_eq_true_eq] at h5
  obtain ⟨⟨⟨⟨⟨g1, g2⟩, g3⟩, g4⟩, g5⟩, g6⟩ := h5
  simp [Cond.before, Cond.holds, Cond.value, h1, h2, h3, h4, g1, g2, g3, g4, g5, g6]
def isCode : Jvm.Cond → Bool
  | .code _ _ _ _ => true
  | _ => false
theorem all_split {L : List Jvm.Cond} {P : Jvm.Cond → Bool} (h1 : L.all (fun c => isCode c || P c) = true) (h2 : ∀ c ∈ L.filter isCode, P c = true) : L.all P = true := by
  refine List.all_eq_true.mpr fun c hc => ?_
  have h := List.all_eq_true.mp h1 c hc
  rcases Bool.eq_false_or_eq_true (isCode c) with hi | hi
  · exact h2 c (List.mem_filter.mpr ⟨hc, hi⟩)
  · simpa [hi] using h
set_option maxRecDepth 65536 in
theorem w_c0 : (Jvm.Cond.code x code maxLocals ret).before args0 about1 = true := code_word (m := ⟨1, 1⟩) (meth := k1m1) (c := k1c1) (by decide +kernel) rfl rfl rfl (by decide +kernel)
set_option maxRecDepth 65536 in
theorem w_c1 : (Jvm.Cond.code ({ cls := "com/example/thin_table/thintable/model/KeyOrderNewestValuePinLaw", name := "put", desc := "([BIJ)V" } : Jvm.MethodName) method_3_code (4 : Nat) (Option.none : Option Jvm.ClassFile.FieldType)).before args0 about1 = true := code_word (m := ⟨1, 2⟩) (meth := k1m2) (c := k1c2) (by decide +kernel) rfl rfl rfl (by decide +kernel)
set_option maxRecDepth 65536 in
theorem w_c2 : (Jvm.Cond.code ({ cls := "com/example/thin_table/thintable/model/KeyOrder", name := "newestValue", desc := "([B[B)[B" } : Jvm.MethodName) prog_12_method_16_code (3 : Nat) (Option.some (Jvm.ClassFile.FieldType.array Jvm.ClassFile.FieldType.byte))).before args0 about1 = true := code_word (m := ⟨2, 1⟩) (meth := k2m1) (c := k2c1) (by decide +kernel) rfl rfl rfl (by decide +kernel)
set_option maxRecDepth 65536 in
theorem w_c3 : (Jvm.Cond.code ({ cls := "com/example/thin_table/thintable/model/KeyOrderNewestValuePinLaw", name := "head", desc := "([BJ)Z" } : Jvm.MethodName) method_4_code (3 : Nat) (Option.some Jvm.ClassFile.FieldType.boolean)).before args0 about1 = true := code_word (m := ⟨1, 3⟩) (meth := k1m3) (c := k1c3) (by decide +kernel) rfl rfl rfl (by decide +kernel)
set_option maxRecDepth 65536 in
theorem w_c4 : (Jvm.Cond.code ({ cls := "com/example/thin_table/thintable/model/KeyOrderNewestValuePinLaw", name := "tail", desc := "([BII)Z" } : Jvm.MethodName) method_5_code (3 : Nat) (Option.some Jvm.ClassFile.FieldType.boolean)).before args0 about1 = true := code_word (m := ⟨1, 4⟩) (meth := k1m4) (c := k1c4) (by decide +kernel) rfl rfl rfl (by decide +kernel)
def codes1 : List Jvm.Cond := [Jvm.Cond.code x code maxLocals ret, Jvm.Cond.code ({ cls := "com/example/thin_table/thintable/model/KeyOrderNewestValuePinLaw", name := "put", desc := "([BIJ)V" } : Jvm.MethodName) method_3_code (4 : Nat) (Option.none : Option Jvm.ClassFile.FieldType), Jvm.Cond.code ({ cls := "com/example/thin_table/thintable/model/KeyOrder", name := "newestValue", desc := "([B[B)[B" } : Jvm.MethodName) prog_12_method_16_code (3 : Nat) (Option.some (Jvm.ClassFile.FieldType.array Jvm.ClassFile.FieldType.byte)), Jvm.Cond.code ({ cls := "com/example/thin_table/thintable/model/KeyOrderNewestValuePinLaw", name := "head", desc := "([BJ)Z" } : Jvm.MethodName) method_4_code (3 : Nat) (Option.some Jvm.ClassFile.FieldType.boolean), Jvm.Cond.code ({ cls := "com/example/thin_table/thintable/model/KeyOrderNewestValuePinLaw", name := "tail", desc := "([BII)Z" } : Jvm.MethodName) method_5_code (3 : Nat) (Option.some Jvm.ClassFile.FieldType.boolean)]
set_option maxRecDepth 65536 in
theorem codes_eq : words1.filter isCode = codes1 := rfl
theorem w_codes : ∀ c ∈ words1.filter isCode, c.before args0 about1 = true := by
  rw [codes_eq]
  intro c hc
  simp only [codes1, List.mem_cons, List.not_mem_nil, or_false] at hc
  rcases hc with rfl | rfl | rfl | rfl | rfl
  · exact w_c0
  · exact w_c1
  · exact w_c2
  · exact w_c3
  · exact w_c4
set_option maxRecDepth 65536 in
theorem w_t1 : words1.all (fun c => isCode c || c.before args0 about1) = true := by decide +kernel
theorem w_tables : (allAtoms (Jvm.Cond.code x code maxLocals ret :: tables_1)).before args0 about1 = true := by
  rw [allAtoms_all]
  show words1.all (fun c => c.before args0 about1) = true
  refine all_split ?_ w_codes
  rw [w_t1]
set_option maxRecDepth 65536 in
theorem w_case : (Jvm.Cond.and given_1 narrow_1).before args0 about1 = true := by decide +kernel
theorem w_applies : (headSpec (Jvm.Cond.code x code maxLocals ret :: tables_1) room_1).applies x e0.platform about1 = true :=
  (Spec.applies_iff w_frames).mpr ⟨w_running, w_runnable, w_alone, w_named, w_hears, w_ripe, w_room, w_tables⟩
theorem atStart : AtStart classFile x code maxLocals ret World_1 tables_1 room_1 Calls_1 rest_1 Pre_1 launch0 p0 e0 about1 theMethod args0 below0 :=
  ⟨lists_1, trivial, launch0.admits_env _ _ _, launch0.least_env, fairChoices_fair.cas, fairChoices_fair.clock, w_frames, w_args, w_heap, w_applies, trivial, trivial, w_case⟩
end start1
theorem witness_1 : WitnessClaimed_1 := ⟨start1.p0, start1.e0, start1.about1, start1.theMethod, start1.args0, start1.below0, start1.atStart⟩
end Jvm.Pilot.@@N@@
