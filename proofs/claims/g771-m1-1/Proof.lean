import JvmDerived
import JvmDerived.Pilot.@@N@@Statement
import JvmDerived.Pilot.@@N@@Code
set_option linter.unusedVariables false
set_option linter.unusedSimpArgs false
namespace Jvm.RoadKit
open Sem ClassFile Op Lib Jvm.Stand Jvm.Free Jvm.LawKit
section New
variable {p : Program} {l : Launch} {e : Env} {R : Room} {s : State} {m : MethodId} {args : Array Value} {below : List Frame} {meth : Method} {c : Code} {T : State} {locs : List Loc} {cells slots : Nat}
theorem retI (X : Stand p l e R s m args below meth c T locs cells slots) (hx : p.tables.exec = Jvm.exec) {pc : Nat} {Ls : Array Slot} {z : Int32} {rest : List Value} (hret : meth.sig.returnType = some .int) (hd : decode c.code pc = .ok (.ireturn, 1)) {fs : List Frame}
    (hl : ∀ (f : JFrame) (acts : List Action), f.method = m → f.locked = none → f.entered = [] → (doReturn e (T.setTop f) acts (some (.int z))).1 = T.setFrames fs) : Steps p.tables e below (T.setTop (mkF m pc Ls (.int z :: rest))) (T.setFrames fs) := by
  have hm' : T.vm.method? m = some meth := X.method'
  have hn : narrow .int (.int z) = .int z := rfl
  show Steps p.tables e below (T.setTop { method := m, pc := pc, locals := Ls, stack := _ :: rest, locked := none }) _
  jvm_step X.here [X.here.top, hx, hd, hm', hret, hn]
  first | (intro acts; rw [hl _ acts rfl rfl rfl]) | rw [hl _ _ rfl rfl rfl]
  exact Steps.refl _
end New
end Jvm.RoadKit
namespace Jvm.Pilot.@@N@@
open Jvm Jvm.ClassFile Sem Op Lib Jvm.Free Jvm.Stand Jvm.LawKit Jvm.RoadKit Bundle Jvm.Pilot.@@N@@.Jvm.D
theorem own_go {tb : Tables} {e : Env} {below : List Frame} {T T' : State} {g g' : JFrame} {P : State → Outcome → Prop} (st : ∀ t, Steps tb e below (T'.setTop g') t → Steps tb e below (T.setTop g) t) (k : ∃ s₂ o, Steps tb e below (T'.setTop g') s₂ ∧ P s₂ o) : ∃ s₂ o, Steps tb e below (T.setTop g) s₂ ∧ P s₂ o := by
  obtain ⟨s₂, o, h, r⟩ := k
  exact ⟨s₂, o, st _ h, r⟩
def own_by (t : Int64) (s : Int32) : Int32 := nar .byte ((((t.toUInt64 >>> (s &&& 0x3f).toInt64.toUInt64).toInt64).toInt32).toInt8.toInt32)
def own_b0 (t : Int64) : Int32 := nar .byte ((t.toInt32).toInt8.toInt32)
theorem own_nar (x : Int32) : nar .byte (x.toInt8.toInt32) = x.toInt8.toInt32 := by
  have a := c_i2b x
  have b := c_i2b (x.toInt8.toInt32)
  show (x.toInt8.toInt32).toInt8.toInt32 = x.toInt8.toInt32
  rw [← Int32.toInt_inj]; omega
def own_put (vs : List Value) (k : Nat) (t : Int64) : List Value := ((((((((vs.set k (.int (own_by t 56))).set (k + 1) (.int (own_by t 48))).set (k + 2) (.int (own_by t 40))).set (k + 3) (.int (own_by t 32))).set (k + 4) (.int (own_by t 24))).set (k + 5) (.int (own_by t 16))).set (k + 6) (.int (own_by t 8))).set (k + 7) (.int (own_b0 t)))
theorem own_ix (p j : Int32) (k i : Nat) (hp : p.toInt = k) (hj : j.toInt = i) (hb : k + i < 1000) : (p + j).toNatClampNeg = k + i ∧ ¬ (p + j < 0) := by
  have e := c_iadd p j
  have ea := Int32.le_toInt (p + j)
  have eb := Int32.toInt_lt (p + j)
  have k0 : (0 : Int32).toInt = 0 := rfl
  rw [Int32.lt_iff_toInt_lt]
  simp only [Int32.toNatClampNeg]
  exact ⟨by omega, by omega⟩
theorem own_i0 (p : Int32) (k : Nat) (hp : p.toInt = k) : p.toNatClampNeg = k ∧ ¬ (p < 0) := by
  have k0 : (0 : Int32).toInt = 0 := rfl
  rw [Int32.lt_iff_toInt_lt]
  simp only [Int32.toNatClampNeg]
  exact ⟨by omega, by omega⟩
theorem own_inb {c : Cell} {z x : Int32} {n i : Nat} (S : c.slots.size = z.toNatClampNeg) (hz : n = z.toNatClampNeg) (hx : x.toNatClampNeg = i ∧ ¬ (x < 0)) (hi : i < n) : ¬ (x < 0 ∨ c.slots.size ≤ x.toNatClampNeg) := by
  rintro (q | q)
  · exact hx.2 q
  · rw [S, hx.1] at q; omega
theorem own_put_len (vs : List Value) (k : Nat) (t : Int64) : (own_put vs k t).length = vs.length := by
  simp only [own_put, List.length_set]
theorem own_put_out (vs : List Value) (k : Nat) (t : Int64) (i : Nat) (z : Value) (h : i < k ∨ k + 8 ≤ i) : (own_put vs k t).getD i z = vs.getD i z := by
  simp only [own_put, List.getD_eq_getElem?_getD]
  rw [List.getElem?_set_ne (by omega), List.getElem?_set_ne (by omega), List.getElem?_set_ne (by omega), List.getElem?_set_ne (by omega), List.getElem?_set_ne (by omega), List.getElem?_set_ne (by omega), List.getElem?_set_ne (by omega), List.getElem?_set_ne (by omega)]
theorem own_set_at (vs : List Value) (i : Nat) (v z : Value) (h : i < vs.length) : (vs.set i v).getD i z = v := by
  simp [List.getD_eq_getElem?_getD, h]
theorem own_set_ne (vs : List Value) (i j : Nat) (v z w : Value) (h : i ≠ j) (e : vs.getD j z = w) : (vs.set i v).getD j z = w := by
  rw [List.getD_eq_getElem?_getD, List.getElem?_set_ne h, ← List.getD_eq_getElem?_getD]; exact e
theorem own_put_0 (vs : List Value) (k : Nat) (t : Int64) (z : Value) (h : k + 8 ≤ vs.length) : (own_put vs k t).getD k z = (.int (own_by t 56)) := by
  unfold own_put
  refine own_set_ne _ _ _ _ _ _ (by omega) ?_
  refine own_set_ne _ _ _ _ _ _ (by omega) ?_
  refine own_set_ne _ _ _ _ _ _ (by omega) ?_
  refine own_set_ne _ _ _ _ _ _ (by omega) ?_
  refine own_set_ne _ _ _ _ _ _ (by omega) ?_
  refine own_set_ne _ _ _ _ _ _ (by omega) ?_
  refine own_set_ne _ _ _ _ _ _ (by omega) ?_
  exact own_set_at _ _ _ _ (by omega)
theorem own_put_1 (vs : List Value) (k : Nat) (t : Int64) (z : Value) (h : k + 8 ≤ vs.length) : (own_put vs k t).getD (k + 1) z = (.int (own_by t 48)) := by
  unfold own_put
  refine own_set_ne _ _ _ _ _ _ (by omega) ?_
  refine own_set_ne _ _ _ _ _ _ (by omega) ?_
  refine own_set_ne _ _ _ _ _ _ (by omega) ?_
  refine own_set_ne _ _ _ _ _ _ (by omega) ?_
  refine own_set_ne _ _ _ _ _ _ (by omega) ?_
  refine own_set_ne _ _ _ _ _ _ (by omega) ?_
  exact own_set_at _ _ _ _ (by simp only [List.length_set]; omega)
theorem own_put_2 (vs : List Value) (k : Nat) (t : Int64) (z : Value) (h : k + 8 ≤ vs.length) : (own_put vs k t).getD (k + 2) z = (.int (own_by t 40)) := by
  unfold own_put
  refine own_set_ne _ _ _ _ _ _ (by omega) ?_
  refine own_set_ne _ _ _ _ _ _ (by omega) ?_
  refine own_set_ne _ _ _ _ _ _ (by omega) ?_
  refine own_set_ne _ _ _ _ _ _ (by omega) ?_
  refine own_set_ne _ _ _ _ _ _ (by omega) ?_
  exact own_set_at _ _ _ _ (by simp only [List.length_set]; omega)
theorem own_put_3 (vs : List Value) (k : Nat) (t : Int64) (z : Value) (h : k + 8 ≤ vs.length) : (own_put vs k t).getD (k + 3) z = (.int (own_by t 32)) := by
  unfold own_put
  refine own_set_ne _ _ _ _ _ _ (by omega) ?_
  refine own_set_ne _ _ _ _ _ _ (by omega) ?_
  refine own_set_ne _ _ _ _ _ _ (by omega) ?_
  refine own_set_ne _ _ _ _ _ _ (by omega) ?_
  exact own_set_at _ _ _ _ (by simp only [List.length_set]; omega)
theorem own_put_4 (vs : List Value) (k : Nat) (t : Int64) (z : Value) (h : k + 8 ≤ vs.length) : (own_put vs k t).getD (k + 4) z = (.int (own_by t 24)) := by
  unfold own_put
  refine own_set_ne _ _ _ _ _ _ (by omega) ?_
  refine own_set_ne _ _ _ _ _ _ (by omega) ?_
  refine own_set_ne _ _ _ _ _ _ (by omega) ?_
  exact own_set_at _ _ _ _ (by simp only [List.length_set]; omega)
theorem own_put_5 (vs : List Value) (k : Nat) (t : Int64) (z : Value) (h : k + 8 ≤ vs.length) : (own_put vs k t).getD (k + 5) z = (.int (own_by t 16)) := by
  unfold own_put
  refine own_set_ne _ _ _ _ _ _ (by omega) ?_
  refine own_set_ne _ _ _ _ _ _ (by omega) ?_
  exact own_set_at _ _ _ _ (by simp only [List.length_set]; omega)
theorem own_put_6 (vs : List Value) (k : Nat) (t : Int64) (z : Value) (h : k + 8 ≤ vs.length) : (own_put vs k t).getD (k + 6) z = (.int (own_by t 8)) := by
  unfold own_put
  refine own_set_ne _ _ _ _ _ _ (by omega) ?_
  exact own_set_at _ _ _ _ (by simp only [List.length_set]; omega)
theorem own_put_7 (vs : List Value) (k : Nat) (t : Int64) (z : Value) (h : k + 8 ≤ vs.length) : (own_put vs k t).getD (k + 7) z = (.int (own_b0 t)) := by
  unfold own_put
  exact own_set_at _ _ _ _ (by simp only [List.length_set]; omega)
def own_pk (x0 x1 x2 x3 x4 x5 x6 x7 : Int32) : Int64 := (((((((((((x0 &&& (255 : Int32)).toInt64) <<< ((56 : Int32) &&& 0x3f).toInt64) ||| (((x1 &&& (255 : Int32)).toInt64) <<< ((48 : Int32) &&& 0x3f).toInt64)) ||| (((x2 &&& (255 : Int32)).toInt64) <<< ((40 : Int32) &&& 0x3f).toInt64)) ||| (((x3 &&& (255 : Int32)).toInt64) <<< ((32 : Int32) &&& 0x3f).toInt64)) ||| (((x4 &&& (255 : Int32)).toInt64) <<< ((24 : Int32) &&& 0x3f).toInt64)) ||| (((x5 &&& (255 : Int32)).toInt64) <<< ((16 : Int32) &&& 0x3f).toInt64)) ||| (((x6 &&& (255 : Int32)).toInt64) <<< ((8 : Int32) &&& 0x3f).toInt64)) ||| ((x7 &&& (255 : Int32)).toInt64)))
theorem own_t2 (x : Int32) (t : Int) (h : (x.toInt - t) % 256 = 0) : (x &&& (255 : Int32)).toInt64.toInt = t % 256 := by
  rw [c_i2l, c_mask x 255 8 (by decide) (by decide)]; omega
theorem own_by_i (t : Int64) (s : Int32) (k : Nat) (hk : s.toBitVec.toNat % 64 = k) (h0 : 0 < k) : ((own_by t s).toInt - (t.toInt % 18446744073709551616) / (2 ^ k : Nat)) % 256 = 0 := by
  unfold own_by
  rw [own_nar]
  have a := c_lushr t s k hk h0
  generalize ((t.toUInt64 >>> (s &&& 0x3f).toInt64.toUInt64).toInt64) = y at *
  have b := c_l2i y
  have c := c_i2b y.toInt32
  omega
theorem own_b0_i (t : Int64) : ((own_b0 t).toInt - (t.toInt % 18446744073709551616)) % 256 = 0 := by
  unfold own_b0
  rw [own_nar]
  have b := c_l2i t
  have c := c_i2b t.toInt32
  omega
theorem own_sh (x : Int64) (q : Int32) (k : Nat) (hk : q.toBitVec.toNat % 64 = k) (P : Int) (hP : ((2 ^ k : Nat) : Int) = P) (h0 : 0 ≤ x.toInt) (h1 : x.toInt < 256) (h2 : P * 256 ≤ 9223372036854775808) (h3 : 0 < P) : (x <<< (q &&& 0x3f).toInt64).toInt = x.toInt * P := by
  have a := c_lshl x q k hk
  rw [hP] at a
  have b1 := Int64.le_toInt (x <<< (q &&& 0x3f).toInt64)
  have b2 := Int64.toInt_lt (x <<< (q &&& 0x3f).toInt64)
  have m1 : 0 ≤ x.toInt * P := Int.mul_nonneg h0 (by omega)
  have m2 : x.toInt * P ≤ 255 * P := Int.mul_le_mul_of_nonneg_right (by omega) (by omega)
  generalize x.toInt * P = y at *
  omega
theorem own_m (x t : Int) (h : x = t % 256) : 0 ≤ x ∧ x < 256 := by omega
theorem own_or56 (a b : Int64) (h : a.toInt % 72057594037927936 = 0) (h0 : 0 ≤ b.toInt) (h1 : b.toInt < 72057594037927936) : (a ||| b).toInt = a.toInt + b.toInt := by
  have e := c_orL a b 56 (by decide) 72057594037927936 rfl h h0 h1
  have b1 := Int64.le_toInt (a ||| b)
  have b2 := Int64.toInt_lt (a ||| b)
  have a1 := Int64.le_toInt a
  have a2 := Int64.toInt_lt a
  omega
theorem own_or48 (a b : Int64) (h : a.toInt % 281474976710656 = 0) (h0 : 0 ≤ b.toInt) (h1 : b.toInt < 281474976710656) : (a ||| b).toInt = a.toInt + b.toInt := by
  have e := c_orL a b 48 (by decide) 281474976710656 rfl h h0 h1
  have b1 := Int64.le_toInt (a ||| b)
  have b2 := Int64.toInt_lt (a ||| b)
  have a1 := Int64.le_toInt a
  have a2 := Int64.toInt_lt a
  omega
theorem own_or40 (a b : Int64) (h : a.toInt % 1099511627776 = 0) (h0 : 0 ≤ b.toInt) (h1 : b.toInt < 1099511627776) : (a ||| b).toInt = a.toInt + b.toInt := by
  have e := c_orL a b 40 (by decide) 1099511627776 rfl h h0 h1
  have b1 := Int64.le_toInt (a ||| b)
  have b2 := Int64.toInt_lt (a ||| b)
  have a1 := Int64.le_toInt a
  have a2 := Int64.toInt_lt a
  omega
theorem own_or32 (a b : Int64) (h : a.toInt % 4294967296 = 0) (h0 : 0 ≤ b.toInt) (h1 : b.toInt < 4294967296) : (a ||| b).toInt = a.toInt + b.toInt := by
  have e := c_orL a b 32 (by decide) 4294967296 rfl h h0 h1
  have b1 := Int64.le_toInt (a ||| b)
  have b2 := Int64.toInt_lt (a ||| b)
  have a1 := Int64.le_toInt a
  have a2 := Int64.toInt_lt a
  omega
theorem own_or24 (a b : Int64) (h : a.toInt % 16777216 = 0) (h0 : 0 ≤ b.toInt) (h1 : b.toInt < 16777216) : (a ||| b).toInt = a.toInt + b.toInt := by
  have e := c_orL a b 24 (by decide) 16777216 rfl h h0 h1
  have b1 := Int64.le_toInt (a ||| b)
  have b2 := Int64.toInt_lt (a ||| b)
  have a1 := Int64.le_toInt a
  have a2 := Int64.toInt_lt a
  omega
theorem own_or16 (a b : Int64) (h : a.toInt % 65536 = 0) (h0 : 0 ≤ b.toInt) (h1 : b.toInt < 65536) : (a ||| b).toInt = a.toInt + b.toInt := by
  have e := c_orL a b 16 (by decide) 65536 rfl h h0 h1
  have b1 := Int64.le_toInt (a ||| b)
  have b2 := Int64.toInt_lt (a ||| b)
  have a1 := Int64.le_toInt a
  have a2 := Int64.toInt_lt a
  omega
theorem own_or8 (a b : Int64) (h : a.toInt % 256 = 0) (h0 : 0 ≤ b.toInt) (h1 : b.toInt < 256) : (a ||| b).toInt = a.toInt + b.toInt := by
  have e := c_orL a b 8 (by decide) 256 rfl h h0 h1
  have b1 := Int64.le_toInt (a ||| b)
  have b2 := Int64.toInt_lt (a ||| b)
  have a1 := Int64.le_toInt a
  have a2 := Int64.toInt_lt a
  omega
theorem own_dv56 (A B y : Int) (hA : A % 72057594037927936 = 0) (hB : B = y * 281474976710656) : (A + B) % 281474976710656 = 0 := by omega
theorem own_lt56 (B y : Int) (h : 0 ≤ y ∧ y < 256) (hB : B = y * 281474976710656) : 0 ≤ B ∧ B < 72057594037927936 := by omega
theorem own_q48 (T : Int) : T / 281474976710656 = 256 * (T / 72057594037927936) + T / 281474976710656 % 256 := by omega
theorem own_dv48 (A B y : Int) (hA : A % 281474976710656 = 0) (hB : B = y * 1099511627776) : (A + B) % 1099511627776 = 0 := by omega
theorem own_lt48 (B y : Int) (h : 0 ≤ y ∧ y < 256) (hB : B = y * 1099511627776) : 0 ≤ B ∧ B < 281474976710656 := by omega
theorem own_q40 (T : Int) : T / 1099511627776 = 256 * (T / 281474976710656) + T / 1099511627776 % 256 := by omega
theorem own_dv40 (A B y : Int) (hA : A % 1099511627776 = 0) (hB : B = y * 4294967296) : (A + B) % 4294967296 = 0 := by omega
theorem own_lt40 (B y : Int) (h : 0 ≤ y ∧ y < 256) (hB : B = y * 4294967296) : 0 ≤ B ∧ B < 1099511627776 := by omega
theorem own_q32 (T : Int) : T / 4294967296 = 256 * (T / 1099511627776) + T / 4294967296 % 256 := by omega
theorem own_dv32 (A B y : Int) (hA : A % 4294967296 = 0) (hB : B = y * 16777216) : (A + B) % 16777216 = 0 := by omega
theorem own_lt32 (B y : Int) (h : 0 ≤ y ∧ y < 256) (hB : B = y * 16777216) : 0 ≤ B ∧ B < 4294967296 := by omega
theorem own_q24 (T : Int) : T / 16777216 = 256 * (T / 4294967296) + T / 16777216 % 256 := by omega
theorem own_dv24 (A B y : Int) (hA : A % 16777216 = 0) (hB : B = y * 65536) : (A + B) % 65536 = 0 := by omega
theorem own_lt24 (B y : Int) (h : 0 ≤ y ∧ y < 256) (hB : B = y * 65536) : 0 ≤ B ∧ B < 16777216 := by omega
theorem own_q16 (T : Int) : T / 65536 = 256 * (T / 16777216) + T / 65536 % 256 := by omega
theorem own_dv16 (A B y : Int) (hA : A % 65536 = 0) (hB : B = y * 256) : (A + B) % 256 = 0 := by omega
theorem own_lt16 (B y : Int) (h : 0 ≤ y ∧ y < 256) (hB : B = y * 256) : 0 ≤ B ∧ B < 65536 := by omega
theorem own_q8 (T : Int) : T / 256 = 256 * (T / 65536) + T / 256 % 256 := by omega
theorem own_q0 (T : Int) : T = 256 * (T / 256) + T % 256 := by omega
theorem own_z0 (z y : Int) (h : (z - y * 72057594037927936) % 18446744073709551616 = 0) : z % 72057594037927936 = 0 := by omega
theorem own_tp (t T : Int) (hT : t % 18446744073709551616 = T) : 0 ≤ T / 72057594037927936 ∧ T / 72057594037927936 < 256 := by omega
theorem own_fin (t z0 T d7 d6 d5 d4 d3 d2 d1 y0 y1 y2 y3 y4 y5 y6 y7 : Int) (hT : t % 18446744073709551616 = T) (t1 : -9223372036854775808 ≤ t) (t2 : t < 9223372036854775808) (z1 : -9223372036854775808 ≤ z0) (z2 : z0 < 9223372036854775808) (hz : (z0 - y0 * 72057594037927936) % 18446744073709551616 = 0) (h7 : y0 = d7)
    (q6 : d6 = 256 * d7 + y1) (q5 : d5 = 256 * d6 + y2) (q4 : d4 = 256 * d5 + y3) (q3 : d3 = 256 * d4 + y4) (q2 : d2 = 256 * d3 + y5) (q1 : d1 = 256 * d2 + y6) (q0 : T = 256 * d1 + y7) (b1 : 0 ≤ y1 ∧ y1 < 256) (b2 : 0 ≤ y2 ∧ y2 < 256) (b3 : 0 ≤ y3 ∧ y3 < 256) (b4 : 0 ≤ y4 ∧ y4 < 256) (b5 : 0 ≤ y5 ∧ y5 < 256) (b6 : 0 ≤ y6 ∧ y6 < 256) (b7 : 0 ≤ y7 ∧ y7 < 256) (hs : -9223372036854775808 ≤ z0 + y1 * 281474976710656 + y2 * 1099511627776 + y3 * 4294967296 + y4 * 16777216 + y5 * 65536 + y6 * 256 + y7) (ht : z0 + y1 * 281474976710656 + y2 * 1099511627776 + y3 * 4294967296 + y4 * 16777216 + y5 * 65536 + y6 * 256 + y7 < 9223372036854775808) :
    z0 + y1 * 281474976710656 + y2 * 1099511627776 + y3 * 4294967296 + y4 * 16777216 + y5 * 65536 + y6 * 256 + y7 = t := by
  have e : T = y0 * 72057594037927936 + y1 * 281474976710656 + y2 * 1099511627776 + y3 * 4294967296 + y4 * 16777216 + y5 * 65536 + y6 * 256 + y7 := by
    clear hT t1 t2 z1 z2 hz b1 b2 b3 b4 b5 b6 b7 hs ht
    omega
  clear q6 q5 q4 q3 q2 q1 q0 b1 b2 b3 b4 b5 b6 b7 h7
  generalize hS : z0 + y1 * 281474976710656 + y2 * 1099511627776 + y3 * 4294967296 + y4 * 16777216 + y5 * 65536 + y6 * 256 + y7 = S at *
  have e2 : (S - T) % 18446744073709551616 = 0 := by
    clear hT t1 t2 z1 z2 hs ht
    omega
  clear hS e hz z1 z2
  omega
theorem own_pack (t : Int64) : own_pk (own_by t 56) (own_by t 48) (own_by t 40) (own_by t 32) (own_by t 24) (own_by t 16) (own_by t 8) (own_b0 t) = t := by
  have e0 := own_t2 _ _ (own_by_i t 56 56 (by decide) (by decide))
  rw [show ((2 ^ 56 : Nat) : Int) = 72057594037927936 from rfl] at e0
  have e1 := own_t2 _ _ (own_by_i t 48 48 (by decide) (by decide))
  rw [show ((2 ^ 48 : Nat) : Int) = 281474976710656 from rfl] at e1
  have e2 := own_t2 _ _ (own_by_i t 40 40 (by decide) (by decide))
  rw [show ((2 ^ 40 : Nat) : Int) = 1099511627776 from rfl] at e2
  have e3 := own_t2 _ _ (own_by_i t 32 32 (by decide) (by decide))
  rw [show ((2 ^ 32 : Nat) : Int) = 4294967296 from rfl] at e3
  have e4 := own_t2 _ _ (own_by_i t 24 24 (by decide) (by decide))
  rw [show ((2 ^ 24 : Nat) : Int) = 16777216 from rfl] at e4
  have e5 := own_t2 _ _ (own_by_i t 16 16 (by decide) (by decide))
  rw [show ((2 ^ 16 : Nat) : Int) = 65536 from rfl] at e5
  have e6 := own_t2 _ _ (own_by_i t 8 8 (by decide) (by decide))
  rw [show ((2 ^ 8 : Nat) : Int) = 256 from rfl] at e6
  have e7 := own_t2 _ _ (own_b0_i t)
  unfold own_pk
  generalize (own_by t 56 &&& (255 : Int32)).toInt64 = y0 at *
  generalize (own_by t 48 &&& (255 : Int32)).toInt64 = y1 at *
  generalize (own_by t 40 &&& (255 : Int32)).toInt64 = y2 at *
  generalize (own_by t 32 &&& (255 : Int32)).toInt64 = y3 at *
  generalize (own_by t 24 &&& (255 : Int32)).toInt64 = y4 at *
  generalize (own_by t 16 &&& (255 : Int32)).toInt64 = y5 at *
  generalize (own_by t 8 &&& (255 : Int32)).toInt64 = y6 at *
  generalize (own_b0 t &&& (255 : Int32)).toInt64 = y7 at *
  have t1 : -9223372036854775808 ≤ t.toInt := by have := Int64.le_toInt t; omega
  have t2 : t.toInt < 9223372036854775808 := by have := Int64.toInt_lt t; omega
  generalize hT : t.toInt % 18446744073709551616 = T at *
  have m1 := own_m _ _ e1
  have m2 := own_m _ _ e2
  have m3 := own_m _ _ e3
  have m4 := own_m _ _ e4
  have m5 := own_m _ _ e5
  have m6 := own_m _ _ e6
  have m7 := own_m _ _ e7
  have f0 := c_lshl y0 56 56 (by decide)
  rw [show ((2 ^ 56 : Nat) : Int) = 72057594037927936 from rfl] at f0
  have f0a : -9223372036854775808 ≤ (y0 <<< ((56 : Int32) &&& 0x3f).toInt64).toInt := by have := Int64.le_toInt (y0 <<< ((56 : Int32) &&& 0x3f).toInt64); omega
  have f0b : (y0 <<< ((56 : Int32) &&& 0x3f).toInt64).toInt < 9223372036854775808 := by have := Int64.toInt_lt (y0 <<< ((56 : Int32) &&& 0x3f).toInt64); omega
  have f1 := own_sh y1 48 48 (by decide) 281474976710656 rfl m1.1 m1.2 (by decide) (by decide)
  have f2 := own_sh y2 40 40 (by decide) 1099511627776 rfl m2.1 m2.2 (by decide) (by decide)
  have f3 := own_sh y3 32 32 (by decide) 4294967296 rfl m3.1 m3.2 (by decide) (by decide)
  have f4 := own_sh y4 24 24 (by decide) 16777216 rfl m4.1 m4.2 (by decide) (by decide)
  have f5 := own_sh y5 16 16 (by decide) 65536 rfl m5.1 m5.2 (by decide) (by decide)
  have f6 := own_sh y6 8 8 (by decide) 256 rfl m6.1 m6.2 (by decide) (by decide)
  generalize y0 <<< ((56 : Int32) &&& 0x3f).toInt64 = z0 at *
  generalize y1 <<< ((48 : Int32) &&& 0x3f).toInt64 = z1 at *
  generalize y2 <<< ((40 : Int32) &&& 0x3f).toInt64 = z2 at *
  generalize y3 <<< ((32 : Int32) &&& 0x3f).toInt64 = z3 at *
  generalize y4 <<< ((24 : Int32) &&& 0x3f).toInt64 = z4 at *
  generalize y5 <<< ((16 : Int32) &&& 0x3f).toInt64 = z5 at *
  generalize y6 <<< ((8 : Int32) &&& 0x3f).toInt64 = z6 at *
  have d0 := own_z0 _ _ f0
  have l1 := own_lt56 _ _ m1 f1
  have g1 := own_or56 (z0) z1 d0 l1.1 l1.2
  have d1 := own_dv56 _ _ _ d0 f1
  rw [← g1] at d1
  have l2 := own_lt48 _ _ m2 f2
  have g2 := own_or48 (z0 ||| z1) z2 d1 l2.1 l2.2
  have d2 := own_dv48 _ _ _ d1 f2
  rw [← g2] at d2
  have l3 := own_lt40 _ _ m3 f3
  have g3 := own_or40 (z0 ||| z1 ||| z2) z3 d2 l3.1 l3.2
  have d3 := own_dv40 _ _ _ d2 f3
  rw [← g3] at d3
  have l4 := own_lt32 _ _ m4 f4
  have g4 := own_or32 (z0 ||| z1 ||| z2 ||| z3) z4 d3 l4.1 l4.2
  have d4 := own_dv32 _ _ _ d3 f4
  rw [← g4] at d4
  have l5 := own_lt24 _ _ m5 f5
  have g5 := own_or24 (z0 ||| z1 ||| z2 ||| z3 ||| z4) z5 d4 l5.1 l5.2
  have d5 := own_dv24 _ _ _ d4 f5
  rw [← g5] at d5
  have l6 := own_lt16 _ _ m6 f6
  have g6 := own_or16 (z0 ||| z1 ||| z2 ||| z3 ||| z4 ||| z5) z6 d5 l6.1 l6.2
  have d6 := own_dv16 _ _ _ d5 f6
  rw [← g6] at d6
  have g7 := own_or8 (z0 ||| z1 ||| z2 ||| z3 ||| z4 ||| z5 ||| z6) y7 d6 m7.1 m7.2
  have s1 := Int64.le_toInt (z0 ||| z1 ||| z2 ||| z3 ||| z4 ||| z5 ||| z6 ||| y7)
  have s2 := Int64.toInt_lt (z0 ||| z1 ||| z2 ||| z3 ||| z4 ||| z5 ||| z6 ||| y7)
  rw [g7, g6, g5, g4, g3, g2, g1, f1, f2, f3, f4, f5, f6] at s1 s2
  rw [← Int64.toInt_inj, g7, g6, g5, g4, g3, g2, g1, f1, f2, f3, f4, f5, f6]
  refine own_fin t.toInt z0.toInt T (T / 72057594037927936) (T / 281474976710656) (T / 1099511627776) (T / 4294967296) (T / 16777216) (T / 65536) (T / 256) y0.toInt _ _ _ _ _ _ _ hT t1 t2 f0a f0b f0 ?_ ?_ ?_ ?_ ?_ ?_ ?_ ?_ m1 m2 m3 m4 m5 m6 m7 s1 s2
  · rw [e0]; exact Int.emod_eq_of_lt (own_tp _ _ hT).1 (own_tp _ _ hT).2
  · rw [e1]; exact own_q48 T
  · rw [e2]; exact own_q40 T
  · rw [e3]; exact own_q32 T
  · rw [e4]; exact own_q24 T
  · rw [e5]; exact own_q16 T
  · rw [e6]; exact own_q8 T
  · rw [e7]; exact own_q0 T
theorem pn_1 : plainName "com/example/libidem/libidem/model/FingerprintFromDigestPinLaw" = true := by first | (simp [plainName, overriddenIn]; done) | decide +kernel
theorem ef_1 (m : MethodId) (x0 : Addr) (x1 : Int32) (x2 : Int64) : entryFrame m #[(.ref x0), (.int x1), (.long x2)] 4 = mkF m 0 #[.val (.ref x0), .val (.int x1), .val (.long x2), .second] [] := by first | (simp [entryFrame, mkF, argsToLocals, Value.category]; done) | rfl
def Q_rput (Z : State) (a1 : Addr) (p2 : Int32) (q3 : Int64) (kA : ClassId) (z : Int32) (vs : List Value) (k : Nat) (h0 : Heap) (n0 : Nat) (v : Option Value) (h : Heap) (L : List Loc) : Prop := v = none ∧ Fr n0 L ∧ Keep h0 h [a1] ∧ Arv Z h a1 kA .byte z (own_put vs k q3) (.int (0 : Int32))
theorem d1_0 : decode method_2_code 0 = .ok (.aload_n 0, 1) := by decide +kernel
theorem d1_1 : decode method_2_code 1 = .ok (.iload_n 1, 1) := by decide +kernel
theorem d1_2 : decode method_2_code 2 = .ok (.lload_n 2, 1) := by decide +kernel
theorem d1_3 : decode method_2_code 3 = .ok (.bipush 56, 2) := by decide +kernel
theorem d1_5 : decode method_2_code 5 = .ok (.lushr, 1) := by decide +kernel
theorem d1_6 : decode method_2_code 6 = .ok (.l2i, 1) := by decide +kernel
theorem d1_7 : decode method_2_code 7 = .ok (.i2b, 1) := by decide +kernel
theorem d1_8 : decode method_2_code 8 = .ok (.bastore, 1) := by decide +kernel
theorem d1_9 : decode method_2_code 9 = .ok (.aload_n 0, 1) := by decide +kernel
theorem d1_10 : decode method_2_code 10 = .ok (.iload_n 1, 1) := by decide +kernel
theorem d1_11 : decode method_2_code 11 = .ok (.iconst 1, 1) := by decide +kernel
theorem d1_12 : decode method_2_code 12 = .ok (.iadd, 1) := by decide +kernel
theorem d1_13 : decode method_2_code 13 = .ok (.lload_n 2, 1) := by decide +kernel
theorem d1_14 : decode method_2_code 14 = .ok (.bipush 48, 2) := by decide +kernel
theorem d1_16 : decode method_2_code 16 = .ok (.lushr, 1) := by decide +kernel
theorem d1_17 : decode method_2_code 17 = .ok (.l2i, 1) := by decide +kernel
theorem d1_18 : decode method_2_code 18 = .ok (.i2b, 1) := by decide +kernel
theorem d1_19 : decode method_2_code 19 = .ok (.bastore, 1) := by decide +kernel
theorem d1_20 : decode method_2_code 20 = .ok (.aload_n 0, 1) := by decide +kernel
theorem d1_21 : decode method_2_code 21 = .ok (.iload_n 1, 1) := by decide +kernel
theorem d1_22 : decode method_2_code 22 = .ok (.iconst 2, 1) := by decide +kernel
theorem d1_23 : decode method_2_code 23 = .ok (.iadd, 1) := by decide +kernel
theorem d1_24 : decode method_2_code 24 = .ok (.lload_n 2, 1) := by decide +kernel
theorem d1_25 : decode method_2_code 25 = .ok (.bipush 40, 2) := by decide +kernel
theorem d1_27 : decode method_2_code 27 = .ok (.lushr, 1) := by decide +kernel
theorem d1_28 : decode method_2_code 28 = .ok (.l2i, 1) := by decide +kernel
theorem d1_29 : decode method_2_code 29 = .ok (.i2b, 1) := by decide +kernel
theorem d1_30 : decode method_2_code 30 = .ok (.bastore, 1) := by decide +kernel
theorem d1_31 : decode method_2_code 31 = .ok (.aload_n 0, 1) := by decide +kernel
theorem d1_32 : decode method_2_code 32 = .ok (.iload_n 1, 1) := by decide +kernel
theorem d1_33 : decode method_2_code 33 = .ok (.iconst 3, 1) := by decide +kernel
theorem d1_34 : decode method_2_code 34 = .ok (.iadd, 1) := by decide +kernel
theorem d1_35 : decode method_2_code 35 = .ok (.lload_n 2, 1) := by decide +kernel
theorem d1_36 : decode method_2_code 36 = .ok (.bipush 32, 2) := by decide +kernel
theorem d1_38 : decode method_2_code 38 = .ok (.lushr, 1) := by decide +kernel
theorem d1_39 : decode method_2_code 39 = .ok (.l2i, 1) := by decide +kernel
theorem d1_40 : decode method_2_code 40 = .ok (.i2b, 1) := by decide +kernel
theorem d1_41 : decode method_2_code 41 = .ok (.bastore, 1) := by decide +kernel
theorem d1_42 : decode method_2_code 42 = .ok (.aload_n 0, 1) := by decide +kernel
theorem d1_43 : decode method_2_code 43 = .ok (.iload_n 1, 1) := by decide +kernel
theorem d1_44 : decode method_2_code 44 = .ok (.iconst 4, 1) := by decide +kernel
theorem d1_45 : decode method_2_code 45 = .ok (.iadd, 1) := by decide +kernel
theorem d1_46 : decode method_2_code 46 = .ok (.lload_n 2, 1) := by decide +kernel
theorem d1_47 : decode method_2_code 47 = .ok (.bipush 24, 2) := by decide +kernel
theorem d1_49 : decode method_2_code 49 = .ok (.lushr, 1) := by decide +kernel
theorem d1_50 : decode method_2_code 50 = .ok (.l2i, 1) := by decide +kernel
theorem d1_51 : decode method_2_code 51 = .ok (.i2b, 1) := by decide +kernel
theorem d1_52 : decode method_2_code 52 = .ok (.bastore, 1) := by decide +kernel
theorem d1_53 : decode method_2_code 53 = .ok (.aload_n 0, 1) := by decide +kernel
theorem d1_54 : decode method_2_code 54 = .ok (.iload_n 1, 1) := by decide +kernel
theorem d1_55 : decode method_2_code 55 = .ok (.iconst 5, 1) := by decide +kernel
theorem d1_56 : decode method_2_code 56 = .ok (.iadd, 1) := by decide +kernel
theorem d1_57 : decode method_2_code 57 = .ok (.lload_n 2, 1) := by decide +kernel
theorem d1_58 : decode method_2_code 58 = .ok (.bipush 16, 2) := by decide +kernel
theorem d1_60 : decode method_2_code 60 = .ok (.lushr, 1) := by decide +kernel
theorem d1_61 : decode method_2_code 61 = .ok (.l2i, 1) := by decide +kernel
theorem d1_62 : decode method_2_code 62 = .ok (.i2b, 1) := by decide +kernel
theorem d1_63 : decode method_2_code 63 = .ok (.bastore, 1) := by decide +kernel
theorem d1_64 : decode method_2_code 64 = .ok (.aload_n 0, 1) := by decide +kernel
theorem d1_65 : decode method_2_code 65 = .ok (.iload_n 1, 1) := by decide +kernel
theorem d1_66 : decode method_2_code 66 = .ok (.bipush 6, 2) := by decide +kernel
theorem d1_68 : decode method_2_code 68 = .ok (.iadd, 1) := by decide +kernel
theorem d1_69 : decode method_2_code 69 = .ok (.lload_n 2, 1) := by decide +kernel
theorem d1_70 : decode method_2_code 70 = .ok (.bipush 8, 2) := by decide +kernel
theorem d1_72 : decode method_2_code 72 = .ok (.lushr, 1) := by decide +kernel
theorem d1_73 : decode method_2_code 73 = .ok (.l2i, 1) := by decide +kernel
theorem d1_74 : decode method_2_code 74 = .ok (.i2b, 1) := by decide +kernel
theorem d1_75 : decode method_2_code 75 = .ok (.bastore, 1) := by decide +kernel
theorem d1_76 : decode method_2_code 76 = .ok (.aload_n 0, 1) := by decide +kernel
theorem d1_77 : decode method_2_code 77 = .ok (.iload_n 1, 1) := by decide +kernel
theorem d1_78 : decode method_2_code 78 = .ok (.bipush 7, 2) := by decide +kernel
theorem d1_80 : decode method_2_code 80 = .ok (.iadd, 1) := by decide +kernel
theorem d1_81 : decode method_2_code 81 = .ok (.lload_n 2, 1) := by decide +kernel
theorem d1_82 : decode method_2_code 82 = .ok (.l2i, 1) := by decide +kernel
theorem d1_83 : decode method_2_code 83 = .ok (.i2b, 1) := by decide +kernel
theorem d1_84 : decode method_2_code 84 = .ok (.bastore, 1) := by decide +kernel
theorem d1_85 : decode method_2_code 85 = .ok (.return_, 1) := by decide +kernel
set_option maxRecDepth 65536 in
set_option maxHeartbeats 40000000 in
theorem rput (l : Launch) (Z : State) (a0 : Array Value) (hw : ∀ d ∈ tables_1, d.before a0 Z = true) (ws : List Jvm.Cond) (a1 : Addr) (p2 : Int32) (q3 : Int64) (kA : ClassId) (z : Int32) (vs : List Value) (k : Nat) (h0 : Heap) (n0 : Nat) (Z0 : n0 ≤ h0.size) (V0 : Arv Z h0 a1 kA .byte z vs (.int (0 : Int32))) (g_a1 : n0 ≤ a1) (hp : p2.toInt = k) (hk : k + 8 ≤ vs.length) (hz : vs.length = z.toNatClampNeg) (hl : vs.length < 900) :
    MetFree l (⟨"com/example/libidem/libidem/model/FingerprintFromDigestPinLaw", "put", "([BIJ)V"⟩ : MethodName) (head1 (Jvm.Cond.code (⟨"com/example/libidem/libidem/model/FingerprintFromDigestPinLaw", "put", "([BIJ)V"⟩ : MethodName) method_2_code 4 none :: ws) ({ frames := 0, cells := 0, slots := 0, locals := 0 } : Room)) (fun a U => a = #[(.ref a1), (.int p2), (.long q3)] ∧ Z.Warmed39 U.vm ∧ U.heap = h0) (fun _ _ _ _ _ => True) (fun _ U o U' => ∃ v L, o = .returned v ∧ Q_rput Z a1 p2 q3 kA z vs k h0 n0 v U'.heap L ∧ FrameEnd U o U' L ({ frames := 0, cells := 0, slots := 0, locals := 0 } : Room).cells ({ frames := 0, cells := 0, slots := 0, locals := 0 } : Room).slots) := by
  refine MetFree.of_bodySF (plainFor_of_name pn_1) hisR ?_
  intro p e s m args below meth c s₁ Bd hml0 hP hK
  obtain ⟨rfl, hZ, hh⟩ := hP
  have hx := Bd.exec
  have hby := Bd.bytes
  have hml : c.maxLocals = 4 := hml0
  have hown : s.vm.findClass "com/example/libidem/libidem/model/FingerprintFromDigestPinLaw" = some m.cls := findClass_of_methodNamed Bd.named
  have hnm := (name_of_methodNamed Bd.named Bd.method).1
  have X0 : Stand p l e ({ frames := 0, cells := 0, slots := 0, locals := 0 } : Room) s m #[(.ref a1), (.int p2), (.long q3)] below meth c s₁ [] 0 0 := Stand.of_body Bd
  have e0 : s₁.heap = h0 := by rw [← hh, Bd.state]; rfl
  have N0 := Fr.nil n0
  refine own_go (g' := (mkF m 0 #[.val (.ref a1), .val (.int p2), .val (.long q3), .second] [])) (fun t k => castTop (ef_1 m (a1) (p2) (q3)) k) ?_
  refine own_go (T' := s₁) (g' := (mkF m 8 #[.val (.ref a1), .val (.int p2), .val (.long q3), .second] [(.int ((((q3.toUInt64 >>> ((56 : Int32) &&& 0x3f).toInt64.toUInt64).toInt64).toInt32).toInt8.toInt32)), (.int p2), (.ref a1)])) (fun t kt => ?_) ?_
  · show Steps p.tables e below (s₁.setTop (mkF m 0 #[.val (.ref a1), .val (.int p2), .val (.long q3), .second] [])) t
    refine XS.aloadN X0.here hx rfl (hb hby d1_0) rfl rfl ?_
    show Steps p.tables e below (s₁.setTop (mkF m 1 #[.val (.ref a1), .val (.int p2), .val (.long q3), .second] [(.ref a1)])) t
    refine XS.iloadN X0.here hx rfl (hb hby d1_1) rfl ?_
    show Steps p.tables e below (s₁.setTop (mkF m 2 #[.val (.ref a1), .val (.int p2), .val (.long q3), .second] [(.int p2), (.ref a1)])) t
    refine XS.lloadN X0.here hx rfl (hb hby d1_2) rfl ?_
    show Steps p.tables e below (s₁.setTop (mkF m 3 #[.val (.ref a1), .val (.int p2), .val (.long q3), .second] [(.long q3), (.int p2), (.ref a1)])) t
    refine XS.bipush X0.here hx rfl (hb hby d1_3) ?_
    show Steps p.tables e below (s₁.setTop (mkF m 5 #[.val (.ref a1), .val (.int p2), .val (.long q3), .second] [(.int (56 : Int32)), (.long q3), (.int p2), (.ref a1)])) t
    refine XS.lushr X0.here hx rfl (hb hby d1_5) rfl ?_
    show Steps p.tables e below (s₁.setTop (mkF m 6 #[.val (.ref a1), .val (.int p2), .val (.long q3), .second] [(.long ((q3.toUInt64 >>> ((56 : Int32) &&& 0x3f).toInt64.toUInt64).toInt64)), (.int p2), (.ref a1)])) t
    refine XS.l2i X0.here hx rfl (hb hby d1_6) rfl ?_
    show Steps p.tables e below (s₁.setTop (mkF m 7 #[.val (.ref a1), .val (.int p2), .val (.long q3), .second] [(.int (((q3.toUInt64 >>> ((56 : Int32) &&& 0x3f).toInt64.toUInt64).toInt64).toInt32)), (.int p2), (.ref a1)])) t
    refine XS.i2b X0.here hx rfl (hb hby d1_7) rfl ?_
    exact kt
  have vq_1 := V0
  obtain ⟨c_1, a_1, q_1, s_1, m_1, H_1, G_1⟩ := vq_1
  have hin_1 : ¬ (p2 < 0 ∨ c_1.slots.size ≤ (p2).toNatClampNeg) := own_inb s_1 hz (own_i0 p2 k hp) (by omega)
  obtain ⟨T_1, h_1, X_1, e_1, W_1, st_1⟩ := stB X0 hx hZ e0 a_1 (j := p2) hin_1 (g := (mkF m 8 #[.val (.ref a1), .val (.int p2), .val (.long q3), .second] [(.int ((((q3.toUInt64 >>> ((56 : Int32) &&& 0x3f).toInt64.toUInt64).toInt64).toInt32).toInt8.toInt32)), (.int p2), (.ref a1)])) rfl rfl (hb hby d1_8)
  have V_1 : Arv Z h_1 a1 kA .byte z (vs.set k (.int (nar .byte ((((q3.toUInt64 >>> ((56 : Int32) &&& 0x3f).toInt64.toUInt64).toInt64).toInt32).toInt8.toInt32)))) (.int (0 : Int32)) := Arv.set a_1 q_1 s_1 m_1 H_1 G_1 (fits_nar_byte _) W_1 k (own_i0 p2 k hp).1 (by first | omega | (simp only [List.length_set]; omega))
  have Z_1 : n0 ≤ h_1.size := Nat.le_trans Z0 (Keep.of_wr W_1).1
  have kk_1 : Keep h0 h_1 [a1] := (Keep.refl h0 [a1]).wr W_1 (Or.inl (List.mem_of_getElem? (i := 0) rfl))
  have N_1 := Fr.snoc X_1 N0 g_a1
  refine own_go (g' := (mkF m 9 #[.val (.ref a1), .val (.int p2), .val (.long q3), .second] [])) st_1 ?_
  refine own_go (T' := T_1) (g' := (mkF m 19 #[.val (.ref a1), .val (.int p2), .val (.long q3), .second] [(.int ((((q3.toUInt64 >>> ((48 : Int32) &&& 0x3f).toInt64.toUInt64).toInt64).toInt32).toInt8.toInt32)), (.int (p2 + (1 : Int32))), (.ref a1)])) (fun t kt => ?_) ?_
  · show Steps p.tables e below (T_1.setTop (mkF m 9 #[.val (.ref a1), .val (.int p2), .val (.long q3), .second] [])) t
    refine XS.aloadN X_1.here hx rfl (hb hby d1_9) rfl rfl ?_
    show Steps p.tables e below (T_1.setTop (mkF m 10 #[.val (.ref a1), .val (.int p2), .val (.long q3), .second] [(.ref a1)])) t
    refine XS.iloadN X_1.here hx rfl (hb hby d1_10) rfl ?_
    show Steps p.tables e below (T_1.setTop (mkF m 11 #[.val (.ref a1), .val (.int p2), .val (.long q3), .second] [(.int p2), (.ref a1)])) t
    refine XS.iconst X_1.here hx rfl (hb hby d1_11) ?_
    show Steps p.tables e below (T_1.setTop (mkF m 12 #[.val (.ref a1), .val (.int p2), .val (.long q3), .second] [(.int (1 : Int32)), (.int p2), (.ref a1)])) t
    refine XS.iadd X_1.here hx rfl (hb hby d1_12) rfl ?_
    show Steps p.tables e below (T_1.setTop (mkF m 13 #[.val (.ref a1), .val (.int p2), .val (.long q3), .second] [(.int (p2 + (1 : Int32))), (.ref a1)])) t
    refine XS.lloadN X_1.here hx rfl (hb hby d1_13) rfl ?_
    show Steps p.tables e below (T_1.setTop (mkF m 14 #[.val (.ref a1), .val (.int p2), .val (.long q3), .second] [(.long q3), (.int (p2 + (1 : Int32))), (.ref a1)])) t
    refine XS.bipush X_1.here hx rfl (hb hby d1_14) ?_
    show Steps p.tables e below (T_1.setTop (mkF m 16 #[.val (.ref a1), .val (.int p2), .val (.long q3), .second] [(.int (48 : Int32)), (.long q3), (.int (p2 + (1 : Int32))), (.ref a1)])) t
    refine XS.lushr X_1.here hx rfl (hb hby d1_16) rfl ?_
    show Steps p.tables e below (T_1.setTop (mkF m 17 #[.val (.ref a1), .val (.int p2), .val (.long q3), .second] [(.long ((q3.toUInt64 >>> ((48 : Int32) &&& 0x3f).toInt64.toUInt64).toInt64)), (.int (p2 + (1 : Int32))), (.ref a1)])) t
    refine XS.l2i X_1.here hx rfl (hb hby d1_17) rfl ?_
    show Steps p.tables e below (T_1.setTop (mkF m 18 #[.val (.ref a1), .val (.int p2), .val (.long q3), .second] [(.int (((q3.toUInt64 >>> ((48 : Int32) &&& 0x3f).toInt64.toUInt64).toInt64).toInt32)), (.int (p2 + (1 : Int32))), (.ref a1)])) t
    refine XS.i2b X_1.here hx rfl (hb hby d1_18) rfl ?_
    exact kt
  have vq_2 := V_1
  obtain ⟨c_2, a_2, q_2, s_2, m_2, H_2, G_2⟩ := vq_2
  have hin_2 : ¬ ((p2 + (1 : Int32)) < 0 ∨ c_2.slots.size ≤ ((p2 + (1 : Int32))).toNatClampNeg) := own_inb s_2 hz (own_ix p2 (1 : Int32) k 1 hp rfl (by omega)) (by omega)
  obtain ⟨T_2, h_2, X_2, e_2, W_2, st_2⟩ := stB X_1 hx hZ e_1 a_2 (j := (p2 + (1 : Int32))) hin_2 (g := (mkF m 19 #[.val (.ref a1), .val (.int p2), .val (.long q3), .second] [(.int ((((q3.toUInt64 >>> ((48 : Int32) &&& 0x3f).toInt64.toUInt64).toInt64).toInt32).toInt8.toInt32)), (.int (p2 + (1 : Int32))), (.ref a1)])) rfl rfl (hb hby d1_19)
  have V_2 : Arv Z h_2 a1 kA .byte z ((vs.set k (.int (nar .byte ((((q3.toUInt64 >>> ((56 : Int32) &&& 0x3f).toInt64.toUInt64).toInt64).toInt32).toInt8.toInt32)))).set (k + 1) (.int (nar .byte ((((q3.toUInt64 >>> ((48 : Int32) &&& 0x3f).toInt64.toUInt64).toInt64).toInt32).toInt8.toInt32)))) (.int (0 : Int32)) := Arv.set a_2 q_2 s_2 m_2 H_2 G_2 (fits_nar_byte _) W_2 (k + 1) (own_ix p2 (1 : Int32) k 1 hp rfl (by omega)).1 (by first | omega | (simp only [List.length_set]; omega))
  have Z_2 : n0 ≤ h_2.size := Nat.le_trans Z_1 (Keep.of_wr W_2).1
  have kk_2 : Keep h0 h_2 [a1] := kk_1.wr W_2 (Or.inl (List.mem_of_getElem? (i := 0) rfl))
  have N_2 := Fr.snoc X_2 N_1 g_a1
  refine own_go (g' := (mkF m 20 #[.val (.ref a1), .val (.int p2), .val (.long q3), .second] [])) st_2 ?_
  refine own_go (T' := T_2) (g' := (mkF m 30 #[.val (.ref a1), .val (.int p2), .val (.long q3), .second] [(.int ((((q3.toUInt64 >>> ((40 : Int32) &&& 0x3f).toInt64.toUInt64).toInt64).toInt32).toInt8.toInt32)), (.int (p2 + (2 : Int32))), (.ref a1)])) (fun t kt => ?_) ?_
  · show Steps p.tables e below (T_2.setTop (mkF m 20 #[.val (.ref a1), .val (.int p2), .val (.long q3), .second] [])) t
    refine XS.aloadN X_2.here hx rfl (hb hby d1_20) rfl rfl ?_
    show Steps p.tables e below (T_2.setTop (mkF m 21 #[.val (.ref a1), .val (.int p2), .val (.long q3), .second] [(.ref a1)])) t
    refine XS.iloadN X_2.here hx rfl (hb hby d1_21) rfl ?_
    show Steps p.tables e below (T_2.setTop (mkF m 22 #[.val (.ref a1), .val (.int p2), .val (.long q3), .second] [(.int p2), (.ref a1)])) t
    refine XS.iconst X_2.here hx rfl (hb hby d1_22) ?_
    show Steps p.tables e below (T_2.setTop (mkF m 23 #[.val (.ref a1), .val (.int p2), .val (.long q3), .second] [(.int (2 : Int32)), (.int p2), (.ref a1)])) t
    refine XS.iadd X_2.here hx rfl (hb hby d1_23) rfl ?_
    show Steps p.tables e below (T_2.setTop (mkF m 24 #[.val (.ref a1), .val (.int p2), .val (.long q3), .second] [(.int (p2 + (2 : Int32))), (.ref a1)])) t
    refine XS.lloadN X_2.here hx rfl (hb hby d1_24) rfl ?_
    show Steps p.tables e below (T_2.setTop (mkF m 25 #[.val (.ref a1), .val (.int p2), .val (.long q3), .second] [(.long q3), (.int (p2 + (2 : Int32))), (.ref a1)])) t
    refine XS.bipush X_2.here hx rfl (hb hby d1_25) ?_
    show Steps p.tables e below (T_2.setTop (mkF m 27 #[.val (.ref a1), .val (.int p2), .val (.long q3), .second] [(.int (40 : Int32)), (.long q3), (.int (p2 + (2 : Int32))), (.ref a1)])) t
    refine XS.lushr X_2.here hx rfl (hb hby d1_27) rfl ?_
    show Steps p.tables e below (T_2.setTop (mkF m 28 #[.val (.ref a1), .val (.int p2), .val (.long q3), .second] [(.long ((q3.toUInt64 >>> ((40 : Int32) &&& 0x3f).toInt64.toUInt64).toInt64)), (.int (p2 + (2 : Int32))), (.ref a1)])) t
    refine XS.l2i X_2.here hx rfl (hb hby d1_28) rfl ?_
    show Steps p.tables e below (T_2.setTop (mkF m 29 #[.val (.ref a1), .val (.int p2), .val (.long q3), .second] [(.int (((q3.toUInt64 >>> ((40 : Int32) &&& 0x3f).toInt64.toUInt64).toInt64).toInt32)), (.int (p2 + (2 : Int32))), (.ref a1)])) t
    refine XS.i2b X_2.here hx rfl (hb hby d1_29) rfl ?_
    exact kt
  have vq_3 := V_2
  obtain ⟨c_3, a_3, q_3, s_3, m_3, H_3, G_3⟩ := vq_3
  have hin_3 : ¬ ((p2 + (2 : Int32)) < 0 ∨ c_3.slots.size ≤ ((p2 + (2 : Int32))).toNatClampNeg) := own_inb s_3 hz (own_ix p2 (2 : Int32) k 2 hp rfl (by omega)) (by omega)
  obtain ⟨T_3, h_3, X_3, e_3, W_3, st_3⟩ := stB X_2 hx hZ e_2 a_3 (j := (p2 + (2 : Int32))) hin_3 (g := (mkF m 30 #[.val (.ref a1), .val (.int p2), .val (.long q3), .second] [(.int ((((q3.toUInt64 >>> ((40 : Int32) &&& 0x3f).toInt64.toUInt64).toInt64).toInt32).toInt8.toInt32)), (.int (p2 + (2 : Int32))), (.ref a1)])) rfl rfl (hb hby d1_30)
  have V_3 : Arv Z h_3 a1 kA .byte z (((vs.set k (.int (nar .byte ((((q3.toUInt64 >>> ((56 : Int32) &&& 0x3f).toInt64.toUInt64).toInt64).toInt32).toInt8.toInt32)))).set (k + 1) (.int (nar .byte ((((q3.toUInt64 >>> ((48 : Int32) &&& 0x3f).toInt64.toUInt64).toInt64).toInt32).toInt8.toInt32)))).set (k + 2) (.int (nar .byte ((((q3.toUInt64 >>> ((40 : Int32) &&& 0x3f).toInt64.toUInt64).toInt64).toInt32).toInt8.toInt32)))) (.int (0 : Int32)) := Arv.set a_3 q_3 s_3 m_3 H_3 G_3 (fits_nar_byte _) W_3 (k + 2) (own_ix p2 (2 : Int32) k 2 hp rfl (by omega)).1 (by first | omega | (simp only [List.length_set]; omega))
  have Z_3 : n0 ≤ h_3.size := Nat.le_trans Z_2 (Keep.of_wr W_3).1
  have kk_3 : Keep h0 h_3 [a1] := kk_2.wr W_3 (Or.inl (List.mem_of_getElem? (i := 0) rfl))
  have N_3 := Fr.snoc X_3 N_2 g_a1
  refine own_go (g' := (mkF m 31 #[.val (.ref a1), .val (.int p2), .val (.long q3), .second] [])) st_3 ?_
  refine own_go (T' := T_3) (g' := (mkF m 41 #[.val (.ref a1), .val (.int p2), .val (.long q3), .second] [(.int ((((q3.toUInt64 >>> ((32 : Int32) &&& 0x3f).toInt64.toUInt64).toInt64).toInt32).toInt8.toInt32)), (.int (p2 + (3 : Int32))), (.ref a1)])) (fun t kt => ?_) ?_
  · show Steps p.tables e below (T_3.setTop (mkF m 31 #[.val (.ref a1), .val (.int p2), .val (.long q3), .second] [])) t
    refine XS.aloadN X_3.here hx rfl (hb hby d1_31) rfl rfl ?_
    show Steps p.tables e below (T_3.setTop (mkF m 32 #[.val (.ref a1), .val (.int p2), .val (.long q3), .second] [(.ref a1)])) t
    refine XS.iloadN X_3.here hx rfl (hb hby d1_32) rfl ?_
    show Steps p.tables e below (T_3.setTop (mkF m 33 #[.val (.ref a1), .val (.int p2), .val (.long q3), .second] [(.int p2), (.ref a1)])) t
    refine XS.iconst X_3.here hx rfl (hb hby d1_33) ?_
    show Steps p.tables e below (T_3.setTop (mkF m 34 #[.val (.ref a1), .val (.int p2), .val (.long q3), .second] [(.int (3 : Int32)), (.int p2), (.ref a1)])) t
    refine XS.iadd X_3.here hx rfl (hb hby d1_34) rfl ?_
    show Steps p.tables e below (T_3.setTop (mkF m 35 #[.val (.ref a1), .val (.int p2), .val (.long q3), .second] [(.int (p2 + (3 : Int32))), (.ref a1)])) t
    refine XS.lloadN X_3.here hx rfl (hb hby d1_35) rfl ?_
    show Steps p.tables e below (T_3.setTop (mkF m 36 #[.val (.ref a1), .val (.int p2), .val (.long q3), .second] [(.long q3), (.int (p2 + (3 : Int32))), (.ref a1)])) t
    refine XS.bipush X_3.here hx rfl (hb hby d1_36) ?_
    show Steps p.tables e below (T_3.setTop (mkF m 38 #[.val (.ref a1), .val (.int p2), .val (.long q3), .second] [(.int (32 : Int32)), (.long q3), (.int (p2 + (3 : Int32))), (.ref a1)])) t
    refine XS.lushr X_3.here hx rfl (hb hby d1_38) rfl ?_
    show Steps p.tables e below (T_3.setTop (mkF m 39 #[.val (.ref a1), .val (.int p2), .val (.long q3), .second] [(.long ((q3.toUInt64 >>> ((32 : Int32) &&& 0x3f).toInt64.toUInt64).toInt64)), (.int (p2 + (3 : Int32))), (.ref a1)])) t
    refine XS.l2i X_3.here hx rfl (hb hby d1_39) rfl ?_
    show Steps p.tables e below (T_3.setTop (mkF m 40 #[.val (.ref a1), .val (.int p2), .val (.long q3), .second] [(.int (((q3.toUInt64 >>> ((32 : Int32) &&& 0x3f).toInt64.toUInt64).toInt64).toInt32)), (.int (p2 + (3 : Int32))), (.ref a1)])) t
    refine XS.i2b X_3.here hx rfl (hb hby d1_40) rfl ?_
    exact kt
  have vq_4 := V_3
  obtain ⟨c_4, a_4, q_4, s_4, m_4, H_4, G_4⟩ := vq_4
  have hin_4 : ¬ ((p2 + (3 : Int32)) < 0 ∨ c_4.slots.size ≤ ((p2 + (3 : Int32))).toNatClampNeg) := own_inb s_4 hz (own_ix p2 (3 : Int32) k 3 hp rfl (by omega)) (by omega)
  obtain ⟨T_4, h_4, X_4, e_4, W_4, st_4⟩ := stB X_3 hx hZ e_3 a_4 (j := (p2 + (3 : Int32))) hin_4 (g := (mkF m 41 #[.val (.ref a1), .val (.int p2), .val (.long q3), .second] [(.int ((((q3.toUInt64 >>> ((32 : Int32) &&& 0x3f).toInt64.toUInt64).toInt64).toInt32).toInt8.toInt32)), (.int (p2 + (3 : Int32))), (.ref a1)])) rfl rfl (hb hby d1_41)
  have V_4 : Arv Z h_4 a1 kA .byte z ((((vs.set k (.int (nar .byte ((((q3.toUInt64 >>> ((56 : Int32) &&& 0x3f).toInt64.toUInt64).toInt64).toInt32).toInt8.toInt32)))).set (k + 1) (.int (nar .byte ((((q3.toUInt64 >>> ((48 : Int32) &&& 0x3f).toInt64.toUInt64).toInt64).toInt32).toInt8.toInt32)))).set (k + 2) (.int (nar .byte ((((q3.toUInt64 >>> ((40 : Int32) &&& 0x3f).toInt64.toUInt64).toInt64).toInt32).toInt8.toInt32)))).set (k + 3) (.int (nar .byte ((((q3.toUInt64 >>> ((32 : Int32) &&& 0x3f).toInt64.toUInt64).toInt64).toInt32).toInt8.toInt32)))) (.int (0 : Int32)) := Arv.set a_4 q_4 s_4 m_4 H_4 G_4 (fits_nar_byte _) W_4 (k + 3) (own_ix p2 (3 : Int32) k 3 hp rfl (by omega)).1 (by first | omega | (simp only [List.length_set]; omega))
  have Z_4 : n0 ≤ h_4.size := Nat.le_trans Z_3 (Keep.of_wr W_4).1
  have kk_4 : Keep h0 h_4 [a1] := kk_3.wr W_4 (Or.inl (List.mem_of_getElem? (i := 0) rfl))
  have N_4 := Fr.snoc X_4 N_3 g_a1
  refine own_go (g' := (mkF m 42 #[.val (.ref a1), .val (.int p2), .val (.long q3), .second] [])) st_4 ?_
  refine own_go (T' := T_4) (g' := (mkF m 52 #[.val (.ref a1), .val (.int p2), .val (.long q3), .second] [(.int ((((q3.toUInt64 >>> ((24 : Int32) &&& 0x3f).toInt64.toUInt64).toInt64).toInt32).toInt8.toInt32)), (.int (p2 + (4 : Int32))), (.ref a1)])) (fun t kt => ?_) ?_
  · show Steps p.tables e below (T_4.setTop (mkF m 42 #[.val (.ref a1), .val (.int p2), .val (.long q3), .second] [])) t
    refine XS.aloadN X_4.here hx rfl (hb hby d1_42) rfl rfl ?_
    show Steps p.tables e below (T_4.setTop (mkF m 43 #[.val (.ref a1), .val (.int p2), .val (.long q3), .second] [(.ref a1)])) t
    refine XS.iloadN X_4.here hx rfl (hb hby d1_43) rfl ?_
    show Steps p.tables e below (T_4.setTop (mkF m 44 #[.val (.ref a1), .val (.int p2), .val (.long q3), .second] [(.int p2), (.ref a1)])) t
    refine XS.iconst X_4.here hx rfl (hb hby d1_44) ?_
    show Steps p.tables e below (T_4.setTop (mkF m 45 #[.val (.ref a1), .val (.int p2), .val (.long q3), .second] [(.int (4 : Int32)), (.int p2), (.ref a1)])) t
    refine XS.iadd X_4.here hx rfl (hb hby d1_45) rfl ?_
    show Steps p.tables e below (T_4.setTop (mkF m 46 #[.val (.ref a1), .val (.int p2), .val (.long q3), .second] [(.int (p2 + (4 : Int32))), (.ref a1)])) t
    refine XS.lloadN X_4.here hx rfl (hb hby d1_46) rfl ?_
    show Steps p.tables e below (T_4.setTop (mkF m 47 #[.val (.ref a1), .val (.int p2), .val (.long q3), .second] [(.long q3), (.int (p2 + (4 : Int32))), (.ref a1)])) t
    refine XS.bipush X_4.here hx rfl (hb hby d1_47) ?_
    show Steps p.tables e below (T_4.setTop (mkF m 49 #[.val (.ref a1), .val (.int p2), .val (.long q3), .second] [(.int (24 : Int32)), (.long q3), (.int (p2 + (4 : Int32))), (.ref a1)])) t
    refine XS.lushr X_4.here hx rfl (hb hby d1_49) rfl ?_
    show Steps p.tables e below (T_4.setTop (mkF m 50 #[.val (.ref a1), .val (.int p2), .val (.long q3), .second] [(.long ((q3.toUInt64 >>> ((24 : Int32) &&& 0x3f).toInt64.toUInt64).toInt64)), (.int (p2 + (4 : Int32))), (.ref a1)])) t
    refine XS.l2i X_4.here hx rfl (hb hby d1_50) rfl ?_
    show Steps p.tables e below (T_4.setTop (mkF m 51 #[.val (.ref a1), .val (.int p2), .val (.long q3), .second] [(.int (((q3.toUInt64 >>> ((24 : Int32) &&& 0x3f).toInt64.toUInt64).toInt64).toInt32)), (.int (p2 + (4 : Int32))), (.ref a1)])) t
    refine XS.i2b X_4.here hx rfl (hb hby d1_51) rfl ?_
    exact kt
  have vq_5 := V_4
  obtain ⟨c_5, a_5, q_5, s_5, m_5, H_5, G_5⟩ := vq_5
  have hin_5 : ¬ ((p2 + (4 : Int32)) < 0 ∨ c_5.slots.size ≤ ((p2 + (4 : Int32))).toNatClampNeg) := own_inb s_5 hz (own_ix p2 (4 : Int32) k 4 hp rfl (by omega)) (by omega)
  obtain ⟨T_5, h_5, X_5, e_5, W_5, st_5⟩ := stB X_4 hx hZ e_4 a_5 (j := (p2 + (4 : Int32))) hin_5 (g := (mkF m 52 #[.val (.ref a1), .val (.int p2), .val (.long q3), .second] [(.int ((((q3.toUInt64 >>> ((24 : Int32) &&& 0x3f).toInt64.toUInt64).toInt64).toInt32).toInt8.toInt32)), (.int (p2 + (4 : Int32))), (.ref a1)])) rfl rfl (hb hby d1_52)
  have V_5 : Arv Z h_5 a1 kA .byte z (((((vs.set k (.int (nar .byte ((((q3.toUInt64 >>> ((56 : Int32) &&& 0x3f).toInt64.toUInt64).toInt64).toInt32).toInt8.toInt32)))).set (k + 1) (.int (nar .byte ((((q3.toUInt64 >>> ((48 : Int32) &&& 0x3f).toInt64.toUInt64).toInt64).toInt32).toInt8.toInt32)))).set (k + 2) (.int (nar .byte ((((q3.toUInt64 >>> ((40 : Int32) &&& 0x3f).toInt64.toUInt64).toInt64).toInt32).toInt8.toInt32)))).set (k + 3) (.int (nar .byte ((((q3.toUInt64 >>> ((32 : Int32) &&& 0x3f).toInt64.toUInt64).toInt64).toInt32).toInt8.toInt32)))).set (k + 4) (.int (nar .byte ((((q3.toUInt64 >>> ((24 : Int32) &&& 0x3f).toInt64.toUInt64).toInt64).toInt32).toInt8.toInt32)))) (.int (0 : Int32)) := Arv.set a_5 q_5 s_5 m_5 H_5 G_5 (fits_nar_byte _) W_5 (k + 4) (own_ix p2 (4 : Int32) k 4 hp rfl (by omega)).1 (by first | omega | (simp only [List.length_set]; omega))
  have Z_5 : n0 ≤ h_5.size := Nat.le_trans Z_4 (Keep.of_wr W_5).1
  have kk_5 : Keep h0 h_5 [a1] := kk_4.wr W_5 (Or.inl (List.mem_of_getElem? (i := 0) rfl))
  have N_5 := Fr.snoc X_5 N_4 g_a1
  refine own_go (g' := (mkF m 53 #[.val (.ref a1), .val (.int p2), .val (.long q3), .second] [])) st_5 ?_
  refine own_go (T' := T_5) (g' := (mkF m 63 #[.val (.ref a1), .val (.int p2), .val (.long q3), .second] [(.int ((((q3.toUInt64 >>> ((16 : Int32) &&& 0x3f).toInt64.toUInt64).toInt64).toInt32).toInt8.toInt32)), (.int (p2 + (5 : Int32))), (.ref a1)])) (fun t kt => ?_) ?_
  · show Steps p.tables e below (T_5.setTop (mkF m 53 #[.val (.ref a1), .val (.int p2), .val (.long q3), .second] [])) t
    refine XS.aloadN X_5.here hx rfl (hb hby d1_53) rfl rfl ?_
    show Steps p.tables e below (T_5.setTop (mkF m 54 #[.val (.ref a1), .val (.int p2), .val (.long q3), .second] [(.ref a1)])) t
    refine XS.iloadN X_5.here hx rfl (hb hby d1_54) rfl ?_
    show Steps p.tables e below (T_5.setTop (mkF m 55 #[.val (.ref a1), .val (.int p2), .val (.long q3), .second] [(.int p2), (.ref a1)])) t
    refine XS.iconst X_5.here hx rfl (hb hby d1_55) ?_
    show Steps p.tables e below (T_5.setTop (mkF m 56 #[.val (.ref a1), .val (.int p2), .val (.long q3), .second] [(.int (5 : Int32)), (.int p2), (.ref a1)])) t
    refine XS.iadd X_5.here hx rfl (hb hby d1_56) rfl ?_
    show Steps p.tables e below (T_5.setTop (mkF m 57 #[.val (.ref a1), .val (.int p2), .val (.long q3), .second] [(.int (p2 + (5 : Int32))), (.ref a1)])) t
    refine XS.lloadN X_5.here hx rfl (hb hby d1_57) rfl ?_
    show Steps p.tables e below (T_5.setTop (mkF m 58 #[.val (.ref a1), .val (.int p2), .val (.long q3), .second] [(.long q3), (.int (p2 + (5 : Int32))), (.ref a1)])) t
    refine XS.bipush X_5.here hx rfl (hb hby d1_58) ?_
    show Steps p.tables e below (T_5.setTop (mkF m 60 #[.val (.ref a1), .val (.int p2), .val (.long q3), .second] [(.int (16 : Int32)), (.long q3), (.int (p2 + (5 : Int32))), (.ref a1)])) t
    refine XS.lushr X_5.here hx rfl (hb hby d1_60) rfl ?_
    show Steps p.tables e below (T_5.setTop (mkF m 61 #[.val (.ref a1), .val (.int p2), .val (.long q3), .second] [(.long ((q3.toUInt64 >>> ((16 : Int32) &&& 0x3f).toInt64.toUInt64).toInt64)), (.int (p2 + (5 : Int32))), (.ref a1)])) t
    refine XS.l2i X_5.here hx rfl (hb hby d1_61) rfl ?_
    show Steps p.tables e below (T_5.setTop (mkF m 62 #[.val (.ref a1), .val (.int p2), .val (.long q3), .second] [(.int (((q3.toUInt64 >>> ((16 : Int32) &&& 0x3f).toInt64.toUInt64).toInt64).toInt32)), (.int (p2 + (5 : Int32))), (.ref a1)])) t
    refine XS.i2b X_5.here hx rfl (hb hby d1_62) rfl ?_
    exact kt
  have vq_6 := V_5
  obtain ⟨c_6, a_6, q_6, s_6, m_6, H_6, G_6⟩ := vq_6
  have hin_6 : ¬ ((p2 + (5 : Int32)) < 0 ∨ c_6.slots.size ≤ ((p2 + (5 : Int32))).toNatClampNeg) := own_inb s_6 hz (own_ix p2 (5 : Int32) k 5 hp rfl (by omega)) (by omega)
  obtain ⟨T_6, h_6, X_6, e_6, W_6, st_6⟩ := stB X_5 hx hZ e_5 a_6 (j := (p2 + (5 : Int32))) hin_6 (g := (mkF m 63 #[.val (.ref a1), .val (.int p2), .val (.long q3), .second] [(.int ((((q3.toUInt64 >>> ((16 : Int32) &&& 0x3f).toInt64.toUInt64).toInt64).toInt32).toInt8.toInt32)), (.int (p2 + (5 : Int32))), (.ref a1)])) rfl rfl (hb hby d1_63)
  have V_6 : Arv Z h_6 a1 kA .byte z ((((((vs.set k (.int (nar .byte ((((q3.toUInt64 >>> ((56 : Int32) &&& 0x3f).toInt64.toUInt64).toInt64).toInt32).toInt8.toInt32)))).set (k + 1) (.int (nar .byte ((((q3.toUInt64 >>> ((48 : Int32) &&& 0x3f).toInt64.toUInt64).toInt64).toInt32).toInt8.toInt32)))).set (k + 2) (.int (nar .byte ((((q3.toUInt64 >>> ((40 : Int32) &&& 0x3f).toInt64.toUInt64).toInt64).toInt32).toInt8.toInt32)))).set (k + 3) (.int (nar .byte ((((q3.toUInt64 >>> ((32 : Int32) &&& 0x3f).toInt64.toUInt64).toInt64).toInt32).toInt8.toInt32)))).set (k + 4) (.int (nar .byte ((((q3.toUInt64 >>> ((24 : Int32) &&& 0x3f).toInt64.toUInt64).toInt64).toInt32).toInt8.toInt32)))).set (k + 5) (.int (nar .byte ((((q3.toUInt64 >>> ((16 : Int32) &&& 0x3f).toInt64.toUInt64).toInt64).toInt32).toInt8.toInt32)))) (.int (0 : Int32)) := Arv.set a_6 q_6 s_6 m_6 H_6 G_6 (fits_nar_byte _) W_6 (k + 5) (own_ix p2 (5 : Int32) k 5 hp rfl (by omega)).1 (by first | omega | (simp only [List.length_set]; omega))
  have Z_6 : n0 ≤ h_6.size := Nat.le_trans Z_5 (Keep.of_wr W_6).1
  have kk_6 : Keep h0 h_6 [a1] := kk_5.wr W_6 (Or.inl (List.mem_of_getElem? (i := 0) rfl))
  have N_6 := Fr.snoc X_6 N_5 g_a1
  refine own_go (g' := (mkF m 64 #[.val (.ref a1), .val (.int p2), .val (.long q3), .second] [])) st_6 ?_
  refine own_go (T' := T_6) (g' := (mkF m 75 #[.val (.ref a1), .val (.int p2), .val (.long q3), .second] [(.int ((((q3.toUInt64 >>> ((8 : Int32) &&& 0x3f).toInt64.toUInt64).toInt64).toInt32).toInt8.toInt32)), (.int (p2 + (6 : Int32))), (.ref a1)])) (fun t kt => ?_) ?_
  · show Steps p.tables e below (T_6.setTop (mkF m 64 #[.val (.ref a1), .val (.int p2), .val (.long q3), .second] [])) t
    refine XS.aloadN X_6.here hx rfl (hb hby d1_64) rfl rfl ?_
    show Steps p.tables e below (T_6.setTop (mkF m 65 #[.val (.ref a1), .val (.int p2), .val (.long q3), .second] [(.ref a1)])) t
    refine XS.iloadN X_6.here hx rfl (hb hby d1_65) rfl ?_
    show Steps p.tables e below (T_6.setTop (mkF m 66 #[.val (.ref a1), .val (.int p2), .val (.long q3), .second] [(.int p2), (.ref a1)])) t
    refine XS.bipush X_6.here hx rfl (hb hby d1_66) ?_
    show Steps p.tables e below (T_6.setTop (mkF m 68 #[.val (.ref a1), .val (.int p2), .val (.long q3), .second] [(.int (6 : Int32)), (.int p2), (.ref a1)])) t
    refine XS.iadd X_6.here hx rfl (hb hby d1_68) rfl ?_
    show Steps p.tables e below (T_6.setTop (mkF m 69 #[.val (.ref a1), .val (.int p2), .val (.long q3), .second] [(.int (p2 + (6 : Int32))), (.ref a1)])) t
    refine XS.lloadN X_6.here hx rfl (hb hby d1_69) rfl ?_
    show Steps p.tables e below (T_6.setTop (mkF m 70 #[.val (.ref a1), .val (.int p2), .val (.long q3), .second] [(.long q3), (.int (p2 + (6 : Int32))), (.ref a1)])) t
    refine XS.bipush X_6.here hx rfl (hb hby d1_70) ?_
    show Steps p.tables e below (T_6.setTop (mkF m 72 #[.val (.ref a1), .val (.int p2), .val (.long q3), .second] [(.int (8 : Int32)), (.long q3), (.int (p2 + (6 : Int32))), (.ref a1)])) t
    refine XS.lushr X_6.here hx rfl (hb hby d1_72) rfl ?_
    show Steps p.tables e below (T_6.setTop (mkF m 73 #[.val (.ref a1), .val (.int p2), .val (.long q3), .second] [(.long ((q3.toUInt64 >>> ((8 : Int32) &&& 0x3f).toInt64.toUInt64).toInt64)), (.int (p2 + (6 : Int32))), (.ref a1)])) t
    refine XS.l2i X_6.here hx rfl (hb hby d1_73) rfl ?_
    show Steps p.tables e below (T_6.setTop (mkF m 74 #[.val (.ref a1), .val (.int p2), .val (.long q3), .second] [(.int (((q3.toUInt64 >>> ((8 : Int32) &&& 0x3f).toInt64.toUInt64).toInt64).toInt32)), (.int (p2 + (6 : Int32))), (.ref a1)])) t
    refine XS.i2b X_6.here hx rfl (hb hby d1_74) rfl ?_
    exact kt
  have vq_7 := V_6
  obtain ⟨c_7, a_7, q_7, s_7, m_7, H_7, G_7⟩ := vq_7
  have hin_7 : ¬ ((p2 + (6 : Int32)) < 0 ∨ c_7.slots.size ≤ ((p2 + (6 : Int32))).toNatClampNeg) := own_inb s_7 hz (own_ix p2 (6 : Int32) k 6 hp rfl (by omega)) (by omega)
  obtain ⟨T_7, h_7, X_7, e_7, W_7, st_7⟩ := stB X_6 hx hZ e_6 a_7 (j := (p2 + (6 : Int32))) hin_7 (g := (mkF m 75 #[.val (.ref a1), .val (.int p2), .val (.long q3), .second] [(.int ((((q3.toUInt64 >>> ((8 : Int32) &&& 0x3f).toInt64.toUInt64).toInt64).toInt32).toInt8.toInt32)), (.int (p2 + (6 : Int32))), (.ref a1)])) rfl rfl (hb hby d1_75)
  have V_7 : Arv Z h_7 a1 kA .byte z (((((((vs.set k (.int (nar .byte ((((q3.toUInt64 >>> ((56 : Int32) &&& 0x3f).toInt64.toUInt64).toInt64).toInt32).toInt8.toInt32)))).set (k + 1) (.int (nar .byte ((((q3.toUInt64 >>> ((48 : Int32) &&& 0x3f).toInt64.toUInt64).toInt64).toInt32).toInt8.toInt32)))).set (k + 2) (.int (nar .byte ((((q3.toUInt64 >>> ((40 : Int32) &&& 0x3f).toInt64.toUInt64).toInt64).toInt32).toInt8.toInt32)))).set (k + 3) (.int (nar .byte ((((q3.toUInt64 >>> ((32 : Int32) &&& 0x3f).toInt64.toUInt64).toInt64).toInt32).toInt8.toInt32)))).set (k + 4) (.int (nar .byte ((((q3.toUInt64 >>> ((24 : Int32) &&& 0x3f).toInt64.toUInt64).toInt64).toInt32).toInt8.toInt32)))).set (k + 5) (.int (nar .byte ((((q3.toUInt64 >>> ((16 : Int32) &&& 0x3f).toInt64.toUInt64).toInt64).toInt32).toInt8.toInt32)))).set (k + 6) (.int (nar .byte ((((q3.toUInt64 >>> ((8 : Int32) &&& 0x3f).toInt64.toUInt64).toInt64).toInt32).toInt8.toInt32)))) (.int (0 : Int32)) := Arv.set a_7 q_7 s_7 m_7 H_7 G_7 (fits_nar_byte _) W_7 (k + 6) (own_ix p2 (6 : Int32) k 6 hp rfl (by omega)).1 (by first | omega | (simp only [List.length_set]; omega))
  have Z_7 : n0 ≤ h_7.size := Nat.le_trans Z_6 (Keep.of_wr W_7).1
  have kk_7 : Keep h0 h_7 [a1] := kk_6.wr W_7 (Or.inl (List.mem_of_getElem? (i := 0) rfl))
  have N_7 := Fr.snoc X_7 N_6 g_a1
  refine own_go (g' := (mkF m 76 #[.val (.ref a1), .val (.int p2), .val (.long q3), .second] [])) st_7 ?_
  refine own_go (T' := T_7) (g' := (mkF m 84 #[.val (.ref a1), .val (.int p2), .val (.long q3), .second] [(.int ((q3.toInt32).toInt8.toInt32)), (.int (p2 + (7 : Int32))), (.ref a1)])) (fun t kt => ?_) ?_
  · show Steps p.tables e below (T_7.setTop (mkF m 76 #[.val (.ref a1), .val (.int p2), .val (.long q3), .second] [])) t
    refine XS.aloadN X_7.here hx rfl (hb hby d1_76) rfl rfl ?_
    show Steps p.tables e below (T_7.setTop (mkF m 77 #[.val (.ref a1), .val (.int p2), .val (.long q3), .second] [(.ref a1)])) t
    refine XS.iloadN X_7.here hx rfl (hb hby d1_77) rfl ?_
    show Steps p.tables e below (T_7.setTop (mkF m 78 #[.val (.ref a1), .val (.int p2), .val (.long q3), .second] [(.int p2), (.ref a1)])) t
    refine XS.bipush X_7.here hx rfl (hb hby d1_78) ?_
    show Steps p.tables e below (T_7.setTop (mkF m 80 #[.val (.ref a1), .val (.int p2), .val (.long q3), .second] [(.int (7 : Int32)), (.int p2), (.ref a1)])) t
    refine XS.iadd X_7.here hx rfl (hb hby d1_80) rfl ?_
    show Steps p.tables e below (T_7.setTop (mkF m 81 #[.val (.ref a1), .val (.int p2), .val (.long q3), .second] [(.int (p2 + (7 : Int32))), (.ref a1)])) t
    refine XS.lloadN X_7.here hx rfl (hb hby d1_81) rfl ?_
    show Steps p.tables e below (T_7.setTop (mkF m 82 #[.val (.ref a1), .val (.int p2), .val (.long q3), .second] [(.long q3), (.int (p2 + (7 : Int32))), (.ref a1)])) t
    refine XS.l2i X_7.here hx rfl (hb hby d1_82) rfl ?_
    show Steps p.tables e below (T_7.setTop (mkF m 83 #[.val (.ref a1), .val (.int p2), .val (.long q3), .second] [(.int (q3.toInt32)), (.int (p2 + (7 : Int32))), (.ref a1)])) t
    refine XS.i2b X_7.here hx rfl (hb hby d1_83) rfl ?_
    exact kt
  have vq_8 := V_7
  obtain ⟨c_8, a_8, q_8, s_8, m_8, H_8, G_8⟩ := vq_8
  have hin_8 : ¬ ((p2 + (7 : Int32)) < 0 ∨ c_8.slots.size ≤ ((p2 + (7 : Int32))).toNatClampNeg) := own_inb s_8 hz (own_ix p2 (7 : Int32) k 7 hp rfl (by omega)) (by omega)
  obtain ⟨T_8, h_8, X_8, e_8, W_8, st_8⟩ := stB X_7 hx hZ e_7 a_8 (j := (p2 + (7 : Int32))) hin_8 (g := (mkF m 84 #[.val (.ref a1), .val (.int p2), .val (.long q3), .second] [(.int ((q3.toInt32).toInt8.toInt32)), (.int (p2 + (7 : Int32))), (.ref a1)])) rfl rfl (hb hby d1_84)
  have V_8 : Arv Z h_8 a1 kA .byte z ((((((((vs.set k (.int (nar .byte ((((q3.toUInt64 >>> ((56 : Int32) &&& 0x3f).toInt64.toUInt64).toInt64).toInt32).toInt8.toInt32)))).set (k + 1) (.int (nar .byte ((((q3.toUInt64 >>> ((48 : Int32) &&& 0x3f).toInt64.toUInt64).toInt64).toInt32).toInt8.toInt32)))).set (k + 2) (.int (nar .byte ((((q3.toUInt64 >>> ((40 : Int32) &&& 0x3f).toInt64.toUInt64).toInt64).toInt32).toInt8.toInt32)))).set (k + 3) (.int (nar .byte ((((q3.toUInt64 >>> ((32 : Int32) &&& 0x3f).toInt64.toUInt64).toInt64).toInt32).toInt8.toInt32)))).set (k + 4) (.int (nar .byte ((((q3.toUInt64 >>> ((24 : Int32) &&& 0x3f).toInt64.toUInt64).toInt64).toInt32).toInt8.toInt32)))).set (k + 5) (.int (nar .byte ((((q3.toUInt64 >>> ((16 : Int32) &&& 0x3f).toInt64.toUInt64).toInt64).toInt32).toInt8.toInt32)))).set (k + 6) (.int (nar .byte ((((q3.toUInt64 >>> ((8 : Int32) &&& 0x3f).toInt64.toUInt64).toInt64).toInt32).toInt8.toInt32)))).set (k + 7) (.int (nar .byte ((q3.toInt32).toInt8.toInt32)))) (.int (0 : Int32)) := Arv.set a_8 q_8 s_8 m_8 H_8 G_8 (fits_nar_byte _) W_8 (k + 7) (own_ix p2 (7 : Int32) k 7 hp rfl (by omega)).1 (by first | omega | (simp only [List.length_set]; omega))
  have Z_8 : n0 ≤ h_8.size := Nat.le_trans Z_7 (Keep.of_wr W_8).1
  have kk_8 : Keep h0 h_8 [a1] := kk_7.wr W_8 (Or.inl (List.mem_of_getElem? (i := 0) rfl))
  have N_8 := Fr.snoc X_8 N_7 g_a1
  refine own_go (g' := (mkF m 85 #[.val (.ref a1), .val (.int p2), .val (.long q3), .second] [])) st_8 ?_
  obtain ⟨fs, hr, hrun, hended, hW, hsame⟩ := X_8.leave (v := none) (fun _ => rfl) (BodyLoose.notSynchronized Bd)
  refine ⟨_, _, ?_, hrun, hended, _, _, rfl, ?_, ⟨_, rfl⟩, hW, hsame.mono (by decide) (by decide)⟩
  · exact X_8.returnOut hx Bd.returns (hb hby d1_85) hr
  · show Q_rput Z _ _ _ _ _ _ _ h0 n0 _ T_8.heap _
    rw [e_8]
    exact ⟨rfl, N_8, kk_8, V_8⟩
theorem pn_6 : plainName "com/example/libidem/libidem/model/FingerprintFromDigestPinLaw" = true := by first | (simp [plainName, overriddenIn]; done) | decide +kernel
theorem ef_6 (m : MethodId) (x0 : Addr) (x1 : Int32) : entryFrame m #[(.ref x0), (.int x1)] 2 = mkF m 0 #[.val (.ref x0), .val (.int x1)] [] := by first | (simp [entryFrame, mkF, argsToLocals, Value.category]; done) | rfl
def Q_rpack (Z : State) (a1 : Addr) (p2 : Int32) (kA : ClassId) (z : Int32) (vs : List Value) (k : Nat) (x0 : Int32) (x1 : Int32) (x2 : Int32) (x3 : Int32) (x4 : Int32) (x5 : Int32) (x6 : Int32) (x7 : Int32) (h0 : Heap) (n0 : Nat) (v : Option Value) (h : Heap) (L : List Loc) : Prop := v = some (.long (own_pk x0 x1 x2 x3 x4 x5 x6 x7)) ∧ Fr n0 L ∧ h = h0
theorem d6_0 : decode method_3_code 0 = .ok (.aload_n 0, 1) := by decide +kernel
theorem d6_1 : decode method_3_code 1 = .ok (.iload_n 1, 1) := by decide +kernel
theorem d6_2 : decode method_3_code 2 = .ok (.baload, 1) := by decide +kernel
theorem d6_3 : decode method_3_code 3 = .ok (.sipush 255, 3) := by decide +kernel
theorem d6_6 : decode method_3_code 6 = .ok (.iand, 1) := by decide +kernel
theorem d6_7 : decode method_3_code 7 = .ok (.i2l, 1) := by decide +kernel
theorem d6_8 : decode method_3_code 8 = .ok (.bipush 56, 2) := by decide +kernel
theorem d6_10 : decode method_3_code 10 = .ok (.lshl, 1) := by decide +kernel
theorem d6_11 : decode method_3_code 11 = .ok (.aload_n 0, 1) := by decide +kernel
theorem d6_12 : decode method_3_code 12 = .ok (.iload_n 1, 1) := by decide +kernel
theorem d6_13 : decode method_3_code 13 = .ok (.iconst 1, 1) := by decide +kernel
theorem d6_14 : decode method_3_code 14 = .ok (.iadd, 1) := by decide +kernel
theorem d6_15 : decode method_3_code 15 = .ok (.baload, 1) := by decide +kernel
theorem d6_16 : decode method_3_code 16 = .ok (.sipush 255, 3) := by decide +kernel
theorem d6_19 : decode method_3_code 19 = .ok (.iand, 1) := by decide +kernel
theorem d6_20 : decode method_3_code 20 = .ok (.i2l, 1) := by decide +kernel
theorem d6_21 : decode method_3_code 21 = .ok (.bipush 48, 2) := by decide +kernel
theorem d6_23 : decode method_3_code 23 = .ok (.lshl, 1) := by decide +kernel
theorem d6_24 : decode method_3_code 24 = .ok (.lor, 1) := by decide +kernel
theorem d6_25 : decode method_3_code 25 = .ok (.aload_n 0, 1) := by decide +kernel
theorem d6_26 : decode method_3_code 26 = .ok (.iload_n 1, 1) := by decide +kernel
theorem d6_27 : decode method_3_code 27 = .ok (.iconst 2, 1) := by decide +kernel
theorem d6_28 : decode method_3_code 28 = .ok (.iadd, 1) := by decide +kernel
theorem d6_29 : decode method_3_code 29 = .ok (.baload, 1) := by decide +kernel
theorem d6_30 : decode method_3_code 30 = .ok (.sipush 255, 3) := by decide +kernel
theorem d6_33 : decode method_3_code 33 = .ok (.iand, 1) := by decide +kernel
theorem d6_34 : decode method_3_code 34 = .ok (.i2l, 1) := by decide +kernel
theorem d6_35 : decode method_3_code 35 = .ok (.bipush 40, 2) := by decide +kernel
theorem d6_37 : decode method_3_code 37 = .ok (.lshl, 1) := by decide +kernel
theorem d6_38 : decode method_3_code 38 = .ok (.lor, 1) := by decide +kernel
theorem d6_39 : decode method_3_code 39 = .ok (.aload_n 0, 1) := by decide +kernel
theorem d6_40 : decode method_3_code 40 = .ok (.iload_n 1, 1) := by decide +kernel
theorem d6_41 : decode method_3_code 41 = .ok (.iconst 3, 1) := by decide +kernel
theorem d6_42 : decode method_3_code 42 = .ok (.iadd, 1) := by decide +kernel
theorem d6_43 : decode method_3_code 43 = .ok (.baload, 1) := by decide +kernel
theorem d6_44 : decode method_3_code 44 = .ok (.sipush 255, 3) := by decide +kernel
theorem d6_47 : decode method_3_code 47 = .ok (.iand, 1) := by decide +kernel
theorem d6_48 : decode method_3_code 48 = .ok (.i2l, 1) := by decide +kernel
theorem d6_49 : decode method_3_code 49 = .ok (.bipush 32, 2) := by decide +kernel
theorem d6_51 : decode method_3_code 51 = .ok (.lshl, 1) := by decide +kernel
theorem d6_52 : decode method_3_code 52 = .ok (.lor, 1) := by decide +kernel
theorem d6_53 : decode method_3_code 53 = .ok (.aload_n 0, 1) := by decide +kernel
theorem d6_54 : decode method_3_code 54 = .ok (.iload_n 1, 1) := by decide +kernel
theorem d6_55 : decode method_3_code 55 = .ok (.iconst 4, 1) := by decide +kernel
theorem d6_56 : decode method_3_code 56 = .ok (.iadd, 1) := by decide +kernel
theorem d6_57 : decode method_3_code 57 = .ok (.baload, 1) := by decide +kernel
theorem d6_58 : decode method_3_code 58 = .ok (.sipush 255, 3) := by decide +kernel
theorem d6_61 : decode method_3_code 61 = .ok (.iand, 1) := by decide +kernel
theorem d6_62 : decode method_3_code 62 = .ok (.i2l, 1) := by decide +kernel
theorem d6_63 : decode method_3_code 63 = .ok (.bipush 24, 2) := by decide +kernel
theorem d6_65 : decode method_3_code 65 = .ok (.lshl, 1) := by decide +kernel
theorem d6_66 : decode method_3_code 66 = .ok (.lor, 1) := by decide +kernel
theorem d6_67 : decode method_3_code 67 = .ok (.aload_n 0, 1) := by decide +kernel
theorem d6_68 : decode method_3_code 68 = .ok (.iload_n 1, 1) := by decide +kernel
theorem d6_69 : decode method_3_code 69 = .ok (.iconst 5, 1) := by decide +kernel
theorem d6_70 : decode method_3_code 70 = .ok (.iadd, 1) := by decide +kernel
theorem d6_71 : decode method_3_code 71 = .ok (.baload, 1) := by decide +kernel
theorem d6_72 : decode method_3_code 72 = .ok (.sipush 255, 3) := by decide +kernel
theorem d6_75 : decode method_3_code 75 = .ok (.iand, 1) := by decide +kernel
theorem d6_76 : decode method_3_code 76 = .ok (.i2l, 1) := by decide +kernel
theorem d6_77 : decode method_3_code 77 = .ok (.bipush 16, 2) := by decide +kernel
theorem d6_79 : decode method_3_code 79 = .ok (.lshl, 1) := by decide +kernel
theorem d6_80 : decode method_3_code 80 = .ok (.lor, 1) := by decide +kernel
theorem d6_81 : decode method_3_code 81 = .ok (.aload_n 0, 1) := by decide +kernel
theorem d6_82 : decode method_3_code 82 = .ok (.iload_n 1, 1) := by decide +kernel
theorem d6_83 : decode method_3_code 83 = .ok (.bipush 6, 2) := by decide +kernel
theorem d6_85 : decode method_3_code 85 = .ok (.iadd, 1) := by decide +kernel
theorem d6_86 : decode method_3_code 86 = .ok (.baload, 1) := by decide +kernel
theorem d6_87 : decode method_3_code 87 = .ok (.sipush 255, 3) := by decide +kernel
theorem d6_90 : decode method_3_code 90 = .ok (.iand, 1) := by decide +kernel
theorem d6_91 : decode method_3_code 91 = .ok (.i2l, 1) := by decide +kernel
theorem d6_92 : decode method_3_code 92 = .ok (.bipush 8, 2) := by decide +kernel
theorem d6_94 : decode method_3_code 94 = .ok (.lshl, 1) := by decide +kernel
theorem d6_95 : decode method_3_code 95 = .ok (.lor, 1) := by decide +kernel
theorem d6_96 : decode method_3_code 96 = .ok (.aload_n 0, 1) := by decide +kernel
theorem d6_97 : decode method_3_code 97 = .ok (.iload_n 1, 1) := by decide +kernel
theorem d6_98 : decode method_3_code 98 = .ok (.bipush 7, 2) := by decide +kernel
theorem d6_100 : decode method_3_code 100 = .ok (.iadd, 1) := by decide +kernel
theorem d6_101 : decode method_3_code 101 = .ok (.baload, 1) := by decide +kernel
theorem d6_102 : decode method_3_code 102 = .ok (.sipush 255, 3) := by decide +kernel
theorem d6_105 : decode method_3_code 105 = .ok (.iand, 1) := by decide +kernel
theorem d6_106 : decode method_3_code 106 = .ok (.i2l, 1) := by decide +kernel
theorem d6_107 : decode method_3_code 107 = .ok (.lor, 1) := by decide +kernel
theorem d6_108 : decode method_3_code 108 = .ok (.lreturn, 1) := by decide +kernel
set_option maxRecDepth 65536 in
set_option maxHeartbeats 40000000 in
theorem rpack (l : Launch) (Z : State) (a0 : Array Value) (hw : ∀ d ∈ tables_1, d.before a0 Z = true) (ws : List Jvm.Cond) (a1 : Addr) (p2 : Int32) (kA : ClassId) (z : Int32) (vs : List Value) (k : Nat) (x0 : Int32) (x1 : Int32) (x2 : Int32) (x3 : Int32) (x4 : Int32) (x5 : Int32) (x6 : Int32) (x7 : Int32) (h0 : Heap) (n0 : Nat) (Z0 : n0 ≤ h0.size) (V0 : Arv Z h0 a1 kA .byte z vs (.int (0 : Int32))) (hp : p2.toInt = k) (hk : k + 8 ≤ vs.length) (hz : vs.length = z.toNatClampNeg) (hl : vs.length < 900) (y0 : vs.getD (k) (.int (0 : Int32)) = .int x0) (y1 : vs.getD (k + 1) (.int (0 : Int32)) = .int x1) (y2 : vs.getD (k + 2) (.int (0 : Int32)) = .int x2) (y3 : vs.getD (k + 3) (.int (0 : Int32)) = .int x3) (y4 : vs.getD (k + 4) (.int (0 : Int32)) = .int x4) (y5 : vs.getD (k + 5) (.int (0 : Int32)) = .int x5) (y6 : vs.getD (k + 6) (.int (0 : Int32)) = .int x6) (y7 : vs.getD (k + 7) (.int (0 : Int32)) = .int x7) :
    MetFree l (⟨"com/example/libidem/libidem/model/FingerprintFromDigestPinLaw", "pack", "([BI)J"⟩ : MethodName) (head1 (Jvm.Cond.code (⟨"com/example/libidem/libidem/model/FingerprintFromDigestPinLaw", "pack", "([BI)J"⟩ : MethodName) method_3_code 2 (some .long) :: ws) ({ frames := 0, cells := 0, slots := 0, locals := 0 } : Room)) (fun a U => a = #[(.ref a1), (.int p2)] ∧ Z.Warmed39 U.vm ∧ U.heap = h0) (fun _ _ _ _ _ => True) (fun _ U o U' => ∃ v L, o = .returned v ∧ Q_rpack Z a1 p2 kA z vs k x0 x1 x2 x3 x4 x5 x6 x7 h0 n0 v U'.heap L ∧ FrameEnd U o U' L ({ frames := 0, cells := 0, slots := 0, locals := 0 } : Room).cells ({ frames := 0, cells := 0, slots := 0, locals := 0 } : Room).slots) := by
  refine MetFree.of_bodySF (plainFor_of_name pn_6) hisR ?_
  intro p e s m args below meth c s₁ Bd hml0 hP hK
  obtain ⟨rfl, hZ, hh⟩ := hP
  have hx := Bd.exec
  have hby := Bd.bytes
  have hml : c.maxLocals = 2 := hml0
  have hown : s.vm.findClass "com/example/libidem/libidem/model/FingerprintFromDigestPinLaw" = some m.cls := findClass_of_methodNamed Bd.named
  have hnm := (name_of_methodNamed Bd.named Bd.method).1
  have X0 : Stand p l e ({ frames := 0, cells := 0, slots := 0, locals := 0 } : Room) s m #[(.ref a1), (.int p2)] below meth c s₁ [] 0 0 := Stand.of_body Bd
  have e0 : s₁.heap = h0 := by rw [← hh, Bd.state]; rfl
  have N0 := Fr.nil n0
  refine own_go (g' := (mkF m 0 #[.val (.ref a1), .val (.int p2)] [])) (fun t k => castTop (ef_6 m (a1) (p2)) k) ?_
  refine own_go (T' := s₁) (g' := (mkF m 2 #[.val (.ref a1), .val (.int p2)] [(.int p2), (.ref a1)])) (fun t kt => ?_) ?_
  · show Steps p.tables e below (s₁.setTop (mkF m 0 #[.val (.ref a1), .val (.int p2)] [])) t
    refine XS.aloadN X0.here hx rfl (hb hby d6_0) rfl rfl ?_
    show Steps p.tables e below (s₁.setTop (mkF m 1 #[.val (.ref a1), .val (.int p2)] [(.ref a1)])) t
    refine XS.iloadN X0.here hx rfl (hb hby d6_1) rfl ?_
    exact kt
  have vq_1 := V0
  obtain ⟨c_1, a_1, q_1, s_1, m_1, H_1, G_1⟩ := vq_1
  have hin_1 : ¬ (p2 < 0 ∨ c_1.slots.size ≤ (p2).toNatClampNeg) := own_inb s_1 hz (own_i0 p2 k hp) (by omega)
  have hat_1 : c_1.slots[(p2).toNatClampNeg]? = some (.int x0) := H_1.at hin_1 (by rw [(own_i0 p2 k hp).1]; exact y0)
  refine own_go (T' := s₁) (g' := (mkF m 3 #[.val (.ref a1), .val (.int p2)] [(.int x0)])) (fun t kt => ?_) ?_
  · refine X0.baloadBytes hx (j := p2) (v := (.int x0)) (by rw [e0]; exact a_1.1) (State.isArrayOf_alike hZ.alike a_1.2.1) a_1.2.2 hin_1 hat_1 (g := (mkF m 2 #[.val (.ref a1), .val (.int p2)] [(.int p2), (.ref a1)])) rfl rfl (hb hby d6_2) _ ?_
    exact kt
  refine own_go (T' := s₁) (g' := (mkF m 15 #[.val (.ref a1), .val (.int p2)] [(.int (p2 + (1 : Int32))), (.ref a1), (.long (((x0 &&& (255 : Int32)).toInt64) <<< ((56 : Int32) &&& 0x3f).toInt64))])) (fun t kt => ?_) ?_
  · show Steps p.tables e below (s₁.setTop (mkF m 3 #[.val (.ref a1), .val (.int p2)] [(.int x0)])) t
    refine XS.sipush X0.here hx rfl (hb hby d6_3) ?_
    show Steps p.tables e below (s₁.setTop (mkF m 6 #[.val (.ref a1), .val (.int p2)] [(.int (255 : Int32)), (.int x0)])) t
    refine XS.iand X0.here hx rfl (hb hby d6_6) rfl ?_
    show Steps p.tables e below (s₁.setTop (mkF m 7 #[.val (.ref a1), .val (.int p2)] [(.int (x0 &&& (255 : Int32)))])) t
    refine XS.i2l X0.here hx rfl (hb hby d6_7) rfl ?_
    show Steps p.tables e below (s₁.setTop (mkF m 8 #[.val (.ref a1), .val (.int p2)] [(.long ((x0 &&& (255 : Int32)).toInt64))])) t
    refine XS.bipush X0.here hx rfl (hb hby d6_8) ?_
    show Steps p.tables e below (s₁.setTop (mkF m 10 #[.val (.ref a1), .val (.int p2)] [(.int (56 : Int32)), (.long ((x0 &&& (255 : Int32)).toInt64))])) t
    refine XS.lshl X0.here hx rfl (hb hby d6_10) rfl ?_
    show Steps p.tables e below (s₁.setTop (mkF m 11 #[.val (.ref a1), .val (.int p2)] [(.long (((x0 &&& (255 : Int32)).toInt64) <<< ((56 : Int32) &&& 0x3f).toInt64))])) t
    refine XS.aloadN X0.here hx rfl (hb hby d6_11) rfl rfl ?_
    show Steps p.tables e below (s₁.setTop (mkF m 12 #[.val (.ref a1), .val (.int p2)] [(.ref a1), (.long (((x0 &&& (255 : Int32)).toInt64) <<< ((56 : Int32) &&& 0x3f).toInt64))])) t
    refine XS.iloadN X0.here hx rfl (hb hby d6_12) rfl ?_
    show Steps p.tables e below (s₁.setTop (mkF m 13 #[.val (.ref a1), .val (.int p2)] [(.int p2), (.ref a1), (.long (((x0 &&& (255 : Int32)).toInt64) <<< ((56 : Int32) &&& 0x3f).toInt64))])) t
    refine XS.iconst X0.here hx rfl (hb hby d6_13) ?_
    show Steps p.tables e below (s₁.setTop (mkF m 14 #[.val (.ref a1), .val (.int p2)] [(.int (1 : Int32)), (.int p2), (.ref a1), (.long (((x0 &&& (255 : Int32)).toInt64) <<< ((56 : Int32) &&& 0x3f).toInt64))])) t
    refine XS.iadd X0.here hx rfl (hb hby d6_14) rfl ?_
    exact kt
  have vq_2 := V0
  obtain ⟨c_2, a_2, q_2, s_2, m_2, H_2, G_2⟩ := vq_2
  have hin_2 : ¬ ((p2 + (1 : Int32)) < 0 ∨ c_2.slots.size ≤ ((p2 + (1 : Int32))).toNatClampNeg) := own_inb s_2 hz (own_ix p2 (1 : Int32) k 1 hp rfl (by omega)) (by omega)
  have hat_2 : c_2.slots[((p2 + (1 : Int32))).toNatClampNeg]? = some (.int x1) := H_2.at hin_2 (by rw [(own_ix p2 (1 : Int32) k 1 hp rfl (by omega)).1]; exact y1)
  refine own_go (T' := s₁) (g' := (mkF m 16 #[.val (.ref a1), .val (.int p2)] [(.int x1), (.long (((x0 &&& (255 : Int32)).toInt64) <<< ((56 : Int32) &&& 0x3f).toInt64))])) (fun t kt => ?_) ?_
  · refine X0.baloadBytes hx (j := (p2 + (1 : Int32))) (v := (.int x1)) (by rw [e0]; exact a_2.1) (State.isArrayOf_alike hZ.alike a_2.2.1) a_2.2.2 hin_2 hat_2 (g := (mkF m 15 #[.val (.ref a1), .val (.int p2)] [(.int (p2 + (1 : Int32))), (.ref a1), (.long (((x0 &&& (255 : Int32)).toInt64) <<< ((56 : Int32) &&& 0x3f).toInt64))])) rfl rfl (hb hby d6_15) _ ?_
    exact kt
  refine own_go (T' := s₁) (g' := (mkF m 29 #[.val (.ref a1), .val (.int p2)] [(.int (p2 + (2 : Int32))), (.ref a1), (.long ((((x0 &&& (255 : Int32)).toInt64) <<< ((56 : Int32) &&& 0x3f).toInt64) ||| (((x1 &&& (255 : Int32)).toInt64) <<< ((48 : Int32) &&& 0x3f).toInt64)))])) (fun t kt => ?_) ?_
  · show Steps p.tables e below (s₁.setTop (mkF m 16 #[.val (.ref a1), .val (.int p2)] [(.int x1), (.long (((x0 &&& (255 : Int32)).toInt64) <<< ((56 : Int32) &&& 0x3f).toInt64))])) t
    refine XS.sipush X0.here hx rfl (hb hby d6_16) ?_
    show Steps p.tables e below (s₁.setTop (mkF m 19 #[.val (.ref a1), .val (.int p2)] [(.int (255 : Int32)), (.int x1), (.long (((x0 &&& (255 : Int32)).toInt64) <<< ((56 : Int32) &&& 0x3f).toInt64))])) t
    refine XS.iand X0.here hx rfl (hb hby d6_19) rfl ?_
    show Steps p.tables e below (s₁.setTop (mkF m 20 #[.val (.ref a1), .val (.int p2)] [(.int (x1 &&& (255 : Int32))), (.long (((x0 &&& (255 : Int32)).toInt64) <<< ((56 : Int32) &&& 0x3f).toInt64))])) t
    refine XS.i2l X0.here hx rfl (hb hby d6_20) rfl ?_
    show Steps p.tables e below (s₁.setTop (mkF m 21 #[.val (.ref a1), .val (.int p2)] [(.long ((x1 &&& (255 : Int32)).toInt64)), (.long (((x0 &&& (255 : Int32)).toInt64) <<< ((56 : Int32) &&& 0x3f).toInt64))])) t
    refine XS.bipush X0.here hx rfl (hb hby d6_21) ?_
    show Steps p.tables e below (s₁.setTop (mkF m 23 #[.val (.ref a1), .val (.int p2)] [(.int (48 : Int32)), (.long ((x1 &&& (255 : Int32)).toInt64)), (.long (((x0 &&& (255 : Int32)).toInt64) <<< ((56 : Int32) &&& 0x3f).toInt64))])) t
    refine XS.lshl X0.here hx rfl (hb hby d6_23) rfl ?_
    show Steps p.tables e below (s₁.setTop (mkF m 24 #[.val (.ref a1), .val (.int p2)] [(.long (((x1 &&& (255 : Int32)).toInt64) <<< ((48 : Int32) &&& 0x3f).toInt64)), (.long (((x0 &&& (255 : Int32)).toInt64) <<< ((56 : Int32) &&& 0x3f).toInt64))])) t
    refine XS.lor X0.here hx rfl (hb hby d6_24) rfl ?_
    show Steps p.tables e below (s₁.setTop (mkF m 25 #[.val (.ref a1), .val (.int p2)] [(.long ((((x0 &&& (255 : Int32)).toInt64) <<< ((56 : Int32) &&& 0x3f).toInt64) ||| (((x1 &&& (255 : Int32)).toInt64) <<< ((48 : Int32) &&& 0x3f).toInt64)))])) t
    refine XS.aloadN X0.here hx rfl (hb hby d6_25) rfl rfl ?_
    show Steps p.tables e below (s₁.setTop (mkF m 26 #[.val (.ref a1), .val (.int p2)] [(.ref a1), (.long ((((x0 &&& (255 : Int32)).toInt64) <<< ((56 : Int32) &&& 0x3f).toInt64) ||| (((x1 &&& (255 : Int32)).toInt64) <<< ((48 : Int32) &&& 0x3f).toInt64)))])) t
    refine XS.iloadN X0.here hx rfl (hb hby d6_26) rfl ?_
    show Steps p.tables e below (s₁.setTop (mkF m 27 #[.val (.ref a1), .val (.int p2)] [(.int p2), (.ref a1), (.long ((((x0 &&& (255 : Int32)).toInt64) <<< ((56 : Int32) &&& 0x3f).toInt64) ||| (((x1 &&& (255 : Int32)).toInt64) <<< ((48 : Int32) &&& 0x3f).toInt64)))])) t
    refine XS.iconst X0.here hx rfl (hb hby d6_27) ?_
    show Steps p.tables e below (s₁.setTop (mkF m 28 #[.val (.ref a1), .val (.int p2)] [(.int (2 : Int32)), (.int p2), (.ref a1), (.long ((((x0 &&& (255 : Int32)).toInt64) <<< ((56 : Int32) &&& 0x3f).toInt64) ||| (((x1 &&& (255 : Int32)).toInt64) <<< ((48 : Int32) &&& 0x3f).toInt64)))])) t
    refine XS.iadd X0.here hx rfl (hb hby d6_28) rfl ?_
    exact kt
  have vq_3 := V0
  obtain ⟨c_3, a_3, q_3, s_3, m_3, H_3, G_3⟩ := vq_3
  have hin_3 : ¬ ((p2 + (2 : Int32)) < 0 ∨ c_3.slots.size ≤ ((p2 + (2 : Int32))).toNatClampNeg) := own_inb s_3 hz (own_ix p2 (2 : Int32) k 2 hp rfl (by omega)) (by omega)
  have hat_3 : c_3.slots[((p2 + (2 : Int32))).toNatClampNeg]? = some (.int x2) := H_3.at hin_3 (by rw [(own_ix p2 (2 : Int32) k 2 hp rfl (by omega)).1]; exact y2)
  refine own_go (T' := s₁) (g' := (mkF m 30 #[.val (.ref a1), .val (.int p2)] [(.int x2), (.long ((((x0 &&& (255 : Int32)).toInt64) <<< ((56 : Int32) &&& 0x3f).toInt64) ||| (((x1 &&& (255 : Int32)).toInt64) <<< ((48 : Int32) &&& 0x3f).toInt64)))])) (fun t kt => ?_) ?_
  · refine X0.baloadBytes hx (j := (p2 + (2 : Int32))) (v := (.int x2)) (by rw [e0]; exact a_3.1) (State.isArrayOf_alike hZ.alike a_3.2.1) a_3.2.2 hin_3 hat_3 (g := (mkF m 29 #[.val (.ref a1), .val (.int p2)] [(.int (p2 + (2 : Int32))), (.ref a1), (.long ((((x0 &&& (255 : Int32)).toInt64) <<< ((56 : Int32) &&& 0x3f).toInt64) ||| (((x1 &&& (255 : Int32)).toInt64) <<< ((48 : Int32) &&& 0x3f).toInt64)))])) rfl rfl (hb hby d6_29) _ ?_
    exact kt
  refine own_go (T' := s₁) (g' := (mkF m 43 #[.val (.ref a1), .val (.int p2)] [(.int (p2 + (3 : Int32))), (.ref a1), (.long (((((x0 &&& (255 : Int32)).toInt64) <<< ((56 : Int32) &&& 0x3f).toInt64) ||| (((x1 &&& (255 : Int32)).toInt64) <<< ((48 : Int32) &&& 0x3f).toInt64)) ||| (((x2 &&& (255 : Int32)).toInt64) <<< ((40 : Int32) &&& 0x3f).toInt64)))])) (fun t kt => ?_) ?_
  · show Steps p.tables e below (s₁.setTop (mkF m 30 #[.val (.ref a1), .val (.int p2)] [(.int x2), (.long ((((x0 &&& (255 : Int32)).toInt64) <<< ((56 : Int32) &&& 0x3f).toInt64) ||| (((x1 &&& (255 : Int32)).toInt64) <<< ((48 : Int32) &&& 0x3f).toInt64)))])) t
    refine XS.sipush X0.here hx rfl (hb hby d6_30) ?_
    show Steps p.tables e below (s₁.setTop (mkF m 33 #[.val (.ref a1), .val (.int p2)] [(.int (255 : Int32)), (.int x2), (.long ((((x0 &&& (255 : Int32)).toInt64) <<< ((56 : Int32) &&& 0x3f).toInt64) ||| (((x1 &&& (255 : Int32)).toInt64) <<< ((48 : Int32) &&& 0x3f).toInt64)))])) t
    refine XS.iand X0.here hx rfl (hb hby d6_33) rfl ?_
    show Steps p.tables e below (s₁.setTop (mkF m 34 #[.val (.ref a1), .val (.int p2)] [(.int (x2 &&& (255 : Int32))), (.long ((((x0 &&& (255 : Int32)).toInt64) <<< ((56 : Int32) &&& 0x3f).toInt64) ||| (((x1 &&& (255 : Int32)).toInt64) <<< ((48 : Int32) &&& 0x3f).toInt64)))])) t
    refine XS.i2l X0.here hx rfl (hb hby d6_34) rfl ?_
    show Steps p.tables e below (s₁.setTop (mkF m 35 #[.val (.ref a1), .val (.int p2)] [(.long ((x2 &&& (255 : Int32)).toInt64)), (.long ((((x0 &&& (255 : Int32)).toInt64) <<< ((56 : Int32) &&& 0x3f).toInt64) ||| (((x1 &&& (255 : Int32)).toInt64) <<< ((48 : Int32) &&& 0x3f).toInt64)))])) t
    refine XS.bipush X0.here hx rfl (hb hby d6_35) ?_
    show Steps p.tables e below (s₁.setTop (mkF m 37 #[.val (.ref a1), .val (.int p2)] [(.int (40 : Int32)), (.long ((x2 &&& (255 : Int32)).toInt64)), (.long ((((x0 &&& (255 : Int32)).toInt64) <<< ((56 : Int32) &&& 0x3f).toInt64) ||| (((x1 &&& (255 : Int32)).toInt64) <<< ((48 : Int32) &&& 0x3f).toInt64)))])) t
    refine XS.lshl X0.here hx rfl (hb hby d6_37) rfl ?_
    show Steps p.tables e below (s₁.setTop (mkF m 38 #[.val (.ref a1), .val (.int p2)] [(.long (((x2 &&& (255 : Int32)).toInt64) <<< ((40 : Int32) &&& 0x3f).toInt64)), (.long ((((x0 &&& (255 : Int32)).toInt64) <<< ((56 : Int32) &&& 0x3f).toInt64) ||| (((x1 &&& (255 : Int32)).toInt64) <<< ((48 : Int32) &&& 0x3f).toInt64)))])) t
    refine XS.lor X0.here hx rfl (hb hby d6_38) rfl ?_
    show Steps p.tables e below (s₁.setTop (mkF m 39 #[.val (.ref a1), .val (.int p2)] [(.long (((((x0 &&& (255 : Int32)).toInt64) <<< ((56 : Int32) &&& 0x3f).toInt64) ||| (((x1 &&& (255 : Int32)).toInt64) <<< ((48 : Int32) &&& 0x3f).toInt64)) ||| (((x2 &&& (255 : Int32)).toInt64) <<< ((40 : Int32) &&& 0x3f).toInt64)))])) t
    refine XS.aloadN X0.here hx rfl (hb hby d6_39) rfl rfl ?_
    show Steps p.tables e below (s₁.setTop (mkF m 40 #[.val (.ref a1), .val (.int p2)] [(.ref a1), (.long (((((x0 &&& (255 : Int32)).toInt64) <<< ((56 : Int32) &&& 0x3f).toInt64) ||| (((x1 &&& (255 : Int32)).toInt64) <<< ((48 : Int32) &&& 0x3f).toInt64)) ||| (((x2 &&& (255 : Int32)).toInt64) <<< ((40 : Int32) &&& 0x3f).toInt64)))])) t
    refine XS.iloadN X0.here hx rfl (hb hby d6_40) rfl ?_
    show Steps p.tables e below (s₁.setTop (mkF m 41 #[.val (.ref a1), .val (.int p2)] [(.int p2), (.ref a1), (.long (((((x0 &&& (255 : Int32)).toInt64) <<< ((56 : Int32) &&& 0x3f).toInt64) ||| (((x1 &&& (255 : Int32)).toInt64) <<< ((48 : Int32) &&& 0x3f).toInt64)) ||| (((x2 &&& (255 : Int32)).toInt64) <<< ((40 : Int32) &&& 0x3f).toInt64)))])) t
    refine XS.iconst X0.here hx rfl (hb hby d6_41) ?_
    show Steps p.tables e below (s₁.setTop (mkF m 42 #[.val (.ref a1), .val (.int p2)] [(.int (3 : Int32)), (.int p2), (.ref a1), (.long (((((x0 &&& (255 : Int32)).toInt64) <<< ((56 : Int32) &&& 0x3f).toInt64) ||| (((x1 &&& (255 : Int32)).toInt64) <<< ((48 : Int32) &&& 0x3f).toInt64)) ||| (((x2 &&& (255 : Int32)).toInt64) <<< ((40 : Int32) &&& 0x3f).toInt64)))])) t
    refine XS.iadd X0.here hx rfl (hb hby d6_42) rfl ?_
    exact kt
  have vq_4 := V0
  obtain ⟨c_4, a_4, q_4, s_4, m_4, H_4, G_4⟩ := vq_4
  have hin_4 : ¬ ((p2 + (3 : Int32)) < 0 ∨ c_4.slots.size ≤ ((p2 + (3 : Int32))).toNatClampNeg) := own_inb s_4 hz (own_ix p2 (3 : Int32) k 3 hp rfl (by omega)) (by omega)
  have hat_4 : c_4.slots[((p2 + (3 : Int32))).toNatClampNeg]? = some (.int x3) := H_4.at hin_4 (by rw [(own_ix p2 (3 : Int32) k 3 hp rfl (by omega)).1]; exact y3)
  refine own_go (T' := s₁) (g' := (mkF m 44 #[.val (.ref a1), .val (.int p2)] [(.int x3), (.long (((((x0 &&& (255 : Int32)).toInt64) <<< ((56 : Int32) &&& 0x3f).toInt64) ||| (((x1 &&& (255 : Int32)).toInt64) <<< ((48 : Int32) &&& 0x3f).toInt64)) ||| (((x2 &&& (255 : Int32)).toInt64) <<< ((40 : Int32) &&& 0x3f).toInt64)))])) (fun t kt => ?_) ?_
  · refine X0.baloadBytes hx (j := (p2 + (3 : Int32))) (v := (.int x3)) (by rw [e0]; exact a_4.1) (State.isArrayOf_alike hZ.alike a_4.2.1) a_4.2.2 hin_4 hat_4 (g := (mkF m 43 #[.val (.ref a1), .val (.int p2)] [(.int (p2 + (3 : Int32))), (.ref a1), (.long (((((x0 &&& (255 : Int32)).toInt64) <<< ((56 : Int32) &&& 0x3f).toInt64) ||| (((x1 &&& (255 : Int32)).toInt64) <<< ((48 : Int32) &&& 0x3f).toInt64)) ||| (((x2 &&& (255 : Int32)).toInt64) <<< ((40 : Int32) &&& 0x3f).toInt64)))])) rfl rfl (hb hby d6_43) _ ?_
    exact kt
  refine own_go (T' := s₁) (g' := (mkF m 57 #[.val (.ref a1), .val (.int p2)] [(.int (p2 + (4 : Int32))), (.ref a1), (.long ((((((x0 &&& (255 : Int32)).toInt64) <<< ((56 : Int32) &&& 0x3f).toInt64) ||| (((x1 &&& (255 : Int32)).toInt64) <<< ((48 : Int32) &&& 0x3f).toInt64)) ||| (((x2 &&& (255 : Int32)).toInt64) <<< ((40 : Int32) &&& 0x3f).toInt64)) ||| (((x3 &&& (255 : Int32)).toInt64) <<< ((32 : Int32) &&& 0x3f).toInt64)))])) (fun t kt => ?_) ?_
  · show Steps p.tables e below (s₁.setTop (mkF m 44 #[.val (.ref a1), .val (.int p2)] [(.int x3), (.long (((((x0 &&& (255 : Int32)).toInt64) <<< ((56 : Int32) &&& 0x3f).toInt64) ||| (((x1 &&& (255 : Int32)).toInt64) <<< ((48 : Int32) &&& 0x3f).toInt64)) ||| (((x2 &&& (255 : Int32)).toInt64) <<< ((40 : Int32) &&& 0x3f).toInt64)))])) t
    refine XS.sipush X0.here hx rfl (hb hby d6_44) ?_
    show Steps p.tables e below (s₁.setTop (mkF m 47 #[.val (.ref a1), .val (.int p2)] [(.int (255 : Int32)), (.int x3), (.long (((((x0 &&& (255 : Int32)).toInt64) <<< ((56 : Int32) &&& 0x3f).toInt64) ||| (((x1 &&& (255 : Int32)).toInt64) <<< ((48 : Int32) &&& 0x3f).toInt64)) ||| (((x2 &&& (255 : Int32)).toInt64) <<< ((40 : Int32) &&& 0x3f).toInt64)))])) t
    refine XS.iand X0.here hx rfl (hb hby d6_47) rfl ?_
    show Steps p.tables e below (s₁.setTop (mkF m 48 #[.val (.ref a1), .val (.int p2)] [(.int (x3 &&& (255 : Int32))), (.long (((((x0 &&& (255 : Int32)).toInt64) <<< ((56 : Int32) &&& 0x3f).toInt64) ||| (((x1 &&& (255 : Int32)).toInt64) <<< ((48 : Int32) &&& 0x3f).toInt64)) ||| (((x2 &&& (255 : Int32)).toInt64) <<< ((40 : Int32) &&& 0x3f).toInt64)))])) t
    refine XS.i2l X0.here hx rfl (hb hby d6_48) rfl ?_
    show Steps p.tables e below (s₁.setTop (mkF m 49 #[.val (.ref a1), .val (.int p2)] [(.long ((x3 &&& (255 : Int32)).toInt64)), (.long (((((x0 &&& (255 : Int32)).toInt64) <<< ((56 : Int32) &&& 0x3f).toInt64) ||| (((x1 &&& (255 : Int32)).toInt64) <<< ((48 : Int32) &&& 0x3f).toInt64)) ||| (((x2 &&& (255 : Int32)).toInt64) <<< ((40 : Int32) &&& 0x3f).toInt64)))])) t
    refine XS.bipush X0.here hx rfl (hb hby d6_49) ?_
    show Steps p.tables e below (s₁.setTop (mkF m 51 #[.val (.ref a1), .val (.int p2)] [(.int (32 : Int32)), (.long ((x3 &&& (255 : Int32)).toInt64)), (.long (((((x0 &&& (255 : Int32)).toInt64) <<< ((56 : Int32) &&& 0x3f).toInt64) ||| (((x1 &&& (255 : Int32)).toInt64) <<< ((48 : Int32) &&& 0x3f).toInt64)) ||| (((x2 &&& (255 : Int32)).toInt64) <<< ((40 : Int32) &&& 0x3f).toInt64)))])) t
    refine XS.lshl X0.here hx rfl (hb hby d6_51) rfl ?_
    show Steps p.tables e below (s₁.setTop (mkF m 52 #[.val (.ref a1), .val (.int p2)] [(.long (((x3 &&& (255 : Int32)).toInt64) <<< ((32 : Int32) &&& 0x3f).toInt64)), (.long (((((x0 &&& (255 : Int32)).toInt64) <<< ((56 : Int32) &&& 0x3f).toInt64) ||| (((x1 &&& (255 : Int32)).toInt64) <<< ((48 : Int32) &&& 0x3f).toInt64)) ||| (((x2 &&& (255 : Int32)).toInt64) <<< ((40 : Int32) &&& 0x3f).toInt64)))])) t
    refine XS.lor X0.here hx rfl (hb hby d6_52) rfl ?_
    show Steps p.tables e below (s₁.setTop (mkF m 53 #[.val (.ref a1), .val (.int p2)] [(.long ((((((x0 &&& (255 : Int32)).toInt64) <<< ((56 : Int32) &&& 0x3f).toInt64) ||| (((x1 &&& (255 : Int32)).toInt64) <<< ((48 : Int32) &&& 0x3f).toInt64)) ||| (((x2 &&& (255 : Int32)).toInt64) <<< ((40 : Int32) &&& 0x3f).toInt64)) ||| (((x3 &&& (255 : Int32)).toInt64) <<< ((32 : Int32) &&& 0x3f).toInt64)))])) t
    refine XS.aloadN X0.here hx rfl (hb hby d6_53) rfl rfl ?_
    show Steps p.tables e below (s₁.setTop (mkF m 54 #[.val (.ref a1), .val (.int p2)] [(.ref a1), (.long ((((((x0 &&& (255 : Int32)).toInt64) <<< ((56 : Int32) &&& 0x3f).toInt64) ||| (((x1 &&& (255 : Int32)).toInt64) <<< ((48 : Int32) &&& 0x3f).toInt64)) ||| (((x2 &&& (255 : Int32)).toInt64) <<< ((40 : Int32) &&& 0x3f).toInt64)) ||| (((x3 &&& (255 : Int32)).toInt64) <<< ((32 : Int32) &&& 0x3f).toInt64)))])) t
    refine XS.iloadN X0.here hx rfl (hb hby d6_54) rfl ?_
    show Steps p.tables e below (s₁.setTop (mkF m 55 #[.val (.ref a1), .val (.int p2)] [(.int p2), (.ref a1), (.long ((((((x0 &&& (255 : Int32)).toInt64) <<< ((56 : Int32) &&& 0x3f).toInt64) ||| (((x1 &&& (255 : Int32)).toInt64) <<< ((48 : Int32) &&& 0x3f).toInt64)) ||| (((x2 &&& (255 : Int32)).toInt64) <<< ((40 : Int32) &&& 0x3f).toInt64)) ||| (((x3 &&& (255 : Int32)).toInt64) <<< ((32 : Int32) &&& 0x3f).toInt64)))])) t
    refine XS.iconst X0.here hx rfl (hb hby d6_55) ?_
    show Steps p.tables e below (s₁.setTop (mkF m 56 #[.val (.ref a1), .val (.int p2)] [(.int (4 : Int32)), (.int p2), (.ref a1), (.long ((((((x0 &&& (255 : Int32)).toInt64) <<< ((56 : Int32) &&& 0x3f).toInt64) ||| (((x1 &&& (255 : Int32)).toInt64) <<< ((48 : Int32) &&& 0x3f).toInt64)) ||| (((x2 &&& (255 : Int32)).toInt64) <<< ((40 : Int32) &&& 0x3f).toInt64)) ||| (((x3 &&& (255 : Int32)).toInt64) <<< ((32 : Int32) &&& 0x3f).toInt64)))])) t
    refine XS.iadd X0.here hx rfl (hb hby d6_56) rfl ?_
    exact kt
  have vq_5 := V0
  obtain ⟨c_5, a_5, q_5, s_5, m_5, H_5, G_5⟩ := vq_5
  have hin_5 : ¬ ((p2 + (4 : Int32)) < 0 ∨ c_5.slots.size ≤ ((p2 + (4 : Int32))).toNatClampNeg) := own_inb s_5 hz (own_ix p2 (4 : Int32) k 4 hp rfl (by omega)) (by omega)
  have hat_5 : c_5.slots[((p2 + (4 : Int32))).toNatClampNeg]? = some (.int x4) := H_5.at hin_5 (by rw [(own_ix p2 (4 : Int32) k 4 hp rfl (by omega)).1]; exact y4)
  refine own_go (T' := s₁) (g' := (mkF m 58 #[.val (.ref a1), .val (.int p2)] [(.int x4), (.long ((((((x0 &&& (255 : Int32)).toInt64) <<< ((56 : Int32) &&& 0x3f).toInt64) ||| (((x1 &&& (255 : Int32)).toInt64) <<< ((48 : Int32) &&& 0x3f).toInt64)) ||| (((x2 &&& (255 : Int32)).toInt64) <<< ((40 : Int32) &&& 0x3f).toInt64)) ||| (((x3 &&& (255 : Int32)).toInt64) <<< ((32 : Int32) &&& 0x3f).toInt64)))])) (fun t kt => ?_) ?_
  · refine X0.baloadBytes hx (j := (p2 + (4 : Int32))) (v := (.int x4)) (by rw [e0]; exact a_5.1) (State.isArrayOf_alike hZ.alike a_5.2.1) a_5.2.2 hin_5 hat_5 (g := (mkF m 57 #[.val (.ref a1), .val (.int p2)] [(.int (p2 + (4 : Int32))), (.ref a1), (.long ((((((x0 &&& (255 : Int32)).toInt64) <<< ((56 : Int32) &&& 0x3f).toInt64) ||| (((x1 &&& (255 : Int32)).toInt64) <<< ((48 : Int32) &&& 0x3f).toInt64)) ||| (((x2 &&& (255 : Int32)).toInt64) <<< ((40 : Int32) &&& 0x3f).toInt64)) ||| (((x3 &&& (255 : Int32)).toInt64) <<< ((32 : Int32) &&& 0x3f).toInt64)))])) rfl rfl (hb hby d6_57) _ ?_
    exact kt
  refine own_go (T' := s₁) (g' := (mkF m 71 #[.val (.ref a1), .val (.int p2)] [(.int (p2 + (5 : Int32))), (.ref a1), (.long (((((((x0 &&& (255 : Int32)).toInt64) <<< ((56 : Int32) &&& 0x3f).toInt64) ||| (((x1 &&& (255 : Int32)).toInt64) <<< ((48 : Int32) &&& 0x3f).toInt64)) ||| (((x2 &&& (255 : Int32)).toInt64) <<< ((40 : Int32) &&& 0x3f).toInt64)) ||| (((x3 &&& (255 : Int32)).toInt64) <<< ((32 : Int32) &&& 0x3f).toInt64)) ||| (((x4 &&& (255 : Int32)).toInt64) <<< ((24 : Int32) &&& 0x3f).toInt64)))])) (fun t kt => ?_) ?_
  · show Steps p.tables e below (s₁.setTop (mkF m 58 #[.val (.ref a1), .val (.int p2)] [(.int x4), (.long ((((((x0 &&& (255 : Int32)).toInt64) <<< ((56 : Int32) &&& 0x3f).toInt64) ||| (((x1 &&& (255 : Int32)).toInt64) <<< ((48 : Int32) &&& 0x3f).toInt64)) ||| (((x2 &&& (255 : Int32)).toInt64) <<< ((40 : Int32) &&& 0x3f).toInt64)) ||| (((x3 &&& (255 : Int32)).toInt64) <<< ((32 : Int32) &&& 0x3f).toInt64)))])) t
    refine XS.sipush X0.here hx rfl (hb hby d6_58) ?_
    show Steps p.tables e below (s₁.setTop (mkF m 61 #[.val (.ref a1), .val (.int p2)] [(.int (255 : Int32)), (.int x4), (.long ((((((x0 &&& (255 : Int32)).toInt64) <<< ((56 : Int32) &&& 0x3f).toInt64) ||| (((x1 &&& (255 : Int32)).toInt64) <<< ((48 : Int32) &&& 0x3f).toInt64)) ||| (((x2 &&& (255 : Int32)).toInt64) <<< ((40 : Int32) &&& 0x3f).toInt64)) ||| (((x3 &&& (255 : Int32)).toInt64) <<< ((32 : Int32) &&& 0x3f).toInt64)))])) t
    refine XS.iand X0.here hx rfl (hb hby d6_61) rfl ?_
    show Steps p.tables e below (s₁.setTop (mkF m 62 #[.val (.ref a1), .val (.int p2)] [(.int (x4 &&& (255 : Int32))), (.long ((((((x0 &&& (255 : Int32)).toInt64) <<< ((56 : Int32) &&& 0x3f).toInt64) ||| (((x1 &&& (255 : Int32)).toInt64) <<< ((48 : Int32) &&& 0x3f).toInt64)) ||| (((x2 &&& (255 : Int32)).toInt64) <<< ((40 : Int32) &&& 0x3f).toInt64)) ||| (((x3 &&& (255 : Int32)).toInt64) <<< ((32 : Int32) &&& 0x3f).toInt64)))])) t
    refine XS.i2l X0.here hx rfl (hb hby d6_62) rfl ?_
    show Steps p.tables e below (s₁.setTop (mkF m 63 #[.val (.ref a1), .val (.int p2)] [(.long ((x4 &&& (255 : Int32)).toInt64)), (.long ((((((x0 &&& (255 : Int32)).toInt64) <<< ((56 : Int32) &&& 0x3f).toInt64) ||| (((x1 &&& (255 : Int32)).toInt64) <<< ((48 : Int32) &&& 0x3f).toInt64)) ||| (((x2 &&& (255 : Int32)).toInt64) <<< ((40 : Int32) &&& 0x3f).toInt64)) ||| (((x3 &&& (255 : Int32)).toInt64) <<< ((32 : Int32) &&& 0x3f).toInt64)))])) t
    refine XS.bipush X0.here hx rfl (hb hby d6_63) ?_
    show Steps p.tables e below (s₁.setTop (mkF m 65 #[.val (.ref a1), .val (.int p2)] [(.int (24 : Int32)), (.long ((x4 &&& (255 : Int32)).toInt64)), (.long ((((((x0 &&& (255 : Int32)).toInt64) <<< ((56 : Int32) &&& 0x3f).toInt64) ||| (((x1 &&& (255 : Int32)).toInt64) <<< ((48 : Int32) &&& 0x3f).toInt64)) ||| (((x2 &&& (255 : Int32)).toInt64) <<< ((40 : Int32) &&& 0x3f).toInt64)) ||| (((x3 &&& (255 : Int32)).toInt64) <<< ((32 : Int32) &&& 0x3f).toInt64)))])) t
    refine XS.lshl X0.here hx rfl (hb hby d6_65) rfl ?_
    show Steps p.tables e below (s₁.setTop (mkF m 66 #[.val (.ref a1), .val (.int p2)] [(.long (((x4 &&& (255 : Int32)).toInt64) <<< ((24 : Int32) &&& 0x3f).toInt64)), (.long ((((((x0 &&& (255 : Int32)).toInt64) <<< ((56 : Int32) &&& 0x3f).toInt64) ||| (((x1 &&& (255 : Int32)).toInt64) <<< ((48 : Int32) &&& 0x3f).toInt64)) ||| (((x2 &&& (255 : Int32)).toInt64) <<< ((40 : Int32) &&& 0x3f).toInt64)) ||| (((x3 &&& (255 : Int32)).toInt64) <<< ((32 : Int32) &&& 0x3f).toInt64)))])) t
    refine XS.lor X0.here hx rfl (hb hby d6_66) rfl ?_
    show Steps p.tables e below (s₁.setTop (mkF m 67 #[.val (.ref a1), .val (.int p2)] [(.long (((((((x0 &&& (255 : Int32)).toInt64) <<< ((56 : Int32) &&& 0x3f).toInt64) ||| (((x1 &&& (255 : Int32)).toInt64) <<< ((48 : Int32) &&& 0x3f).toInt64)) ||| (((x2 &&& (255 : Int32)).toInt64) <<< ((40 : Int32) &&& 0x3f).toInt64)) ||| (((x3 &&& (255 : Int32)).toInt64) <<< ((32 : Int32) &&& 0x3f).toInt64)) ||| (((x4 &&& (255 : Int32)).toInt64) <<< ((24 : Int32) &&& 0x3f).toInt64)))])) t
    refine XS.aloadN X0.here hx rfl (hb hby d6_67) rfl rfl ?_
    show Steps p.tables e below (s₁.setTop (mkF m 68 #[.val (.ref a1), .val (.int p2)] [(.ref a1), (.long (((((((x0 &&& (255 : Int32)).toInt64) <<< ((56 : Int32) &&& 0x3f).toInt64) ||| (((x1 &&& (255 : Int32)).toInt64) <<< ((48 : Int32) &&& 0x3f).toInt64)) ||| (((x2 &&& (255 : Int32)).toInt64) <<< ((40 : Int32) &&& 0x3f).toInt64)) ||| (((x3 &&& (255 : Int32)).toInt64) <<< ((32 : Int32) &&& 0x3f).toInt64)) ||| (((x4 &&& (255 : Int32)).toInt64) <<< ((24 : Int32) &&& 0x3f).toInt64)))])) t
    refine XS.iloadN X0.here hx rfl (hb hby d6_68) rfl ?_
    show Steps p.tables e below (s₁.setTop (mkF m 69 #[.val (.ref a1), .val (.int p2)] [(.int p2), (.ref a1), (.long (((((((x0 &&& (255 : Int32)).toInt64) <<< ((56 : Int32) &&& 0x3f).toInt64) ||| (((x1 &&& (255 : Int32)).toInt64) <<< ((48 : Int32) &&& 0x3f).toInt64)) ||| (((x2 &&& (255 : Int32)).toInt64) <<< ((40 : Int32) &&& 0x3f).toInt64)) ||| (((x3 &&& (255 : Int32)).toInt64) <<< ((32 : Int32) &&& 0x3f).toInt64)) ||| (((x4 &&& (255 : Int32)).toInt64) <<< ((24 : Int32) &&& 0x3f).toInt64)))])) t
    refine XS.iconst X0.here hx rfl (hb hby d6_69) ?_
    show Steps p.tables e below (s₁.setTop (mkF m 70 #[.val (.ref a1), .val (.int p2)] [(.int (5 : Int32)), (.int p2), (.ref a1), (.long (((((((x0 &&& (255 : Int32)).toInt64) <<< ((56 : Int32) &&& 0x3f).toInt64) ||| (((x1 &&& (255 : Int32)).toInt64) <<< ((48 : Int32) &&& 0x3f).toInt64)) ||| (((x2 &&& (255 : Int32)).toInt64) <<< ((40 : Int32) &&& 0x3f).toInt64)) ||| (((x3 &&& (255 : Int32)).toInt64) <<< ((32 : Int32) &&& 0x3f).toInt64)) ||| (((x4 &&& (255 : Int32)).toInt64) <<< ((24 : Int32) &&& 0x3f).toInt64)))])) t
    refine XS.iadd X0.here hx rfl (hb hby d6_70) rfl ?_
    exact kt
  have vq_6 := V0
  obtain ⟨c_6, a_6, q_6, s_6, m_6, H_6, G_6⟩ := vq_6
  have hin_6 : ¬ ((p2 + (5 : Int32)) < 0 ∨ c_6.slots.size ≤ ((p2 + (5 : Int32))).toNatClampNeg) := own_inb s_6 hz (own_ix p2 (5 : Int32) k 5 hp rfl (by omega)) (by omega)
  have hat_6 : c_6.slots[((p2 + (5 : Int32))).toNatClampNeg]? = some (.int x5) := H_6.at hin_6 (by rw [(own_ix p2 (5 : Int32) k 5 hp rfl (by omega)).1]; exact y5)
  refine own_go (T' := s₁) (g' := (mkF m 72 #[.val (.ref a1), .val (.int p2)] [(.int x5), (.long (((((((x0 &&& (255 : Int32)).toInt64) <<< ((56 : Int32) &&& 0x3f).toInt64) ||| (((x1 &&& (255 : Int32)).toInt64) <<< ((48 : Int32) &&& 0x3f).toInt64)) ||| (((x2 &&& (255 : Int32)).toInt64) <<< ((40 : Int32) &&& 0x3f).toInt64)) ||| (((x3 &&& (255 : Int32)).toInt64) <<< ((32 : Int32) &&& 0x3f).toInt64)) ||| (((x4 &&& (255 : Int32)).toInt64) <<< ((24 : Int32) &&& 0x3f).toInt64)))])) (fun t kt => ?_) ?_
  · refine X0.baloadBytes hx (j := (p2 + (5 : Int32))) (v := (.int x5)) (by rw [e0]; exact a_6.1) (State.isArrayOf_alike hZ.alike a_6.2.1) a_6.2.2 hin_6 hat_6 (g := (mkF m 71 #[.val (.ref a1), .val (.int p2)] [(.int (p2 + (5 : Int32))), (.ref a1), (.long (((((((x0 &&& (255 : Int32)).toInt64) <<< ((56 : Int32) &&& 0x3f).toInt64) ||| (((x1 &&& (255 : Int32)).toInt64) <<< ((48 : Int32) &&& 0x3f).toInt64)) ||| (((x2 &&& (255 : Int32)).toInt64) <<< ((40 : Int32) &&& 0x3f).toInt64)) ||| (((x3 &&& (255 : Int32)).toInt64) <<< ((32 : Int32) &&& 0x3f).toInt64)) ||| (((x4 &&& (255 : Int32)).toInt64) <<< ((24 : Int32) &&& 0x3f).toInt64)))])) rfl rfl (hb hby d6_71) _ ?_
    exact kt
  refine own_go (T' := s₁) (g' := (mkF m 86 #[.val (.ref a1), .val (.int p2)] [(.int (p2 + (6 : Int32))), (.ref a1), (.long ((((((((x0 &&& (255 : Int32)).toInt64) <<< ((56 : Int32) &&& 0x3f).toInt64) ||| (((x1 &&& (255 : Int32)).toInt64) <<< ((48 : Int32) &&& 0x3f).toInt64)) ||| (((x2 &&& (255 : Int32)).toInt64) <<< ((40 : Int32) &&& 0x3f).toInt64)) ||| (((x3 &&& (255 : Int32)).toInt64) <<< ((32 : Int32) &&& 0x3f).toInt64)) ||| (((x4 &&& (255 : Int32)).toInt64) <<< ((24 : Int32) &&& 0x3f).toInt64)) ||| (((x5 &&& (255 : Int32)).toInt64) <<< ((16 : Int32) &&& 0x3f).toInt64)))])) (fun t kt => ?_) ?_
  · show Steps p.tables e below (s₁.setTop (mkF m 72 #[.val (.ref a1), .val (.int p2)] [(.int x5), (.long (((((((x0 &&& (255 : Int32)).toInt64) <<< ((56 : Int32) &&& 0x3f).toInt64) ||| (((x1 &&& (255 : Int32)).toInt64) <<< ((48 : Int32) &&& 0x3f).toInt64)) ||| (((x2 &&& (255 : Int32)).toInt64) <<< ((40 : Int32) &&& 0x3f).toInt64)) ||| (((x3 &&& (255 : Int32)).toInt64) <<< ((32 : Int32) &&& 0x3f).toInt64)) ||| (((x4 &&& (255 : Int32)).toInt64) <<< ((24 : Int32) &&& 0x3f).toInt64)))])) t
    refine XS.sipush X0.here hx rfl (hb hby d6_72) ?_
    show Steps p.tables e below (s₁.setTop (mkF m 75 #[.val (.ref a1), .val (.int p2)] [(.int (255 : Int32)), (.int x5), (.long (((((((x0 &&& (255 : Int32)).toInt64) <<< ((56 : Int32) &&& 0x3f).toInt64) ||| (((x1 &&& (255 : Int32)).toInt64) <<< ((48 : Int32) &&& 0x3f).toInt64)) ||| (((x2 &&& (255 : Int32)).toInt64) <<< ((40 : Int32) &&& 0x3f).toInt64)) ||| (((x3 &&& (255 : Int32)).toInt64) <<< ((32 : Int32) &&& 0x3f).toInt64)) ||| (((x4 &&& (255 : Int32)).toInt64) <<< ((24 : Int32) &&& 0x3f).toInt64)))])) t
    refine XS.iand X0.here hx rfl (hb hby d6_75) rfl ?_
    show Steps p.tables e below (s₁.setTop (mkF m 76 #[.val (.ref a1), .val (.int p2)] [(.int (x5 &&& (255 : Int32))), (.long (((((((x0 &&& (255 : Int32)).toInt64) <<< ((56 : Int32) &&& 0x3f).toInt64) ||| (((x1 &&& (255 : Int32)).toInt64) <<< ((48 : Int32) &&& 0x3f).toInt64)) ||| (((x2 &&& (255 : Int32)).toInt64) <<< ((40 : Int32) &&& 0x3f).toInt64)) ||| (((x3 &&& (255 : Int32)).toInt64) <<< ((32 : Int32) &&& 0x3f).toInt64)) ||| (((x4 &&& (255 : Int32)).toInt64) <<< ((24 : Int32) &&& 0x3f).toInt64)))])) t
    refine XS.i2l X0.here hx rfl (hb hby d6_76) rfl ?_
    show Steps p.tables e below (s₁.setTop (mkF m 77 #[.val (.ref a1), .val (.int p2)] [(.long ((x5 &&& (255 : Int32)).toInt64)), (.long (((((((x0 &&& (255 : Int32)).toInt64) <<< ((56 : Int32) &&& 0x3f).toInt64) ||| (((x1 &&& (255 : Int32)).toInt64) <<< ((48 : Int32) &&& 0x3f).toInt64)) ||| (((x2 &&& (255 : Int32)).toInt64) <<< ((40 : Int32) &&& 0x3f).toInt64)) ||| (((x3 &&& (255 : Int32)).toInt64) <<< ((32 : Int32) &&& 0x3f).toInt64)) ||| (((x4 &&& (255 : Int32)).toInt64) <<< ((24 : Int32) &&& 0x3f).toInt64)))])) t
    refine XS.bipush X0.here hx rfl (hb hby d6_77) ?_
    show Steps p.tables e below (s₁.setTop (mkF m 79 #[.val (.ref a1), .val (.int p2)] [(.int (16 : Int32)), (.long ((x5 &&& (255 : Int32)).toInt64)), (.long (((((((x0 &&& (255 : Int32)).toInt64) <<< ((56 : Int32) &&& 0x3f).toInt64) ||| (((x1 &&& (255 : Int32)).toInt64) <<< ((48 : Int32) &&& 0x3f).toInt64)) ||| (((x2 &&& (255 : Int32)).toInt64) <<< ((40 : Int32) &&& 0x3f).toInt64)) ||| (((x3 &&& (255 : Int32)).toInt64) <<< ((32 : Int32) &&& 0x3f).toInt64)) ||| (((x4 &&& (255 : Int32)).toInt64) <<< ((24 : Int32) &&& 0x3f).toInt64)))])) t
    refine XS.lshl X0.here hx rfl (hb hby d6_79) rfl ?_
    show Steps p.tables e below (s₁.setTop (mkF m 80 #[.val (.ref a1), .val (.int p2)] [(.long (((x5 &&& (255 : Int32)).toInt64) <<< ((16 : Int32) &&& 0x3f).toInt64)), (.long (((((((x0 &&& (255 : Int32)).toInt64) <<< ((56 : Int32) &&& 0x3f).toInt64) ||| (((x1 &&& (255 : Int32)).toInt64) <<< ((48 : Int32) &&& 0x3f).toInt64)) ||| (((x2 &&& (255 : Int32)).toInt64) <<< ((40 : Int32) &&& 0x3f).toInt64)) ||| (((x3 &&& (255 : Int32)).toInt64) <<< ((32 : Int32) &&& 0x3f).toInt64)) ||| (((x4 &&& (255 : Int32)).toInt64) <<< ((24 : Int32) &&& 0x3f).toInt64)))])) t
    refine XS.lor X0.here hx rfl (hb hby d6_80) rfl ?_
    show Steps p.tables e below (s₁.setTop (mkF m 81 #[.val (.ref a1), .val (.int p2)] [(.long ((((((((x0 &&& (255 : Int32)).toInt64) <<< ((56 : Int32) &&& 0x3f).toInt64) ||| (((x1 &&& (255 : Int32)).toInt64) <<< ((48 : Int32) &&& 0x3f).toInt64)) ||| (((x2 &&& (255 : Int32)).toInt64) <<< ((40 : Int32) &&& 0x3f).toInt64)) ||| (((x3 &&& (255 : Int32)).toInt64) <<< ((32 : Int32) &&& 0x3f).toInt64)) ||| (((x4 &&& (255 : Int32)).toInt64) <<< ((24 : Int32) &&& 0x3f).toInt64)) ||| (((x5 &&& (255 : Int32)).toInt64) <<< ((16 : Int32) &&& 0x3f).toInt64)))])) t
    refine XS.aloadN X0.here hx rfl (hb hby d6_81) rfl rfl ?_
    show Steps p.tables e below (s₁.setTop (mkF m 82 #[.val (.ref a1), .val (.int p2)] [(.ref a1), (.long ((((((((x0 &&& (255 : Int32)).toInt64) <<< ((56 : Int32) &&& 0x3f).toInt64) ||| (((x1 &&& (255 : Int32)).toInt64) <<< ((48 : Int32) &&& 0x3f).toInt64)) ||| (((x2 &&& (255 : Int32)).toInt64) <<< ((40 : Int32) &&& 0x3f).toInt64)) ||| (((x3 &&& (255 : Int32)).toInt64) <<< ((32 : Int32) &&& 0x3f).toInt64)) ||| (((x4 &&& (255 : Int32)).toInt64) <<< ((24 : Int32) &&& 0x3f).toInt64)) ||| (((x5 &&& (255 : Int32)).toInt64) <<< ((16 : Int32) &&& 0x3f).toInt64)))])) t
    refine XS.iloadN X0.here hx rfl (hb hby d6_82) rfl ?_
    show Steps p.tables e below (s₁.setTop (mkF m 83 #[.val (.ref a1), .val (.int p2)] [(.int p2), (.ref a1), (.long ((((((((x0 &&& (255 : Int32)).toInt64) <<< ((56 : Int32) &&& 0x3f).toInt64) ||| (((x1 &&& (255 : Int32)).toInt64) <<< ((48 : Int32) &&& 0x3f).toInt64)) ||| (((x2 &&& (255 : Int32)).toInt64) <<< ((40 : Int32) &&& 0x3f).toInt64)) ||| (((x3 &&& (255 : Int32)).toInt64) <<< ((32 : Int32) &&& 0x3f).toInt64)) ||| (((x4 &&& (255 : Int32)).toInt64) <<< ((24 : Int32) &&& 0x3f).toInt64)) ||| (((x5 &&& (255 : Int32)).toInt64) <<< ((16 : Int32) &&& 0x3f).toInt64)))])) t
    refine XS.bipush X0.here hx rfl (hb hby d6_83) ?_
    show Steps p.tables e below (s₁.setTop (mkF m 85 #[.val (.ref a1), .val (.int p2)] [(.int (6 : Int32)), (.int p2), (.ref a1), (.long ((((((((x0 &&& (255 : Int32)).toInt64) <<< ((56 : Int32) &&& 0x3f).toInt64) ||| (((x1 &&& (255 : Int32)).toInt64) <<< ((48 : Int32) &&& 0x3f).toInt64)) ||| (((x2 &&& (255 : Int32)).toInt64) <<< ((40 : Int32) &&& 0x3f).toInt64)) ||| (((x3 &&& (255 : Int32)).toInt64) <<< ((32 : Int32) &&& 0x3f).toInt64)) ||| (((x4 &&& (255 : Int32)).toInt64) <<< ((24 : Int32) &&& 0x3f).toInt64)) ||| (((x5 &&& (255 : Int32)).toInt64) <<< ((16 : Int32) &&& 0x3f).toInt64)))])) t
    refine XS.iadd X0.here hx rfl (hb hby d6_85) rfl ?_
    exact kt
  have vq_7 := V0
  obtain ⟨c_7, a_7, q_7, s_7, m_7, H_7, G_7⟩ := vq_7
  have hin_7 : ¬ ((p2 + (6 : Int32)) < 0 ∨ c_7.slots.size ≤ ((p2 + (6 : Int32))).toNatClampNeg) := own_inb s_7 hz (own_ix p2 (6 : Int32) k 6 hp rfl (by omega)) (by omega)
  have hat_7 : c_7.slots[((p2 + (6 : Int32))).toNatClampNeg]? = some (.int x6) := H_7.at hin_7 (by rw [(own_ix p2 (6 : Int32) k 6 hp rfl (by omega)).1]; exact y6)
  refine own_go (T' := s₁) (g' := (mkF m 87 #[.val (.ref a1), .val (.int p2)] [(.int x6), (.long ((((((((x0 &&& (255 : Int32)).toInt64) <<< ((56 : Int32) &&& 0x3f).toInt64) ||| (((x1 &&& (255 : Int32)).toInt64) <<< ((48 : Int32) &&& 0x3f).toInt64)) ||| (((x2 &&& (255 : Int32)).toInt64) <<< ((40 : Int32) &&& 0x3f).toInt64)) ||| (((x3 &&& (255 : Int32)).toInt64) <<< ((32 : Int32) &&& 0x3f).toInt64)) ||| (((x4 &&& (255 : Int32)).toInt64) <<< ((24 : Int32) &&& 0x3f).toInt64)) ||| (((x5 &&& (255 : Int32)).toInt64) <<< ((16 : Int32) &&& 0x3f).toInt64)))])) (fun t kt => ?_) ?_
  · refine X0.baloadBytes hx (j := (p2 + (6 : Int32))) (v := (.int x6)) (by rw [e0]; exact a_7.1) (State.isArrayOf_alike hZ.alike a_7.2.1) a_7.2.2 hin_7 hat_7 (g := (mkF m 86 #[.val (.ref a1), .val (.int p2)] [(.int (p2 + (6 : Int32))), (.ref a1), (.long ((((((((x0 &&& (255 : Int32)).toInt64) <<< ((56 : Int32) &&& 0x3f).toInt64) ||| (((x1 &&& (255 : Int32)).toInt64) <<< ((48 : Int32) &&& 0x3f).toInt64)) ||| (((x2 &&& (255 : Int32)).toInt64) <<< ((40 : Int32) &&& 0x3f).toInt64)) ||| (((x3 &&& (255 : Int32)).toInt64) <<< ((32 : Int32) &&& 0x3f).toInt64)) ||| (((x4 &&& (255 : Int32)).toInt64) <<< ((24 : Int32) &&& 0x3f).toInt64)) ||| (((x5 &&& (255 : Int32)).toInt64) <<< ((16 : Int32) &&& 0x3f).toInt64)))])) rfl rfl (hb hby d6_86) _ ?_
    exact kt
  refine own_go (T' := s₁) (g' := (mkF m 101 #[.val (.ref a1), .val (.int p2)] [(.int (p2 + (7 : Int32))), (.ref a1), (.long (((((((((x0 &&& (255 : Int32)).toInt64) <<< ((56 : Int32) &&& 0x3f).toInt64) ||| (((x1 &&& (255 : Int32)).toInt64) <<< ((48 : Int32) &&& 0x3f).toInt64)) ||| (((x2 &&& (255 : Int32)).toInt64) <<< ((40 : Int32) &&& 0x3f).toInt64)) ||| (((x3 &&& (255 : Int32)).toInt64) <<< ((32 : Int32) &&& 0x3f).toInt64)) ||| (((x4 &&& (255 : Int32)).toInt64) <<< ((24 : Int32) &&& 0x3f).toInt64)) ||| (((x5 &&& (255 : Int32)).toInt64) <<< ((16 : Int32) &&& 0x3f).toInt64)) ||| (((x6 &&& (255 : Int32)).toInt64) <<< ((8 : Int32) &&& 0x3f).toInt64)))])) (fun t kt => ?_) ?_
  · show Steps p.tables e below (s₁.setTop (mkF m 87 #[.val (.ref a1), .val (.int p2)] [(.int x6), (.long ((((((((x0 &&& (255 : Int32)).toInt64) <<< ((56 : Int32) &&& 0x3f).toInt64) ||| (((x1 &&& (255 : Int32)).toInt64) <<< ((48 : Int32) &&& 0x3f).toInt64)) ||| (((x2 &&& (255 : Int32)).toInt64) <<< ((40 : Int32) &&& 0x3f).toInt64)) ||| (((x3 &&& (255 : Int32)).toInt64) <<< ((32 : Int32) &&& 0x3f).toInt64)) ||| (((x4 &&& (255 : Int32)).toInt64) <<< ((24 : Int32) &&& 0x3f).toInt64)) ||| (((x5 &&& (255 : Int32)).toInt64) <<< ((16 : Int32) &&& 0x3f).toInt64)))])) t
    refine XS.sipush X0.here hx rfl (hb hby d6_87) ?_
    show Steps p.tables e below (s₁.setTop (mkF m 90 #[.val (.ref a1), .val (.int p2)] [(.int (255 : Int32)), (.int x6), (.long ((((((((x0 &&& (255 : Int32)).toInt64) <<< ((56 : Int32) &&& 0x3f).toInt64) ||| (((x1 &&& (255 : Int32)).toInt64) <<< ((48 : Int32) &&& 0x3f).toInt64)) ||| (((x2 &&& (255 : Int32)).toInt64) <<< ((40 : Int32) &&& 0x3f).toInt64)) ||| (((x3 &&& (255 : Int32)).toInt64) <<< ((32 : Int32) &&& 0x3f).toInt64)) ||| (((x4 &&& (255 : Int32)).toInt64) <<< ((24 : Int32) &&& 0x3f).toInt64)) ||| (((x5 &&& (255 : Int32)).toInt64) <<< ((16 : Int32) &&& 0x3f).toInt64)))])) t
    refine XS.iand X0.here hx rfl (hb hby d6_90) rfl ?_
    show Steps p.tables e below (s₁.setTop (mkF m 91 #[.val (.ref a1), .val (.int p2)] [(.int (x6 &&& (255 : Int32))), (.long ((((((((x0 &&& (255 : Int32)).toInt64) <<< ((56 : Int32) &&& 0x3f).toInt64) ||| (((x1 &&& (255 : Int32)).toInt64) <<< ((48 : Int32) &&& 0x3f).toInt64)) ||| (((x2 &&& (255 : Int32)).toInt64) <<< ((40 : Int32) &&& 0x3f).toInt64)) ||| (((x3 &&& (255 : Int32)).toInt64) <<< ((32 : Int32) &&& 0x3f).toInt64)) ||| (((x4 &&& (255 : Int32)).toInt64) <<< ((24 : Int32) &&& 0x3f).toInt64)) ||| (((x5 &&& (255 : Int32)).toInt64) <<< ((16 : Int32) &&& 0x3f).toInt64)))])) t
    refine XS.i2l X0.here hx rfl (hb hby d6_91) rfl ?_
    show Steps p.tables e below (s₁.setTop (mkF m 92 #[.val (.ref a1), .val (.int p2)] [(.long ((x6 &&& (255 : Int32)).toInt64)), (.long ((((((((x0 &&& (255 : Int32)).toInt64) <<< ((56 : Int32) &&& 0x3f).toInt64) ||| (((x1 &&& (255 : Int32)).toInt64) <<< ((48 : Int32) &&& 0x3f).toInt64)) ||| (((x2 &&& (255 : Int32)).toInt64) <<< ((40 : Int32) &&& 0x3f).toInt64)) ||| (((x3 &&& (255 : Int32)).toInt64) <<< ((32 : Int32) &&& 0x3f).toInt64)) ||| (((x4 &&& (255 : Int32)).toInt64) <<< ((24 : Int32) &&& 0x3f).toInt64)) ||| (((x5 &&& (255 : Int32)).toInt64) <<< ((16 : Int32) &&& 0x3f).toInt64)))])) t
    refine XS.bipush X0.here hx rfl (hb hby d6_92) ?_
    show Steps p.tables e below (s₁.setTop (mkF m 94 #[.val (.ref a1), .val (.int p2)] [(.int (8 : Int32)), (.long ((x6 &&& (255 : Int32)).toInt64)), (.long ((((((((x0 &&& (255 : Int32)).toInt64) <<< ((56 : Int32) &&& 0x3f).toInt64) ||| (((x1 &&& (255 : Int32)).toInt64) <<< ((48 : Int32) &&& 0x3f).toInt64)) ||| (((x2 &&& (255 : Int32)).toInt64) <<< ((40 : Int32) &&& 0x3f).toInt64)) ||| (((x3 &&& (255 : Int32)).toInt64) <<< ((32 : Int32) &&& 0x3f).toInt64)) ||| (((x4 &&& (255 : Int32)).toInt64) <<< ((24 : Int32) &&& 0x3f).toInt64)) ||| (((x5 &&& (255 : Int32)).toInt64) <<< ((16 : Int32) &&& 0x3f).toInt64)))])) t
    refine XS.lshl X0.here hx rfl (hb hby d6_94) rfl ?_
    show Steps p.tables e below (s₁.setTop (mkF m 95 #[.val (.ref a1), .val (.int p2)] [(.long (((x6 &&& (255 : Int32)).toInt64) <<< ((8 : Int32) &&& 0x3f).toInt64)), (.long ((((((((x0 &&& (255 : Int32)).toInt64) <<< ((56 : Int32) &&& 0x3f).toInt64) ||| (((x1 &&& (255 : Int32)).toInt64) <<< ((48 : Int32) &&& 0x3f).toInt64)) ||| (((x2 &&& (255 : Int32)).toInt64) <<< ((40 : Int32) &&& 0x3f).toInt64)) ||| (((x3 &&& (255 : Int32)).toInt64) <<< ((32 : Int32) &&& 0x3f).toInt64)) ||| (((x4 &&& (255 : Int32)).toInt64) <<< ((24 : Int32) &&& 0x3f).toInt64)) ||| (((x5 &&& (255 : Int32)).toInt64) <<< ((16 : Int32) &&& 0x3f).toInt64)))])) t
    refine XS.lor X0.here hx rfl (hb hby d6_95) rfl ?_
    show Steps p.tables e below (s₁.setTop (mkF m 96 #[.val (.ref a1), .val (.int p2)] [(.long (((((((((x0 &&& (255 : Int32)).toInt64) <<< ((56 : Int32) &&& 0x3f).toInt64) ||| (((x1 &&& (255 : Int32)).toInt64) <<< ((48 : Int32) &&& 0x3f).toInt64)) ||| (((x2 &&& (255 : Int32)).toInt64) <<< ((40 : Int32) &&& 0x3f).toInt64)) ||| (((x3 &&& (255 : Int32)).toInt64) <<< ((32 : Int32) &&& 0x3f).toInt64)) ||| (((x4 &&& (255 : Int32)).toInt64) <<< ((24 : Int32) &&& 0x3f).toInt64)) ||| (((x5 &&& (255 : Int32)).toInt64) <<< ((16 : Int32) &&& 0x3f).toInt64)) ||| (((x6 &&& (255 : Int32)).toInt64) <<< ((8 : Int32) &&& 0x3f).toInt64)))])) t
    refine XS.aloadN X0.here hx rfl (hb hby d6_96) rfl rfl ?_
    show Steps p.tables e below (s₁.setTop (mkF m 97 #[.val (.ref a1), .val (.int p2)] [(.ref a1), (.long (((((((((x0 &&& (255 : Int32)).toInt64) <<< ((56 : Int32) &&& 0x3f).toInt64) ||| (((x1 &&& (255 : Int32)).toInt64) <<< ((48 : Int32) &&& 0x3f).toInt64)) ||| (((x2 &&& (255 : Int32)).toInt64) <<< ((40 : Int32) &&& 0x3f).toInt64)) ||| (((x3 &&& (255 : Int32)).toInt64) <<< ((32 : Int32) &&& 0x3f).toInt64)) ||| (((x4 &&& (255 : Int32)).toInt64) <<< ((24 : Int32) &&& 0x3f).toInt64)) ||| (((x5 &&& (255 : Int32)).toInt64) <<< ((16 : Int32) &&& 0x3f).toInt64)) ||| (((x6 &&& (255 : Int32)).toInt64) <<< ((8 : Int32) &&& 0x3f).toInt64)))])) t
    refine XS.iloadN X0.here hx rfl (hb hby d6_97) rfl ?_
    show Steps p.tables e below (s₁.setTop (mkF m 98 #[.val (.ref a1), .val (.int p2)] [(.int p2), (.ref a1), (.long (((((((((x0 &&& (255 : Int32)).toInt64) <<< ((56 : Int32) &&& 0x3f).toInt64) ||| (((x1 &&& (255 : Int32)).toInt64) <<< ((48 : Int32) &&& 0x3f).toInt64)) ||| (((x2 &&& (255 : Int32)).toInt64) <<< ((40 : Int32) &&& 0x3f).toInt64)) ||| (((x3 &&& (255 : Int32)).toInt64) <<< ((32 : Int32) &&& 0x3f).toInt64)) ||| (((x4 &&& (255 : Int32)).toInt64) <<< ((24 : Int32) &&& 0x3f).toInt64)) ||| (((x5 &&& (255 : Int32)).toInt64) <<< ((16 : Int32) &&& 0x3f).toInt64)) ||| (((x6 &&& (255 : Int32)).toInt64) <<< ((8 : Int32) &&& 0x3f).toInt64)))])) t
    refine XS.bipush X0.here hx rfl (hb hby d6_98) ?_
    show Steps p.tables e below (s₁.setTop (mkF m 100 #[.val (.ref a1), .val (.int p2)] [(.int (7 : Int32)), (.int p2), (.ref a1), (.long (((((((((x0 &&& (255 : Int32)).toInt64) <<< ((56 : Int32) &&& 0x3f).toInt64) ||| (((x1 &&& (255 : Int32)).toInt64) <<< ((48 : Int32) &&& 0x3f).toInt64)) ||| (((x2 &&& (255 : Int32)).toInt64) <<< ((40 : Int32) &&& 0x3f).toInt64)) ||| (((x3 &&& (255 : Int32)).toInt64) <<< ((32 : Int32) &&& 0x3f).toInt64)) ||| (((x4 &&& (255 : Int32)).toInt64) <<< ((24 : Int32) &&& 0x3f).toInt64)) ||| (((x5 &&& (255 : Int32)).toInt64) <<< ((16 : Int32) &&& 0x3f).toInt64)) ||| (((x6 &&& (255 : Int32)).toInt64) <<< ((8 : Int32) &&& 0x3f).toInt64)))])) t
    refine XS.iadd X0.here hx rfl (hb hby d6_100) rfl ?_
    exact kt
  have vq_8 := V0
  obtain ⟨c_8, a_8, q_8, s_8, m_8, H_8, G_8⟩ := vq_8
  have hin_8 : ¬ ((p2 + (7 : Int32)) < 0 ∨ c_8.slots.size ≤ ((p2 + (7 : Int32))).toNatClampNeg) := own_inb s_8 hz (own_ix p2 (7 : Int32) k 7 hp rfl (by omega)) (by omega)
  have hat_8 : c_8.slots[((p2 + (7 : Int32))).toNatClampNeg]? = some (.int x7) := H_8.at hin_8 (by rw [(own_ix p2 (7 : Int32) k 7 hp rfl (by omega)).1]; exact y7)
  refine own_go (T' := s₁) (g' := (mkF m 102 #[.val (.ref a1), .val (.int p2)] [(.int x7), (.long (((((((((x0 &&& (255 : Int32)).toInt64) <<< ((56 : Int32) &&& 0x3f).toInt64) ||| (((x1 &&& (255 : Int32)).toInt64) <<< ((48 : Int32) &&& 0x3f).toInt64)) ||| (((x2 &&& (255 : Int32)).toInt64) <<< ((40 : Int32) &&& 0x3f).toInt64)) ||| (((x3 &&& (255 : Int32)).toInt64) <<< ((32 : Int32) &&& 0x3f).toInt64)) ||| (((x4 &&& (255 : Int32)).toInt64) <<< ((24 : Int32) &&& 0x3f).toInt64)) ||| (((x5 &&& (255 : Int32)).toInt64) <<< ((16 : Int32) &&& 0x3f).toInt64)) ||| (((x6 &&& (255 : Int32)).toInt64) <<< ((8 : Int32) &&& 0x3f).toInt64)))])) (fun t kt => ?_) ?_
  · refine X0.baloadBytes hx (j := (p2 + (7 : Int32))) (v := (.int x7)) (by rw [e0]; exact a_8.1) (State.isArrayOf_alike hZ.alike a_8.2.1) a_8.2.2 hin_8 hat_8 (g := (mkF m 101 #[.val (.ref a1), .val (.int p2)] [(.int (p2 + (7 : Int32))), (.ref a1), (.long (((((((((x0 &&& (255 : Int32)).toInt64) <<< ((56 : Int32) &&& 0x3f).toInt64) ||| (((x1 &&& (255 : Int32)).toInt64) <<< ((48 : Int32) &&& 0x3f).toInt64)) ||| (((x2 &&& (255 : Int32)).toInt64) <<< ((40 : Int32) &&& 0x3f).toInt64)) ||| (((x3 &&& (255 : Int32)).toInt64) <<< ((32 : Int32) &&& 0x3f).toInt64)) ||| (((x4 &&& (255 : Int32)).toInt64) <<< ((24 : Int32) &&& 0x3f).toInt64)) ||| (((x5 &&& (255 : Int32)).toInt64) <<< ((16 : Int32) &&& 0x3f).toInt64)) ||| (((x6 &&& (255 : Int32)).toInt64) <<< ((8 : Int32) &&& 0x3f).toInt64)))])) rfl rfl (hb hby d6_101) _ ?_
    exact kt
  refine own_go (T' := s₁) (g' := (mkF m 108 #[.val (.ref a1), .val (.int p2)] [(.long ((((((((((x0 &&& (255 : Int32)).toInt64) <<< ((56 : Int32) &&& 0x3f).toInt64) ||| (((x1 &&& (255 : Int32)).toInt64) <<< ((48 : Int32) &&& 0x3f).toInt64)) ||| (((x2 &&& (255 : Int32)).toInt64) <<< ((40 : Int32) &&& 0x3f).toInt64)) ||| (((x3 &&& (255 : Int32)).toInt64) <<< ((32 : Int32) &&& 0x3f).toInt64)) ||| (((x4 &&& (255 : Int32)).toInt64) <<< ((24 : Int32) &&& 0x3f).toInt64)) ||| (((x5 &&& (255 : Int32)).toInt64) <<< ((16 : Int32) &&& 0x3f).toInt64)) ||| (((x6 &&& (255 : Int32)).toInt64) <<< ((8 : Int32) &&& 0x3f).toInt64)) ||| ((x7 &&& (255 : Int32)).toInt64)))])) (fun t kt => ?_) ?_
  · show Steps p.tables e below (s₁.setTop (mkF m 102 #[.val (.ref a1), .val (.int p2)] [(.int x7), (.long (((((((((x0 &&& (255 : Int32)).toInt64) <<< ((56 : Int32) &&& 0x3f).toInt64) ||| (((x1 &&& (255 : Int32)).toInt64) <<< ((48 : Int32) &&& 0x3f).toInt64)) ||| (((x2 &&& (255 : Int32)).toInt64) <<< ((40 : Int32) &&& 0x3f).toInt64)) ||| (((x3 &&& (255 : Int32)).toInt64) <<< ((32 : Int32) &&& 0x3f).toInt64)) ||| (((x4 &&& (255 : Int32)).toInt64) <<< ((24 : Int32) &&& 0x3f).toInt64)) ||| (((x5 &&& (255 : Int32)).toInt64) <<< ((16 : Int32) &&& 0x3f).toInt64)) ||| (((x6 &&& (255 : Int32)).toInt64) <<< ((8 : Int32) &&& 0x3f).toInt64)))])) t
    refine XS.sipush X0.here hx rfl (hb hby d6_102) ?_
    show Steps p.tables e below (s₁.setTop (mkF m 105 #[.val (.ref a1), .val (.int p2)] [(.int (255 : Int32)), (.int x7), (.long (((((((((x0 &&& (255 : Int32)).toInt64) <<< ((56 : Int32) &&& 0x3f).toInt64) ||| (((x1 &&& (255 : Int32)).toInt64) <<< ((48 : Int32) &&& 0x3f).toInt64)) ||| (((x2 &&& (255 : Int32)).toInt64) <<< ((40 : Int32) &&& 0x3f).toInt64)) ||| (((x3 &&& (255 : Int32)).toInt64) <<< ((32 : Int32) &&& 0x3f).toInt64)) ||| (((x4 &&& (255 : Int32)).toInt64) <<< ((24 : Int32) &&& 0x3f).toInt64)) ||| (((x5 &&& (255 : Int32)).toInt64) <<< ((16 : Int32) &&& 0x3f).toInt64)) ||| (((x6 &&& (255 : Int32)).toInt64) <<< ((8 : Int32) &&& 0x3f).toInt64)))])) t
    refine XS.iand X0.here hx rfl (hb hby d6_105) rfl ?_
    show Steps p.tables e below (s₁.setTop (mkF m 106 #[.val (.ref a1), .val (.int p2)] [(.int (x7 &&& (255 : Int32))), (.long (((((((((x0 &&& (255 : Int32)).toInt64) <<< ((56 : Int32) &&& 0x3f).toInt64) ||| (((x1 &&& (255 : Int32)).toInt64) <<< ((48 : Int32) &&& 0x3f).toInt64)) ||| (((x2 &&& (255 : Int32)).toInt64) <<< ((40 : Int32) &&& 0x3f).toInt64)) ||| (((x3 &&& (255 : Int32)).toInt64) <<< ((32 : Int32) &&& 0x3f).toInt64)) ||| (((x4 &&& (255 : Int32)).toInt64) <<< ((24 : Int32) &&& 0x3f).toInt64)) ||| (((x5 &&& (255 : Int32)).toInt64) <<< ((16 : Int32) &&& 0x3f).toInt64)) ||| (((x6 &&& (255 : Int32)).toInt64) <<< ((8 : Int32) &&& 0x3f).toInt64)))])) t
    refine XS.i2l X0.here hx rfl (hb hby d6_106) rfl ?_
    show Steps p.tables e below (s₁.setTop (mkF m 107 #[.val (.ref a1), .val (.int p2)] [(.long ((x7 &&& (255 : Int32)).toInt64)), (.long (((((((((x0 &&& (255 : Int32)).toInt64) <<< ((56 : Int32) &&& 0x3f).toInt64) ||| (((x1 &&& (255 : Int32)).toInt64) <<< ((48 : Int32) &&& 0x3f).toInt64)) ||| (((x2 &&& (255 : Int32)).toInt64) <<< ((40 : Int32) &&& 0x3f).toInt64)) ||| (((x3 &&& (255 : Int32)).toInt64) <<< ((32 : Int32) &&& 0x3f).toInt64)) ||| (((x4 &&& (255 : Int32)).toInt64) <<< ((24 : Int32) &&& 0x3f).toInt64)) ||| (((x5 &&& (255 : Int32)).toInt64) <<< ((16 : Int32) &&& 0x3f).toInt64)) ||| (((x6 &&& (255 : Int32)).toInt64) <<< ((8 : Int32) &&& 0x3f).toInt64)))])) t
    refine XS.lor X0.here hx rfl (hb hby d6_107) rfl ?_
    exact kt
  obtain ⟨fs, hr, hrun, hended, hW, hsame⟩ := X0.leave (v := some (.long ((((((((((x0 &&& (255 : Int32)).toInt64) <<< ((56 : Int32) &&& 0x3f).toInt64) ||| (((x1 &&& (255 : Int32)).toInt64) <<< ((48 : Int32) &&& 0x3f).toInt64)) ||| (((x2 &&& (255 : Int32)).toInt64) <<< ((40 : Int32) &&& 0x3f).toInt64)) ||| (((x3 &&& (255 : Int32)).toInt64) <<< ((32 : Int32) &&& 0x3f).toInt64)) ||| (((x4 &&& (255 : Int32)).toInt64) <<< ((24 : Int32) &&& 0x3f).toInt64)) ||| (((x5 &&& (255 : Int32)).toInt64) <<< ((16 : Int32) &&& 0x3f).toInt64)) ||| (((x6 &&& (255 : Int32)).toInt64) <<< ((8 : Int32) &&& 0x3f).toInt64)) ||| ((x7 &&& (255 : Int32)).toInt64)))) (fun h => by rw [Bd.returns] at h; cases h) (BodyLoose.notSynchronized Bd)
  refine ⟨_, _, ?_, hrun, hended, _, _, rfl, ?_, ⟨_, rfl⟩, hW, hsame.mono (by decide) (by decide)⟩
  · exact X0.lreturnOut hx Bd.returns (hb hby d6_108) hr
  · show Q_rpack Z _ _ _ _ _ _ _ _ _ _ _ _ _ _ h0 n0 _ s₁.heap _
    rw [e0]
    exact ⟨rfl, N0, rfl⟩
theorem pn_3 : plainName "com/example/libidem/libidem/model/Fingerprint" = true := by first | (simp [plainName, overriddenIn]; done) | decide +kernel
theorem ef_3 (m : MethodId) (x0 : Addr) (x1 : Addr) : entryFrame m #[(.ref x0), (.ref x1)] 2 = mkF m 0 #[.val (.ref x0), .val (.ref x1)] [] := by first | (simp [entryFrame, mkF, argsToLocals, Value.category]; done) | rfl
def Q_rini (Z : State) (a1 : Addr) (a2 : Addr) (h0 : Heap) (n0 : Nat) (v : Option Value) (h : Heap) (L : List Loc) : Prop := v = none ∧ Fr n0 L ∧ Keep h0 h [a1] ∧ Fld Z h a1 "com/example/libidem/libidem/model/Fingerprint" "digest" "[B" (.ref a2)
theorem d3_0 : decode prog_9_method_1_code 0 = .ok (.aload_n 0, 1) := by decide +kernel
theorem d3_1 : decode prog_9_method_1_code 1 = .ok (.invokespecial 1, 3) := by decide +kernel
theorem d3_4 : decode prog_9_method_1_code 4 = .ok (.aload_n 0, 1) := by decide +kernel
theorem d3_5 : decode prog_9_method_1_code 5 = .ok (.aload_n 1, 1) := by decide +kernel
theorem d3_6 : decode prog_9_method_1_code 6 = .ok (.putfield 7, 3) := by decide +kernel
theorem d3_9 : decode prog_9_method_1_code 9 = .ok (.return_, 1) := by decide +kernel
set_option maxRecDepth 65536 in
set_option maxHeartbeats 40000000 in
theorem rini (l : Launch) (Z : State) (a0 : Array Value) (hw : ∀ d ∈ tables_1, d.before a0 Z = true) (ws : List Jvm.Cond) (a1 : Addr) (a2 : Addr) (h0 : Heap) (n0 : Nat) (Z0 : n0 ≤ h0.size) (E_a1 : Exa Z h0 a1 "com/example/libidem/libidem/model/Fingerprint") (F1 : Fld Z h0 a1 "com/example/libidem/libidem/model/Fingerprint" "digest" "[B" .null) (g_a1 : n0 ≤ a1) :
    MetFree l (⟨"com/example/libidem/libidem/model/Fingerprint", "<init>", "([B)V"⟩ : MethodName) (head1 (Jvm.Cond.code (⟨"com/example/libidem/libidem/model/Fingerprint", "<init>", "([B)V"⟩ : MethodName) prog_9_method_1_code 2 none :: ws) ({ frames := 1, cells := 0, slots := 0, locals := 12 } : Room)) (fun a U => a = #[(.ref a1), (.ref a2)] ∧ Z.Warmed39 U.vm ∧ U.heap = h0) (fun _ _ _ _ _ => True) (fun _ U o U' => ∃ v L, o = .returned v ∧ Q_rini Z a1 a2 h0 n0 v U'.heap L ∧ FrameEnd U o U' L ({ frames := 1, cells := 0, slots := 0, locals := 12 } : Room).cells ({ frames := 1, cells := 0, slots := 0, locals := 12 } : Room).slots) := by
  refine MetFree.of_bodySF (plainFor_of_name pn_3) hisR ?_
  intro p e s m args below meth c s₁ Bd hml0 hP hK
  obtain ⟨rfl, hZ, hh⟩ := hP
  have hx := Bd.exec
  have hby := Bd.bytes
  have hml : c.maxLocals = 2 := hml0
  have hown : s.vm.findClass "com/example/libidem/libidem/model/Fingerprint" = some m.cls := findClass_of_methodNamed Bd.named
  have hnm := (name_of_methodNamed Bd.named Bd.method).1
  have X0 : Stand p l e ({ frames := 1, cells := 0, slots := 0, locals := 12 } : Room) s m #[(.ref a1), (.ref a2)] below meth c s₁ [] 0 0 := Stand.of_body Bd
  have e0 : s₁.heap = h0 := by rw [← hh, Bd.state]; rfl
  have N0 := Fr.nil n0
  refine own_go (g' := (mkF m 0 #[.val (.ref a1), .val (.ref a2)] [])) (fun t k => castTop (ef_3 m (a1) (a2)) k) ?_
  refine own_go (T' := s₁) (g' := (mkF m 1 #[.val (.ref a1), .val (.ref a2)] [(.ref a1)])) (fun t kt => ?_) ?_
  · show Steps p.tables e below (s₁.setTop (mkF m 0 #[.val (.ref a1), .val (.ref a2)] [])) t
    refine XS.aloadN X0.here hx rfl (hb hby d3_0) rfl rfl ?_
    exact kt
  obtain ⟨T_1, X_1, e_1, st_1⟩ := initO X0 hx hZ hown (hw _ (List.mem_of_getElem? (i := 23) rfl)) (hw _ (List.mem_of_getElem? (i := 24) rfl)) (hw _ (List.mem_of_getElem? (i := 25) rfl)) e0 (g := (mkF m 1 #[.val (.ref a1), .val (.ref a2)] [(.ref a1)])) rfl (by rw [hml]; rfl) rfl (hb hby d3_1) (by decide) (W := 0) (by show 2 * 0 + _ ≤ _; exact Nat.le_of_eq rfl) (by decide)
  refine own_go (g' := (mkF m 4 #[.val (.ref a1), .val (.ref a2)] [])) st_1 ?_
  refine own_go (T' := T_1) (g' := (mkF m 6 #[.val (.ref a1), .val (.ref a2)] [(.ref a2), (.ref a1)])) (fun t kt => ?_) ?_
  · show Steps p.tables e below (T_1.setTop (mkF m 4 #[.val (.ref a1), .val (.ref a2)] [])) t
    refine XS.aloadN X_1.here hx rfl (hb hby d3_4) rfl rfl ?_
    show Steps p.tables e below (T_1.setTop (mkF m 5 #[.val (.ref a1), .val (.ref a2)] [(.ref a1)])) t
    refine XS.aloadN X_1.here hx rfl (hb hby d3_5) rfl rfl ?_
    exact kt
  obtain ⟨T_2, h_2, X_2, e_2, W_2, st_2⟩ := putF X_1 hx hZ hown (host := "") (Or.inl (hw _ (List.mem_of_getElem? (i := 26) rfl))) Via.refl e_1 F1 E_a1 (Or.inr ⟨(hw _ (List.mem_of_getElem? (i := 27) rfl)), rfl, hnm⟩) (hw _ (List.mem_of_getElem? (i := 10) rfl)) (ty := (.array .byte)) (by decide) rfl rfl (g := (mkF m 6 #[.val (.ref a1), .val (.ref a2)] [(.ref a2), (.ref a1)])) rfl rfl (hb hby d3_6)
  have Fw_2 := F1.same W_2
  have Z_2 : n0 ≤ h_2.size := Nat.le_trans Z0 (Keep.of_wr W_2).1
  have kk_2 : Keep h0 h_2 [a1] := (Keep.refl h0 [a1]).wr W_2 (Or.inl (List.mem_of_getElem? (i := 0) rfl))
  have N_2 := Fr.snoc X_2 N0 g_a1
  refine own_go (g' := (mkF m 9 #[.val (.ref a1), .val (.ref a2)] [])) st_2 ?_
  obtain ⟨fs, hr, hrun, hended, hW, hsame⟩ := X_2.leave (v := none) (fun _ => rfl) (BodyLoose.notSynchronized Bd)
  refine ⟨_, _, ?_, hrun, hended, _, _, rfl, ?_, ⟨_, rfl⟩, hW, hsame.mono (by decide) (by decide)⟩
  · exact X_2.returnOut hx Bd.returns (hb hby d3_9) hr
  · show Q_rini Z _ _ h0 n0 _ T_2.heap _
    rw [e_2]
    exact ⟨rfl, N_2, kk_2, Fw_2⟩
theorem pn_2 : plainName "com/example/libidem/libidem/model/Fingerprint" = true := by first | (simp [plainName, overriddenIn]; done) | decide +kernel
theorem ef_2 (m : MethodId) (x0 : Addr) : entryFrame m #[(.ref x0)] 1 = mkF m 0 #[.val (.ref x0)] [] := by first | (simp [entryFrame, mkF, argsToLocals, Value.category]; done) | rfl
def Q_rfrom (Z : State) (a1 : Addr) (kA : ClassId) (vs : List Value) (h0 : Heap) (n0 : Nat) (v : Option Value) (h : Heap) (L : List Loc) : Prop := ∃ f c, v = some (.ref f) ∧ Fr n0 L ∧ Keep h0 h [] ∧ h0.size ≤ f ∧ h0.size ≤ c ∧ Exa Z h f "com/example/libidem/libidem/model/Fingerprint" ∧ Fld Z h f "com/example/libidem/libidem/model/Fingerprint" "digest" "[B" (.ref c) ∧ Arv Z h c kA .byte (32 : Int32) vs (.int (0 : Int32)) ∧ Exa Z h c "[B"
theorem d2_0 : decode prog_9_method_3_code 0 = .ok (.aload_n 0, 1) := by decide +kernel
theorem d2_1 : decode prog_9_method_3_code 1 = .ok (.arraylength, 1) := by decide +kernel
theorem d2_2 : decode prog_9_method_3_code 2 = .ok (.bipush 32, 2) := by decide +kernel
theorem d2_4 : decode prog_9_method_3_code 4 = .ok (.if_icmp .eq 18, 3) := by decide +kernel
theorem d2_22 : decode prog_9_method_3_code 22 = .ok (.new 8, 3) := by decide +kernel
theorem d2_25 : decode prog_9_method_3_code 25 = .ok (.dup, 1) := by decide +kernel
theorem d2_26 : decode prog_9_method_3_code 26 = .ok (.aload_n 0, 1) := by decide +kernel
theorem d2_27 : decode prog_9_method_3_code 27 = .ok (.invokevirtual 50, 3) := by decide +kernel
theorem d2_30 : decode prog_9_method_3_code 30 = .ok (.checkcast 51, 3) := by decide +kernel
theorem d2_33 : decode prog_9_method_3_code 33 = .ok (.invokespecial 38, 3) := by decide +kernel
theorem pd_3 : parseMethodDescriptor "([B)V" = some ⟨[(.array .byte)], none⟩ := by decide +kernel
theorem d2_36 : decode prog_9_method_3_code 36 = .ok (.areturn, 1) := by decide +kernel
set_option maxRecDepth 65536 in
set_option maxHeartbeats 40000000 in
theorem rfrom (l : Launch) (Z : State) (a0 : Array Value) (hw : ∀ d ∈ tables_1, d.before a0 Z = true) (ws : List Jvm.Cond) (a1 : Addr) (kA : ClassId) (vs : List Value) (h0 : Heap) (n0 : Nat) (Z0 : n0 ≤ h0.size) (V0 : Arv Z h0 a1 kA .byte (32 : Int32) vs (.int (0 : Int32))) (E_a1 : Exa Z h0 a1 "[B") :
    MetFree l (⟨"com/example/libidem/libidem/model/Fingerprint", "fromDigest", "([B)Lcom/example/libidem/libidem/model/Fingerprint;"⟩ : MethodName) (head1 (Jvm.Cond.code (⟨"com/example/libidem/libidem/model/Fingerprint", "fromDigest", "([B)Lcom/example/libidem/libidem/model/Fingerprint;"⟩ : MethodName) prog_9_method_3_code 1 (some (.object "com/example/libidem/libidem/model/Fingerprint")) :: ws) ({ frames := 2, cells := 2, slots := 33, locals := 32 } : Room)) (fun a U => a = #[(.ref a1)] ∧ Z.Warmed39 U.vm ∧ U.heap = h0) (fun _ _ _ _ _ => True) (fun _ U o U' => ∃ v L, o = .returned v ∧ Q_rfrom Z a1 kA vs h0 n0 v U'.heap L ∧ FrameEnd U o U' L ({ frames := 2, cells := 2, slots := 33, locals := 32 } : Room).cells ({ frames := 2, cells := 2, slots := 33, locals := 32 } : Room).slots) := by
  refine MetFree.of_bodySF (plainFor_of_name pn_2) hisR ?_
  intro p e s m args below meth c s₁ Bd hml0 hP hK
  obtain ⟨rfl, hZ, hh⟩ := hP
  have hx := Bd.exec
  have hby := Bd.bytes
  have hml : c.maxLocals = 1 := hml0
  have hown : s.vm.findClass "com/example/libidem/libidem/model/Fingerprint" = some m.cls := findClass_of_methodNamed Bd.named
  have hnm := (name_of_methodNamed Bd.named Bd.method).1
  have X0 : Stand p l e ({ frames := 2, cells := 2, slots := 33, locals := 32 } : Room) s m #[(.ref a1)] below meth c s₁ [] 0 0 := Stand.of_body Bd
  have e0 : s₁.heap = h0 := by rw [← hh, Bd.state]; rfl
  have N0 := Fr.nil n0
  refine own_go (g' := (mkF m 0 #[.val (.ref a1)] [])) (fun t k => castTop (ef_2 m (a1)) k) ?_
  refine own_go (T' := s₁) (g' := (mkF m 1 #[.val (.ref a1)] [(.ref a1)])) (fun t kt => ?_) ?_
  · show Steps p.tables e below (s₁.setTop (mkF m 0 #[.val (.ref a1)] [])) t
    refine XS.aloadN X0.here hx rfl (hb hby d2_0) rfl rfl ?_
    exact kt
  have vq_1 := V0
  obtain ⟨c_1, a_1, -, s_1, m_1, -, -⟩ := vq_1
  refine own_go (T' := s₁) (g' := (mkF m 2 #[.val (.ref a1)] [(.int (32 : Int32))])) (fun t kt => ?_) ?_
  · refine X0.arraylength hx (by rw [e0]; exact a_1.1) (State.isArrayOf_alike hZ.alike a_1.2.1) (g := (mkF m 1 #[.val (.ref a1)] [(.ref a1)])) rfl rfl (hb hby d2_1) _ ?_
    rw [len_of s_1 m_1]
    exact kt
  refine own_go (T' := s₁) (g' := (mkF m 22 #[.val (.ref a1)] [])) (fun t kt => ?_) ?_
  · show Steps p.tables e below (s₁.setTop (mkF m 2 #[.val (.ref a1)] [(.int (32 : Int32))])) t
    refine XS.bipush X0.here hx rfl (hb hby d2_2) ?_
    show Steps p.tables e below (s₁.setTop (mkF m 4 #[.val (.ref a1)] [(.int (32 : Int32)), (.int (32 : Int32))])) t
    refine XS.icmpYes X0.here hx rfl (pc0 := 4) (pc' := 22) rfl (hb hby d2_4) rfl (teq (by decide : (32 : Int32) = (32 : Int32))).1 (by decide) (by decide) ?_
    exact kt
  obtain ⟨T_2, h_2, X_2, e_2, E_2, A_2, D_2, -, st_2⟩ := newO X0 hx hZ hown (hw _ (List.mem_of_getElem? (i := 9) rfl)) (hw _ (List.mem_of_getElem? (i := 10) rfl)) (hw _ (List.mem_of_getElem? (i := 7) rfl)) e0 (g := (mkF m 22 #[.val (.ref a1)] [])) rfl (hb hby d2_22) (by decide) (by decide)
  obtain ⟨b_2, g_2⟩ : ∃ z, z = h0.size := ⟨_, rfl⟩
  rw [← g_2] at A_2 D_2 st_2
  have ne_a1_b_2 : a1 ≠ b_2 := Nat.ne_of_lt (Nat.lt_of_lt_of_le V0.lt (Nat.le_of_eq g_2.symm))
  have g_b_2 : n0 ≤ b_2 := Nat.le_trans Z0 (Nat.le_of_eq g_2.symm)
  have sz_b_2 : h0.size ≤ b_2 := Nat.le_trans (Keep.refl h0 []).1 (Nat.le_of_eq g_2.symm)
  have Z_2 : n0 ≤ h_2.size := Nat.le_trans Z0 E_2.1
  have kk_2 : Keep h0 h_2 [] := (Keep.refl h0 []).ext E_2
  have F_digest_b_2 : Fld Z h_2 b_2 "com/example/libidem/libidem/model/Fingerprint" "digest" "[B" .null := D_2 (Or.inr (hw _ (List.mem_of_getElem? (i := 27) rfl))) (ty := (.array .byte)) (by decide)
  refine own_go (g' := (mkF m 25 #[.val (.ref a1)] [(.ref b_2)])) st_2 ?_
  refine own_go (T' := T_2) (g' := (mkF m 27 #[.val (.ref a1)] [(.ref a1), (.ref b_2), (.ref b_2)])) (fun t kt => ?_) ?_
  · show Steps p.tables e below (T_2.setTop (mkF m 25 #[.val (.ref a1)] [(.ref b_2)])) t
    refine XS.dup X_2.here hx rfl (hb hby d2_25) rfl rfl ?_
    show Steps p.tables e below (T_2.setTop (mkF m 26 #[.val (.ref a1)] [(.ref b_2), (.ref b_2)])) t
    refine XS.aloadN X_2.here hx rfl (hb hby d2_26) rfl rfl ?_
    exact kt
  have f_4 := (V0.ext E_2)
  have f_5 := (E_a1.ext E_2)
  obtain ⟨T_3, h_3, X_3, e_3, E_3, A_3, B_3, st_3⟩ := cloneH X_2 hx hZ hown (hw _ (List.mem_of_getElem? (i := 11) rfl)) (hw _ (List.mem_of_getElem? (i := 12) rfl)) (hw _ (List.mem_of_getElem? (i := 16) rfl)) (hw _ (List.mem_of_getElem? (i := 14) rfl)) (hw _ (List.mem_of_getElem? (i := 15) rfl)) (hw _ (List.mem_of_getElem? (i := 17) rfl)) e_2 (Arv.arh f_4) f_5 (g := (mkF m 27 #[.val (.ref a1)] [(.ref a1), (.ref b_2), (.ref b_2)])) rfl (by rw [hml]; rfl) rfl (hb hby d2_27) (by decide) (W := 2) (cap := 32) (by show 2 * 0 + _ ≤ _; exact Nat.le_of_eq rfl) (by decide) (by decide) (by decide) (by decide)
  obtain ⟨b_3, g_3⟩ : ∃ z, z = h_2.size := ⟨_, rfl⟩
  rw [← g_3] at A_3 B_3 st_3
  have ne_a1_b_3 : a1 ≠ b_3 := Nat.ne_of_lt (Nat.lt_of_lt_of_le f_4.lt (Nat.le_of_eq g_3.symm))
  have ne_b_2_b_3 : b_2 ≠ b_3 := Nat.ne_of_lt (Nat.lt_of_lt_of_le A_2.lt (Nat.le_of_eq g_3.symm))
  have g_b_3 : n0 ≤ b_3 := Nat.le_trans Z_2 (Nat.le_of_eq g_3.symm)
  have sz_b_3 : h0.size ≤ b_3 := Nat.le_trans kk_2.1 (Nat.le_of_eq g_3.symm)
  have Z_3 : n0 ≤ h_3.size := Nat.le_trans Z_2 E_3.1
  have kk_3 : Keep h0 h_3 [] := kk_2.ext E_3
  have V_3 : Arv Z h_3 b_3 kA .byte (32 : Int32) vs (.int (0 : Int32)) := A_3
  refine own_go (g' := (mkF m 30 #[.val (.ref a1)] [(.ref b_3), (.ref b_2), (.ref b_2)])) st_3 ?_
  obtain ⟨T_6, X_6, e_6, st_6⟩ := castY X_3 hx hZ hown (hw _ (List.mem_of_getElem? (i := 18) rfl)) e_3 (Ins.self B_3) (g := (mkF m 30 #[.val (.ref a1)] [(.ref b_3), (.ref b_2), (.ref b_2)])) rfl rfl (hb hby d2_30)
  refine own_go (g' := (mkF m 33 #[.val (.ref a1)] [(.ref b_3), (.ref b_2), (.ref b_2)])) st_6 ?_
  have f_7 := (A_2.ext E_3)
  have f_8 := (F_digest_b_2.ext E_3)
  obtain ⟨_, _, ⟨T_9, L_9, k_9, n_9⟩, -, X_9, ⟨Lc_9, hQ_9, l_9, y_9, z_9⟩, st_9⟩ := X_6.specialBack hx (y := (⟨"com/example/libidem/libidem/model/Fingerprint", "<init>", "([B)V"⟩ : MethodName)) rfl hown (mvT hZ (hw _ (List.mem_of_getElem? (i := 20) rfl))) (mvT hZ (hw _ (List.mem_of_getElem? (i := 21) rfl))) (mvT hZ (hw _ (List.mem_of_getElem? (i := 22) rfl))) (by decide) (backOf (W := 1) (rini l Z a0 hw [] (b_2) (b_3)  h_3 n0 Z_3 f_7 f_8 g_b_2) hZ (hw _ (List.mem_of_getElem? (i := 22) rfl)) (hw _ (List.mem_of_getElem? (i := 7) rfl)) (by decide) (by decide)) (g := (mkF m 33 #[.val (.ref a1)] [(.ref b_3), (.ref b_2), (.ref b_2)])) rfl (by rw [hml]; rfl) (Steps.refl _) (a := b_2) (argsL := [(.ref b_3)]) (rest := [(.ref b_2)]) (lenOf pd_3 rfl) rfl (by show 2 * 0 + _ ≤ _; exact Nat.le_of_eq rfl) (hb hby d2_33) (fun _ _ => ⟨rfl, e_6, (by decide : 2 + 0 ≤ _), (by decide : 33 + 0 ≤ _)⟩)
  dsimp only [Pt.U, Pt.locs, Pt.cells, Pt.slots] at X_9 l_9 y_9 z_9 st_9 hQ_9
  subst l_9 y_9 z_9
  obtain ⟨rfl, N_9q, K_9, F_9⟩ := hQ_9
  have N_9 := Fr.app N0 N_9q
  have Z_9 : n0 ≤ T_9.heap.size := Nat.le_trans Z_3 K_9.1
  have kk_9 : Keep h0 T_9.heap [] := kk_3.trans K_9 (allS (Or.inr sz_b_2) all0)
  refine own_go (g' := (mkF m 36 #[.val (.ref a1)] [(.ref b_2)])) (fun t kt => st_9.trans kt) ?_
  have f_10 := (f_7.keep K_9)
  have f_11 := (V_3.keep K_9 (ninS (Ne.symm ne_b_2_b_3) nin0))
  have f_12 := (B_3.keep K_9)
  obtain ⟨fs, hr, hrun, hended, hW, hsame⟩ := X_9.leave (v := some (.ref b_2)) (fun h => by rw [Bd.returns] at h; cases h) (BodyLoose.notSynchronized Bd)
  refine ⟨_, _, ?_, hrun, hended, _, _, rfl, ?_, ⟨_, rfl⟩, hW, hsame.mono (by decide) (by decide)⟩
  · show Steps p.tables e below (T_9.setTop (mkF m 36 #[.val (.ref a1)] [(.ref b_2)])) _
    jvm_step X_9.here [X_9.here.top, hx, (hb hby d2_36), X_9.method', Bd.returns, Value.isRef, FieldType.isReference]
    first | (intro acts; rw [hr _ acts rfl rfl rfl]) | rw [hr _ _ rfl rfl rfl]
    exact Steps.refl _
  · show Q_rfrom Z _ _ _ h0 n0 _ T_9.heap _
    exact ⟨_, _, rfl, N_9, kk_9, sz_b_2, sz_b_3, f_10, F_9, f_11, f_12⟩
theorem pn_5 : plainName "com/example/libidem/libidem/model/Fingerprint" = true := by first | (simp [plainName, overriddenIn]; done) | decide +kernel
theorem ef_5 (m : MethodId) (x0 : Addr) : entryFrame m #[(.ref x0)] 1 = mkF m 0 #[.val (.ref x0)] [] := by first | (simp [entryFrame, mkF, argsToLocals, Value.category]; done) | rfl
def Q_rdig (Z : State) (a1 : Addr) (a2 : Addr) (kA : ClassId) (vs : List Value) (h0 : Heap) (n0 : Nat) (v : Option Value) (h : Heap) (L : List Loc) : Prop := ∃ c, v = some (.ref c) ∧ Fr n0 L ∧ Keep h0 h [] ∧ h0.size ≤ c ∧ Arv Z h c kA .byte (32 : Int32) vs (.int (0 : Int32))
theorem d5_0 : decode prog_9_method_4_code 0 = .ok (.aload_n 0, 1) := by decide +kernel
theorem d5_1 : decode prog_9_method_4_code 1 = .ok (.getfield 7, 3) := by decide +kernel
theorem d5_4 : decode prog_9_method_4_code 4 = .ok (.invokevirtual 50, 3) := by decide +kernel
theorem d5_7 : decode prog_9_method_4_code 7 = .ok (.checkcast 51, 3) := by decide +kernel
theorem d5_10 : decode prog_9_method_4_code 10 = .ok (.areturn, 1) := by decide +kernel
set_option maxRecDepth 65536 in
set_option maxHeartbeats 40000000 in
theorem rdig (l : Launch) (Z : State) (a0 : Array Value) (hw : ∀ d ∈ tables_1, d.before a0 Z = true) (ws : List Jvm.Cond) (a1 : Addr) (a2 : Addr) (kA : ClassId) (vs : List Value) (h0 : Heap) (n0 : Nat) (Z0 : n0 ≤ h0.size) (F1 : Fld Z h0 a1 "com/example/libidem/libidem/model/Fingerprint" "digest" "[B" (.ref a2)) (V0 : Arv Z h0 a2 kA .byte (32 : Int32) vs (.int (0 : Int32))) (E_a2 : Exa Z h0 a2 "[B") :
    MetFree l (⟨"com/example/libidem/libidem/model/Fingerprint", "digest", "()[B"⟩ : MethodName) (head1 (Jvm.Cond.code (⟨"com/example/libidem/libidem/model/Fingerprint", "digest", "()[B"⟩ : MethodName) prog_9_method_4_code 1 (some (.array .byte)) :: ws) ({ frames := 1, cells := 1, slots := 32, locals := 32 } : Room)) (fun a U => a = #[(.ref a1)] ∧ Z.Warmed39 U.vm ∧ U.heap = h0) (fun _ _ _ _ _ => True) (fun _ U o U' => ∃ v L, o = .returned v ∧ Q_rdig Z a1 a2 kA vs h0 n0 v U'.heap L ∧ FrameEnd U o U' L ({ frames := 1, cells := 1, slots := 32, locals := 32 } : Room).cells ({ frames := 1, cells := 1, slots := 32, locals := 32 } : Room).slots) := by
  refine MetFree.of_bodySF (plainFor_of_name pn_5) hisR ?_
  intro p e s m args below meth c s₁ Bd hml0 hP hK
  obtain ⟨rfl, hZ, hh⟩ := hP
  have hx := Bd.exec
  have hby := Bd.bytes
  have hml : c.maxLocals = 1 := hml0
  have hown : s.vm.findClass "com/example/libidem/libidem/model/Fingerprint" = some m.cls := findClass_of_methodNamed Bd.named
  have hnm := (name_of_methodNamed Bd.named Bd.method).1
  have X0 : Stand p l e ({ frames := 1, cells := 1, slots := 32, locals := 32 } : Room) s m #[(.ref a1)] below meth c s₁ [] 0 0 := Stand.of_body Bd
  have e0 : s₁.heap = h0 := by rw [← hh, Bd.state]; rfl
  have N0 := Fr.nil n0
  refine own_go (g' := (mkF m 0 #[.val (.ref a1)] [])) (fun t k => castTop (ef_5 m (a1)) k) ?_
  refine own_go (T' := s₁) (g' := (mkF m 1 #[.val (.ref a1)] [(.ref a1)])) (fun t kt => ?_) ?_
  · show Steps p.tables e below (s₁.setTop (mkF m 0 #[.val (.ref a1)] [])) t
    refine XS.aloadN X0.here hx rfl (hb hby d5_0) rfl rfl ?_
    exact kt
  obtain ⟨T_1, X_1, e_1, st_1⟩ := getF X0 hx hZ hown (host := "") (Or.inl (hw _ (List.mem_of_getElem? (i := 26) rfl))) Via.refl e0 F1 (g := (mkF m 1 #[.val (.ref a1)] [(.ref a1)])) rfl rfl (hb hby d5_1)
  refine own_go (g' := (mkF m 4 #[.val (.ref a1)] [(.ref a2)])) st_1 ?_
  obtain ⟨T_2, h_2, X_2, e_2, E_2, A_2, B_2, st_2⟩ := cloneH X_1 hx hZ hown (hw _ (List.mem_of_getElem? (i := 11) rfl)) (hw _ (List.mem_of_getElem? (i := 12) rfl)) (hw _ (List.mem_of_getElem? (i := 16) rfl)) (hw _ (List.mem_of_getElem? (i := 14) rfl)) (hw _ (List.mem_of_getElem? (i := 15) rfl)) (hw _ (List.mem_of_getElem? (i := 17) rfl)) e_1 (Arv.arh V0) E_a2 (g := (mkF m 4 #[.val (.ref a1)] [(.ref a2)])) rfl (by rw [hml]; rfl) rfl (hb hby d5_4) (by decide) (W := 0) (cap := 32) (by show 2 * 0 + _ ≤ _; exact Nat.le_of_eq rfl) (by decide) (by decide) (by decide) (by decide)
  obtain ⟨b_2, g_2⟩ : ∃ z, z = h0.size := ⟨_, rfl⟩
  rw [← g_2] at A_2 B_2 st_2
  have ne_a1_b_2 : a1 ≠ b_2 := Nat.ne_of_lt (Nat.lt_of_lt_of_le F1.lt (Nat.le_of_eq g_2.symm))
  have ne_a2_b_2 : a2 ≠ b_2 := Nat.ne_of_lt (Nat.lt_of_lt_of_le V0.lt (Nat.le_of_eq g_2.symm))
  have g_b_2 : n0 ≤ b_2 := Nat.le_trans Z0 (Nat.le_of_eq g_2.symm)
  have sz_b_2 : h0.size ≤ b_2 := Nat.le_trans (Keep.refl h0 []).1 (Nat.le_of_eq g_2.symm)
  have Z_2 : n0 ≤ h_2.size := Nat.le_trans Z0 E_2.1
  have kk_2 : Keep h0 h_2 [] := (Keep.refl h0 []).ext E_2
  have V_2 : Arv Z h_2 b_2 kA .byte (32 : Int32) vs (.int (0 : Int32)) := A_2
  refine own_go (g' := (mkF m 7 #[.val (.ref a1)] [(.ref b_2)])) st_2 ?_
  obtain ⟨T_3, X_3, e_3, st_3⟩ := castY X_2 hx hZ hown (hw _ (List.mem_of_getElem? (i := 18) rfl)) e_2 (Ins.self B_2) (g := (mkF m 7 #[.val (.ref a1)] [(.ref b_2)])) rfl rfl (hb hby d5_7)
  refine own_go (g' := (mkF m 10 #[.val (.ref a1)] [(.ref b_2)])) st_3 ?_
  obtain ⟨fs, hr, hrun, hended, hW, hsame⟩ := X_3.leave (v := some (.ref b_2)) (fun h => by rw [Bd.returns] at h; cases h) (BodyLoose.notSynchronized Bd)
  refine ⟨_, _, ?_, hrun, hended, _, _, rfl, ?_, ⟨_, rfl⟩, hW, hsame.mono (by decide) (by decide)⟩
  · show Steps p.tables e below (T_3.setTop (mkF m 10 #[.val (.ref a1)] [(.ref b_2)])) _
    jvm_step X_3.here [X_3.here.top, hx, (hb hby d5_10), X_3.method', Bd.returns, Value.isRef, FieldType.isReference]
    first | (intro acts; rw [hr _ acts rfl rfl rfl]) | rw [hr _ _ rfl rfl rfl]
    exact Steps.refl _
  · show Q_rdig Z _ _ _ _ h0 n0 _ T_3.heap _
    rw [e_3]
    exact ⟨_, rfl, N0, kk_2, sz_b_2, V_2⟩
theorem own_31 (x : Int32) : ¬ ((x &&& (31 : Int32)) < 0) ∧ (x &&& (31 : Int32)) < (32 : Int32) := by
  have h : (x &&& (31 : Int32)).toInt = x.toInt % (2 ^ 5 : Nat) := c_mask x 31 5 (by decide) (by decide)
  have k0 : (0 : Int32).toInt = 0 := rfl
  have k1 : (32 : Int32).toInt = 32 := rfl
  rw [Int32.lt_iff_toInt_lt, Int32.lt_iff_toInt_lt]; omega
theorem pn_0 : plainName "com/example/libidem/libidem/model/FingerprintFromDigestPinLaw" = true := by first | (simp [plainName, overriddenIn]; done) | decide +kernel
theorem ef_0 (m : MethodId) (x0 : Int64) (x1 : Int64) (x2 : Int64) (x3 : Int64) (x4 : Int32) (x5 : Int32) : entryFrame m #[(.long x0), (.long x1), (.long x2), (.long x3), (.int x4), (.int x5)] maxLocals = mkF m 0 #[.val (.long x0), .second, .val (.long x1), .second, .val (.long x2), .second, .val (.long x3), .second, .val (.int x4), .val (.int x5), .unset, .unset, .unset, .unset] [] := by first | (simp [entryFrame, mkF, argsToLocals, Value.category, maxLocals]; done) | rfl
def Q_rm0 (Z : State) (q1 : Int64) (q2 : Int64) (q3 : Int64) (q4 : Int64) (p5 : Int32) (p6 : Int32) (h0 : Heap) (n0 : Nat) (v : Option Value) (h : Heap) (L : List Loc) : Prop := v = some (.int (1 : Int32)) ∧ Fr n0 L
theorem pd_0 : parseMethodDescriptor "([BIJ)V" = some ⟨[(.array .byte), .int, .long], none⟩ := by decide +kernel
theorem pd_1 : parseMethodDescriptor "([B)Lcom/example/libidem/libidem/model/Fingerprint;" = some ⟨[(.array .byte)], some (.object "com/example/libidem/libidem/model/Fingerprint")⟩ := by decide +kernel
theorem pd_5 : parseMethodDescriptor "()[B" = some ⟨[], some (.array .byte)⟩ := by decide +kernel
theorem pd_6 : parseMethodDescriptor "([BI)J" = some ⟨[(.array .byte), .int], some .long⟩ := by decide +kernel
set_option maxRecDepth 65536 in
set_option maxHeartbeats 40000000 in
theorem rm0 (l : Launch) (Z : State) (a0 : Array Value) (hw : ∀ d ∈ tables_1, d.before a0 Z = true) (ws : List Jvm.Cond) (q1 : Int64) (q2 : Int64) (q3 : Int64) (q4 : Int64) (p5 : Int32) (p6 : Int32) (h0 : Heap) (n0 : Nat) (Z0 : n0 ≤ h0.size)  :
    MetFree l x (head1 (Jvm.Cond.code x code maxLocals ret :: ws) room_1) (fun a U => a = #[(.long q1), (.long q2), (.long q3), (.long q4), (.int p5), (.int p6)] ∧ Z.Warmed39 U.vm ∧ U.heap = h0) (fun _ _ _ _ _ => True) (fun _ U o U' => ∃ v L, o = .returned v ∧ Q_rm0 Z q1 q2 q3 q4 p5 p6 h0 n0 v U'.heap L ∧ FrameEnd U o U' L room_1.cells room_1.slots) := by
  refine MetFree.of_bodySF (plainFor_of_name pn_0) hisR ?_
  intro p e s m args below meth c s₁ Bd hml0 hP hK
  obtain ⟨rfl, hZ, hh⟩ := hP
  have hx := Bd.exec
  have hby := Bd.bytes
  have hml : c.maxLocals = 14 := hml0
  have hown : s.vm.findClass "com/example/libidem/libidem/model/FingerprintFromDigestPinLaw" = some m.cls := findClass_of_methodNamed Bd.named
  have hnm := (name_of_methodNamed Bd.named Bd.method).1
  have X0 : Stand p l e room_1 s m #[(.long q1), (.long q2), (.long q3), (.long q4), (.int p5), (.int p6)] below meth c s₁ [] 0 0 := Stand.of_body Bd
  have e0 : s₁.heap = h0 := by rw [← hh, Bd.state]; rfl
  have N0 := Fr.nil n0
  refine own_go (g' := (mkF m 0 #[.val (.long q1), .second, .val (.long q2), .second, .val (.long q3), .second, .val (.long q4), .second, .val (.int p5), .val (.int p6), .unset, .unset, .unset, .unset] [])) (fun t k => castTop (ef_0 m (q1) (q2) (q3) (q4) (p5) (p6)) k) ?_
  refine own_go (T' := s₁) (g' := (mkF m 2 #[.val (.long q1), .second, .val (.long q2), .second, .val (.long q3), .second, .val (.long q4), .second, .val (.int p5), .val (.int p6), .unset, .unset, .unset, .unset] [(.int (32 : Int32))])) (fun t kt => ?_) ?_
  · show Steps p.tables e below (s₁.setTop (mkF m 0 #[.val (.long q1), .second, .val (.long q2), .second, .val (.long q3), .second, .val (.long q4), .second, .val (.int p5), .val (.int p6), .unset, .unset, .unset, .unset] [])) t
    refine XS.bipush X0.here hx rfl (hb hby at_0) ?_
    exact kt
  obtain ⟨T_1, h_1, k_1, X_1, e_1, E_1, A_1, B_1, st_1⟩ := newPE X0 hx hZ (hw _ (List.mem_of_getElem? (i := 0) rfl)) e0 (g := (mkF m 2 #[.val (.long q1), .second, .val (.long q2), .second, .val (.long q3), .second, .val (.long q4), .second, .val (.int p5), .val (.int p6), .unset, .unset, .unset, .unset] [(.int (32 : Int32))])) rfl (hb hby at_2) rfl (by decide) (cap := 32) (by decide) (by decide) (by decide) (by decide) (ad := "[B") (by decide)
  obtain ⟨b_1, g_1⟩ : ∃ z, z = h0.size := ⟨_, rfl⟩
  rw [← g_1] at A_1 B_1 st_1
  have g_b_1 : n0 ≤ b_1 := Nat.le_trans Z0 (Nat.le_of_eq g_1.symm)
  have Z_1 : n0 ≤ h_1.size := Nat.le_trans Z0 E_1.1
  have V_1 : Arv Z h_1 b_1 k_1 .byte (32 : Int32) [(.int (0 : Int32)), (.int (0 : Int32)), (.int (0 : Int32)), (.int (0 : Int32)), (.int (0 : Int32)), (.int (0 : Int32)), (.int (0 : Int32)), (.int (0 : Int32)), (.int (0 : Int32)), (.int (0 : Int32)), (.int (0 : Int32)), (.int (0 : Int32)), (.int (0 : Int32)), (.int (0 : Int32)), (.int (0 : Int32)), (.int (0 : Int32)), (.int (0 : Int32)), (.int (0 : Int32)), (.int (0 : Int32)), (.int (0 : Int32)), (.int (0 : Int32)), (.int (0 : Int32)), (.int (0 : Int32)), (.int (0 : Int32)), (.int (0 : Int32)), (.int (0 : Int32)), (.int (0 : Int32)), (.int (0 : Int32)), (.int (0 : Int32)), (.int (0 : Int32)), (.int (0 : Int32)), (.int (0 : Int32))] (.int (0 : Int32)) := (Arv.new A_1 (by decide)).pad (pad_rep [] (.int (0 : Int32)) 32)
  refine own_go (g' := (mkF m 4 #[.val (.long q1), .second, .val (.long q2), .second, .val (.long q3), .second, .val (.long q4), .second, .val (.int p5), .val (.int p6), .unset, .unset, .unset, .unset] [(.ref b_1)])) st_1 ?_
  replace V_1 : Arv Z h_1 b_1 k_1 .byte (32 : Int32) (List.replicate 32 (Value.int (0 : Int32))) (.int (0 : Int32)) := V_1
  refine own_go (T' := T_1) (g' := (mkF m 10 #[.val (.long q1), .second, .val (.long q2), .second, .val (.long q3), .second, .val (.long q4), .second, .val (.int p5), .val (.int p6), .val (.ref b_1), .unset, .unset, .unset] [(.long q1), (.int (0 : Int32)), (.ref b_1)])) (fun t kt => ?_) ?_
  · show Steps p.tables e below (T_1.setTop (mkF m 4 #[.val (.long q1), .second, .val (.long q2), .second, .val (.long q3), .second, .val (.long q4), .second, .val (.int p5), .val (.int p6), .unset, .unset, .unset, .unset] [(.ref b_1)])) t
    refine XS.astore X_1.here hx rfl (hb hby at_4) rfl rfl (l' := #[.val (.long q1), .second, .val (.long q2), .second, .val (.long q3), .second, .val (.long q4), .second, .val (.int p5), .val (.int p6), .val (.ref b_1), .unset, .unset, .unset]) rfl ?_
    show Steps p.tables e below (T_1.setTop (mkF m 6 #[.val (.long q1), .second, .val (.long q2), .second, .val (.long q3), .second, .val (.long q4), .second, .val (.int p5), .val (.int p6), .val (.ref b_1), .unset, .unset, .unset] [])) t
    refine XS.aload X_1.here hx rfl (hb hby at_6) rfl rfl ?_
    show Steps p.tables e below (T_1.setTop (mkF m 8 #[.val (.long q1), .second, .val (.long q2), .second, .val (.long q3), .second, .val (.long q4), .second, .val (.int p5), .val (.int p6), .val (.ref b_1), .unset, .unset, .unset] [(.ref b_1)])) t
    refine XS.iconst X_1.here hx rfl (hb hby at_8) ?_
    show Steps p.tables e below (T_1.setTop (mkF m 9 #[.val (.long q1), .second, .val (.long q2), .second, .val (.long q3), .second, .val (.long q4), .second, .val (.int p5), .val (.int p6), .val (.ref b_1), .unset, .unset, .unset] [(.int (0 : Int32)), (.ref b_1)])) t
    refine XS.lloadN X_1.here hx rfl (hb hby at_9) rfl ?_
    exact kt
  obtain ⟨_, _, ⟨T_2, L_2, k_2, n_2⟩, -, X_2, ⟨Lc_2, hQ_2, l_2, y_2, z_2⟩, st_2⟩ := Jvm.LawKit.callS X_1 hx (y := (⟨"com/example/libidem/libidem/model/FingerprintFromDigestPinLaw", "put", "([BIJ)V"⟩ : MethodName)) hown (mvT hZ (hw _ (List.mem_of_getElem? (i := 1) rfl))) (mvT hZ (hw _ (List.mem_of_getElem? (i := 2) rfl))) (mvT hZ (hw _ (List.mem_of_getElem? (i := 3) rfl))) (mvT hZ (hw _ (List.mem_of_getElem? (i := 4) rfl))) (by decide) (backOf (W := 0) (rput l Z a0 hw [] (b_1) ((0 : Int32)) (q1) k_1 (32 : Int32) (List.replicate 32 (Value.int (0 : Int32))) 0 h_1 n0 Z_1 V_1 g_b_1 rfl (by simp only [own_put_len, List.length_replicate]; decide) (by simp only [own_put_len, List.length_replicate]; rfl) (by simp only [own_put_len, List.length_replicate]; decide)) hZ (hw _ (List.mem_of_getElem? (i := 4) rfl)) (hw _ (List.mem_of_getElem? (i := 3) rfl)) (by decide) (by decide)) (g := (mkF m 10 #[.val (.long q1), .second, .val (.long q2), .second, .val (.long q3), .second, .val (.long q4), .second, .val (.int p5), .val (.int p6), .val (.ref b_1), .unset, .unset, .unset] [(.long q1), (.int (0 : Int32)), (.ref b_1)])) rfl (by rw [hml]; rfl) (argsL := [(.ref b_1), (.int (0 : Int32)), (.long q1)]) (rest := []) (lenOf pd_0 rfl) rfl (by show 2 * 0 + _ ≤ _; exact Nat.le_of_eq rfl) (hb hby at_10) (fun _ _ => ⟨rfl, e_1, (by decide : 1 + 0 ≤ _), (by decide : 32 + 0 ≤ _)⟩)
  dsimp only [Pt.U, Pt.locs, Pt.cells, Pt.slots] at X_2 l_2 y_2 z_2 st_2 hQ_2
  subst l_2 y_2 z_2
  obtain ⟨rfl, N_2q, K_2, V_2⟩ := hQ_2
  have N_2 := Fr.app N0 N_2q
  have Z_2 : n0 ≤ T_2.heap.size := Nat.le_trans Z_1 K_2.1
  refine own_go (g' := (mkF m 13 #[.val (.long q1), .second, .val (.long q2), .second, .val (.long q3), .second, .val (.long q4), .second, .val (.int p5), .val (.int p6), .val (.ref b_1), .unset, .unset, .unset] [])) st_2 ?_
  refine own_go (T' := T_2) (g' := (mkF m 18 #[.val (.long q1), .second, .val (.long q2), .second, .val (.long q3), .second, .val (.long q4), .second, .val (.int p5), .val (.int p6), .val (.ref b_1), .unset, .unset, .unset] [(.long q2), (.int (8 : Int32)), (.ref b_1)])) (fun t kt => ?_) ?_
  · show Steps p.tables e below (T_2.setTop (mkF m 13 #[.val (.long q1), .second, .val (.long q2), .second, .val (.long q3), .second, .val (.long q4), .second, .val (.int p5), .val (.int p6), .val (.ref b_1), .unset, .unset, .unset] [])) t
    refine XS.aload X_2.here hx rfl (hb hby at_13) rfl rfl ?_
    show Steps p.tables e below (T_2.setTop (mkF m 15 #[.val (.long q1), .second, .val (.long q2), .second, .val (.long q3), .second, .val (.long q4), .second, .val (.int p5), .val (.int p6), .val (.ref b_1), .unset, .unset, .unset] [(.ref b_1)])) t
    refine XS.bipush X_2.here hx rfl (hb hby at_15) ?_
    show Steps p.tables e below (T_2.setTop (mkF m 17 #[.val (.long q1), .second, .val (.long q2), .second, .val (.long q3), .second, .val (.long q4), .second, .val (.int p5), .val (.int p6), .val (.ref b_1), .unset, .unset, .unset] [(.int (8 : Int32)), (.ref b_1)])) t
    refine XS.lloadN X_2.here hx rfl (hb hby at_17) rfl ?_
    exact kt
  obtain ⟨_, _, ⟨T_3, L_3, k_3, n_3⟩, -, X_3, ⟨Lc_3, hQ_3, l_3, y_3, z_3⟩, st_3⟩ := Jvm.LawKit.callS X_2 hx (y := (⟨"com/example/libidem/libidem/model/FingerprintFromDigestPinLaw", "put", "([BIJ)V"⟩ : MethodName)) hown (mvT hZ (hw _ (List.mem_of_getElem? (i := 1) rfl))) (mvT hZ (hw _ (List.mem_of_getElem? (i := 2) rfl))) (mvT hZ (hw _ (List.mem_of_getElem? (i := 3) rfl))) (mvT hZ (hw _ (List.mem_of_getElem? (i := 4) rfl))) (by decide) (backOf (W := 0) (rput l Z a0 hw [] (b_1) ((8 : Int32)) (q2) k_1 (32 : Int32) (own_put (List.replicate 32 (Value.int (0 : Int32))) 0 q1) 8 T_2.heap n0 Z_2 V_2 g_b_1 rfl (by simp only [own_put_len, List.length_replicate]; decide) (by simp only [own_put_len, List.length_replicate]; rfl) (by simp only [own_put_len, List.length_replicate]; decide)) hZ (hw _ (List.mem_of_getElem? (i := 4) rfl)) (hw _ (List.mem_of_getElem? (i := 3) rfl)) (by decide) (by decide)) (g := (mkF m 18 #[.val (.long q1), .second, .val (.long q2), .second, .val (.long q3), .second, .val (.long q4), .second, .val (.int p5), .val (.int p6), .val (.ref b_1), .unset, .unset, .unset] [(.long q2), (.int (8 : Int32)), (.ref b_1)])) rfl (by rw [hml]; rfl) (argsL := [(.ref b_1), (.int (8 : Int32)), (.long q2)]) (rest := []) (lenOf pd_0 rfl) rfl (by show 2 * 0 + _ ≤ _; exact Nat.le_of_eq rfl) (hb hby at_18) (fun _ _ => ⟨rfl, rfl, (by decide : 1 + 0 ≤ _), (by decide : 32 + 0 ≤ _)⟩)
  dsimp only [Pt.U, Pt.locs, Pt.cells, Pt.slots] at X_3 l_3 y_3 z_3 st_3 hQ_3
  subst l_3 y_3 z_3
  obtain ⟨rfl, N_3q, K_3, V_3⟩ := hQ_3
  have N_3 := Fr.app N_2 N_3q
  have Z_3 : n0 ≤ T_3.heap.size := Nat.le_trans Z_2 K_3.1
  refine own_go (g' := (mkF m 21 #[.val (.long q1), .second, .val (.long q2), .second, .val (.long q3), .second, .val (.long q4), .second, .val (.int p5), .val (.int p6), .val (.ref b_1), .unset, .unset, .unset] [])) st_3 ?_
  refine own_go (T' := T_3) (g' := (mkF m 27 #[.val (.long q1), .second, .val (.long q2), .second, .val (.long q3), .second, .val (.long q4), .second, .val (.int p5), .val (.int p6), .val (.ref b_1), .unset, .unset, .unset] [(.long q3), (.int (16 : Int32)), (.ref b_1)])) (fun t kt => ?_) ?_
  · show Steps p.tables e below (T_3.setTop (mkF m 21 #[.val (.long q1), .second, .val (.long q2), .second, .val (.long q3), .second, .val (.long q4), .second, .val (.int p5), .val (.int p6), .val (.ref b_1), .unset, .unset, .unset] [])) t
    refine XS.aload X_3.here hx rfl (hb hby at_21) rfl rfl ?_
    show Steps p.tables e below (T_3.setTop (mkF m 23 #[.val (.long q1), .second, .val (.long q2), .second, .val (.long q3), .second, .val (.long q4), .second, .val (.int p5), .val (.int p6), .val (.ref b_1), .unset, .unset, .unset] [(.ref b_1)])) t
    refine XS.bipush X_3.here hx rfl (hb hby at_23) ?_
    show Steps p.tables e below (T_3.setTop (mkF m 25 #[.val (.long q1), .second, .val (.long q2), .second, .val (.long q3), .second, .val (.long q4), .second, .val (.int p5), .val (.int p6), .val (.ref b_1), .unset, .unset, .unset] [(.int (16 : Int32)), (.ref b_1)])) t
    refine XS.lload X_3.here hx rfl (hb hby at_25) rfl ?_
    exact kt
  obtain ⟨_, _, ⟨T_4, L_4, k_4, n_4⟩, -, X_4, ⟨Lc_4, hQ_4, l_4, y_4, z_4⟩, st_4⟩ := Jvm.LawKit.callS X_3 hx (y := (⟨"com/example/libidem/libidem/model/FingerprintFromDigestPinLaw", "put", "([BIJ)V"⟩ : MethodName)) hown (mvT hZ (hw _ (List.mem_of_getElem? (i := 1) rfl))) (mvT hZ (hw _ (List.mem_of_getElem? (i := 2) rfl))) (mvT hZ (hw _ (List.mem_of_getElem? (i := 3) rfl))) (mvT hZ (hw _ (List.mem_of_getElem? (i := 4) rfl))) (by decide) (backOf (W := 0) (rput l Z a0 hw [] (b_1) ((16 : Int32)) (q3) k_1 (32 : Int32) (own_put (own_put (List.replicate 32 (Value.int (0 : Int32))) 0 q1) 8 q2) 16 T_3.heap n0 Z_3 V_3 g_b_1 rfl (by simp only [own_put_len, List.length_replicate]; decide) (by simp only [own_put_len, List.length_replicate]; rfl) (by simp only [own_put_len, List.length_replicate]; decide)) hZ (hw _ (List.mem_of_getElem? (i := 4) rfl)) (hw _ (List.mem_of_getElem? (i := 3) rfl)) (by decide) (by decide)) (g := (mkF m 27 #[.val (.long q1), .second, .val (.long q2), .second, .val (.long q3), .second, .val (.long q4), .second, .val (.int p5), .val (.int p6), .val (.ref b_1), .unset, .unset, .unset] [(.long q3), (.int (16 : Int32)), (.ref b_1)])) rfl (by rw [hml]; rfl) (argsL := [(.ref b_1), (.int (16 : Int32)), (.long q3)]) (rest := []) (lenOf pd_0 rfl) rfl (by show 2 * 0 + _ ≤ _; exact Nat.le_of_eq rfl) (hb hby at_27) (fun _ _ => ⟨rfl, rfl, (by decide : 1 + 0 ≤ _), (by decide : 32 + 0 ≤ _)⟩)
  dsimp only [Pt.U, Pt.locs, Pt.cells, Pt.slots] at X_4 l_4 y_4 z_4 st_4 hQ_4
  subst l_4 y_4 z_4
  obtain ⟨rfl, N_4q, K_4, V_4⟩ := hQ_4
  have N_4 := Fr.app N_3 N_4q
  have Z_4 : n0 ≤ T_4.heap.size := Nat.le_trans Z_3 K_4.1
  refine own_go (g' := (mkF m 30 #[.val (.long q1), .second, .val (.long q2), .second, .val (.long q3), .second, .val (.long q4), .second, .val (.int p5), .val (.int p6), .val (.ref b_1), .unset, .unset, .unset] [])) st_4 ?_
  refine own_go (T' := T_4) (g' := (mkF m 36 #[.val (.long q1), .second, .val (.long q2), .second, .val (.long q3), .second, .val (.long q4), .second, .val (.int p5), .val (.int p6), .val (.ref b_1), .unset, .unset, .unset] [(.long q4), (.int (24 : Int32)), (.ref b_1)])) (fun t kt => ?_) ?_
  · show Steps p.tables e below (T_4.setTop (mkF m 30 #[.val (.long q1), .second, .val (.long q2), .second, .val (.long q3), .second, .val (.long q4), .second, .val (.int p5), .val (.int p6), .val (.ref b_1), .unset, .unset, .unset] [])) t
    refine XS.aload X_4.here hx rfl (hb hby at_30) rfl rfl ?_
    show Steps p.tables e below (T_4.setTop (mkF m 32 #[.val (.long q1), .second, .val (.long q2), .second, .val (.long q3), .second, .val (.long q4), .second, .val (.int p5), .val (.int p6), .val (.ref b_1), .unset, .unset, .unset] [(.ref b_1)])) t
    refine XS.bipush X_4.here hx rfl (hb hby at_32) ?_
    show Steps p.tables e below (T_4.setTop (mkF m 34 #[.val (.long q1), .second, .val (.long q2), .second, .val (.long q3), .second, .val (.long q4), .second, .val (.int p5), .val (.int p6), .val (.ref b_1), .unset, .unset, .unset] [(.int (24 : Int32)), (.ref b_1)])) t
    refine XS.lload X_4.here hx rfl (hb hby at_34) rfl ?_
    exact kt
  obtain ⟨_, _, ⟨T_5, L_5, k_5, n_5⟩, -, X_5, ⟨Lc_5, hQ_5, l_5, y_5, z_5⟩, st_5⟩ := Jvm.LawKit.callS X_4 hx (y := (⟨"com/example/libidem/libidem/model/FingerprintFromDigestPinLaw", "put", "([BIJ)V"⟩ : MethodName)) hown (mvT hZ (hw _ (List.mem_of_getElem? (i := 1) rfl))) (mvT hZ (hw _ (List.mem_of_getElem? (i := 2) rfl))) (mvT hZ (hw _ (List.mem_of_getElem? (i := 3) rfl))) (mvT hZ (hw _ (List.mem_of_getElem? (i := 4) rfl))) (by decide) (backOf (W := 0) (rput l Z a0 hw [] (b_1) ((24 : Int32)) (q4) k_1 (32 : Int32) (own_put (own_put (own_put (List.replicate 32 (Value.int (0 : Int32))) 0 q1) 8 q2) 16 q3) 24 T_4.heap n0 Z_4 V_4 g_b_1 rfl (by simp only [own_put_len, List.length_replicate]; decide) (by simp only [own_put_len, List.length_replicate]; rfl) (by simp only [own_put_len, List.length_replicate]; decide)) hZ (hw _ (List.mem_of_getElem? (i := 4) rfl)) (hw _ (List.mem_of_getElem? (i := 3) rfl)) (by decide) (by decide)) (g := (mkF m 36 #[.val (.long q1), .second, .val (.long q2), .second, .val (.long q3), .second, .val (.long q4), .second, .val (.int p5), .val (.int p6), .val (.ref b_1), .unset, .unset, .unset] [(.long q4), (.int (24 : Int32)), (.ref b_1)])) rfl (by rw [hml]; rfl) (argsL := [(.ref b_1), (.int (24 : Int32)), (.long q4)]) (rest := []) (lenOf pd_0 rfl) rfl (by show 2 * 0 + _ ≤ _; exact Nat.le_of_eq rfl) (hb hby at_36) (fun _ _ => ⟨rfl, rfl, (by decide : 1 + 0 ≤ _), (by decide : 32 + 0 ≤ _)⟩)
  dsimp only [Pt.U, Pt.locs, Pt.cells, Pt.slots] at X_5 l_5 y_5 z_5 st_5 hQ_5
  subst l_5 y_5 z_5
  obtain ⟨rfl, N_5q, K_5, V_5⟩ := hQ_5
  have N_5 := Fr.app N_4 N_5q
  have Z_5 : n0 ≤ T_5.heap.size := Nat.le_trans Z_4 K_5.1
  refine own_go (g' := (mkF m 39 #[.val (.long q1), .second, .val (.long q2), .second, .val (.long q3), .second, .val (.long q4), .second, .val (.int p5), .val (.int p6), .val (.ref b_1), .unset, .unset, .unset] [])) st_5 ?_
  refine own_go (T' := T_5) (g' := (mkF m 41 #[.val (.long q1), .second, .val (.long q2), .second, .val (.long q3), .second, .val (.long q4), .second, .val (.int p5), .val (.int p6), .val (.ref b_1), .unset, .unset, .unset] [(.ref b_1)])) (fun t kt => ?_) ?_
  · show Steps p.tables e below (T_5.setTop (mkF m 39 #[.val (.long q1), .second, .val (.long q2), .second, .val (.long q3), .second, .val (.long q4), .second, .val (.int p5), .val (.int p6), .val (.ref b_1), .unset, .unset, .unset] [])) t
    refine XS.aload X_5.here hx rfl (hb hby at_39) rfl rfl ?_
    exact kt
  have f_6 := ((((B_1.keep K_2).keep K_3).keep K_4).keep K_5)
  obtain ⟨_, _, ⟨T_7, L_7, k_7, n_7⟩, -, X_7, ⟨Lc_7, hQ_7, l_7, y_7, z_7⟩, st_7⟩ := Jvm.LawKit.callS X_5 hx (y := (⟨"com/example/libidem/libidem/model/Fingerprint", "fromDigest", "([B)Lcom/example/libidem/libidem/model/Fingerprint;"⟩ : MethodName)) hown (mvT hZ (hw _ (List.mem_of_getElem? (i := 5) rfl))) (mvT hZ (hw _ (List.mem_of_getElem? (i := 6) rfl))) (mvT hZ (hw _ (List.mem_of_getElem? (i := 7) rfl))) (mvT hZ (hw _ (List.mem_of_getElem? (i := 8) rfl))) (by decide) (backOf (W := 0) (rfrom l Z a0 hw [] (b_1) k_1 (own_put (own_put (own_put (own_put (List.replicate 32 (Value.int (0 : Int32))) 0 q1) 8 q2) 16 q3) 24 q4) T_5.heap n0 Z_5 V_5 f_6) hZ (hw _ (List.mem_of_getElem? (i := 8) rfl)) (hw _ (List.mem_of_getElem? (i := 7) rfl)) (by decide) (by decide)) (g := (mkF m 41 #[.val (.long q1), .second, .val (.long q2), .second, .val (.long q3), .second, .val (.long q4), .second, .val (.int p5), .val (.int p6), .val (.ref b_1), .unset, .unset, .unset] [(.ref b_1)])) rfl (by rw [hml]; rfl) (argsL := [(.ref b_1)]) (rest := []) (lenOf pd_1 rfl) rfl (by show 2 * 0 + _ ≤ _; exact Nat.le_of_eq rfl) (hb hby at_41) (fun _ _ => ⟨rfl, rfl, (by decide : 1 + 2 ≤ _), (by decide : 32 + 33 ≤ _)⟩)
  dsimp only [Pt.U, Pt.locs, Pt.cells, Pt.slots] at X_7 l_7 y_7 z_7 st_7 hQ_7
  subst l_7 y_7 z_7
  obtain ⟨f_7, c_7, rfl, N_7q, K_7, sf_7, sc_7, E_7, F_7, V_7, B_7⟩ := hQ_7
  have N_7 := Fr.app N_5 N_7q
  have ne_b_1_f_7 : b_1 ≠ f_7 := Nat.ne_of_lt (Nat.lt_of_lt_of_le f_6.lt sf_7)
  have g_f_7 : n0 ≤ f_7 := Nat.le_trans Z_5 sf_7
  have Z_7 : n0 ≤ T_7.heap.size := Nat.le_trans Z_5 K_7.1
  refine own_go (g' := (mkF m 44 #[.val (.long q1), .second, .val (.long q2), .second, .val (.long q3), .second, .val (.long q4), .second, .val (.int p5), .val (.int p6), .val (.ref b_1), .unset, .unset, .unset] [(.ref f_7)])) st_7 ?_
  have ne_b_1_c_7 : b_1 ≠ c_7 := Nat.ne_of_lt (Nat.lt_of_lt_of_le V_5.lt sc_7)
  refine own_go (T' := T_7) (g' := (mkF m 61 #[.val (.long q1), .second, .val (.long q2), .second, .val (.long q3), .second, .val (.long q4), .second, .val (.int p5), .val (.int p6), .val (.ref b_1), .val (.ref f_7), .val (.int (p5 &&& (31 : Int32))), .unset] [(.int (p5 &&& (31 : Int32))), (.ref b_1), (.int (p5 &&& (31 : Int32))), (.ref b_1)])) (fun t kt => ?_) ?_
  · show Steps p.tables e below (T_7.setTop (mkF m 44 #[.val (.long q1), .second, .val (.long q2), .second, .val (.long q3), .second, .val (.long q4), .second, .val (.int p5), .val (.int p6), .val (.ref b_1), .unset, .unset, .unset] [(.ref f_7)])) t
    refine XS.astore X_7.here hx rfl (hb hby at_44) rfl rfl (l' := #[.val (.long q1), .second, .val (.long q2), .second, .val (.long q3), .second, .val (.long q4), .second, .val (.int p5), .val (.int p6), .val (.ref b_1), .val (.ref f_7), .unset, .unset]) rfl ?_
    show Steps p.tables e below (T_7.setTop (mkF m 46 #[.val (.long q1), .second, .val (.long q2), .second, .val (.long q3), .second, .val (.long q4), .second, .val (.int p5), .val (.int p6), .val (.ref b_1), .val (.ref f_7), .unset, .unset] [])) t
    refine XS.iload X_7.here hx rfl (hb hby at_46) rfl ?_
    show Steps p.tables e below (T_7.setTop (mkF m 48 #[.val (.long q1), .second, .val (.long q2), .second, .val (.long q3), .second, .val (.long q4), .second, .val (.int p5), .val (.int p6), .val (.ref b_1), .val (.ref f_7), .unset, .unset] [(.int p5)])) t
    refine XS.bipush X_7.here hx rfl (hb hby at_48) ?_
    show Steps p.tables e below (T_7.setTop (mkF m 50 #[.val (.long q1), .second, .val (.long q2), .second, .val (.long q3), .second, .val (.long q4), .second, .val (.int p5), .val (.int p6), .val (.ref b_1), .val (.ref f_7), .unset, .unset] [(.int (31 : Int32)), (.int p5)])) t
    refine XS.iand X_7.here hx rfl (hb hby at_50) rfl ?_
    show Steps p.tables e below (T_7.setTop (mkF m 51 #[.val (.long q1), .second, .val (.long q2), .second, .val (.long q3), .second, .val (.long q4), .second, .val (.int p5), .val (.int p6), .val (.ref b_1), .val (.ref f_7), .unset, .unset] [(.int (p5 &&& (31 : Int32)))])) t
    refine XS.istore X_7.here hx rfl (hb hby at_51) rfl (l' := #[.val (.long q1), .second, .val (.long q2), .second, .val (.long q3), .second, .val (.long q4), .second, .val (.int p5), .val (.int p6), .val (.ref b_1), .val (.ref f_7), .val (.int (p5 &&& (31 : Int32))), .unset]) rfl ?_
    show Steps p.tables e below (T_7.setTop (mkF m 53 #[.val (.long q1), .second, .val (.long q2), .second, .val (.long q3), .second, .val (.long q4), .second, .val (.int p5), .val (.int p6), .val (.ref b_1), .val (.ref f_7), .val (.int (p5 &&& (31 : Int32))), .unset] [])) t
    refine XS.aload X_7.here hx rfl (hb hby at_53) rfl rfl ?_
    show Steps p.tables e below (T_7.setTop (mkF m 55 #[.val (.long q1), .second, .val (.long q2), .second, .val (.long q3), .second, .val (.long q4), .second, .val (.int p5), .val (.int p6), .val (.ref b_1), .val (.ref f_7), .val (.int (p5 &&& (31 : Int32))), .unset] [(.ref b_1)])) t
    refine XS.iload X_7.here hx rfl (hb hby at_55) rfl ?_
    show Steps p.tables e below (T_7.setTop (mkF m 57 #[.val (.long q1), .second, .val (.long q2), .second, .val (.long q3), .second, .val (.long q4), .second, .val (.int p5), .val (.int p6), .val (.ref b_1), .val (.ref f_7), .val (.int (p5 &&& (31 : Int32))), .unset] [(.int (p5 &&& (31 : Int32))), (.ref b_1)])) t
    refine XS.aload X_7.here hx rfl (hb hby at_57) rfl rfl ?_
    show Steps p.tables e below (T_7.setTop (mkF m 59 #[.val (.long q1), .second, .val (.long q2), .second, .val (.long q3), .second, .val (.long q4), .second, .val (.int p5), .val (.int p6), .val (.ref b_1), .val (.ref f_7), .val (.int (p5 &&& (31 : Int32))), .unset] [(.ref b_1), (.int (p5 &&& (31 : Int32))), (.ref b_1)])) t
    refine XS.iload X_7.here hx rfl (hb hby at_59) rfl ?_
    exact kt
  have f_8 := (V_5.keep K_7 nin0)
  have vq_9 := f_8
  obtain ⟨c_9, a_9, q_9, s_9, m_9, H_9, G_9⟩ := vq_9
  have hin_9 : ¬ ((p5 &&& (31 : Int32)) < 0 ∨ c_9.slots.size ≤ ((p5 &&& (31 : Int32))).toNatClampNeg) := inb_of s_9 (own_31 p5)
  obtain ⟨xx, hxx⟩ := fit_I (G_9 _ (Nat.lt_of_not_le fun y => hin_9 (Or.inr y))) (Or.inr (Or.inr (Or.inl rfl)))
  have hat_9 : c_9.slots[((p5 &&& (31 : Int32))).toNatClampNeg]? = some (.int xx) := H_9.at hin_9 hxx
  refine own_go (T' := T_7) (g' := (mkF m 62 #[.val (.long q1), .second, .val (.long q2), .second, .val (.long q3), .second, .val (.long q4), .second, .val (.int p5), .val (.int p6), .val (.ref b_1), .val (.ref f_7), .val (.int (p5 &&& (31 : Int32))), .unset] [(.int xx), (.int (p5 &&& (31 : Int32))), (.ref b_1)])) (fun t kt => ?_) ?_
  · refine X_7.baloadBytes hx (j := (p5 &&& (31 : Int32))) (v := .int xx) a_9.1 (State.isArrayOf_alike hZ.alike a_9.2.1) a_9.2.2 hin_9 hat_9 (g := (mkF m 61 #[.val (.long q1), .second, .val (.long q2), .second, .val (.long q3), .second, .val (.long q4), .second, .val (.int p5), .val (.int p6), .val (.ref b_1), .val (.ref f_7), .val (.int (p5 &&& (31 : Int32))), .unset] [(.int (p5 &&& (31 : Int32))), (.ref b_1), (.int (p5 &&& (31 : Int32))), (.ref b_1)])) rfl rfl (hb hby at_61) _ ?_
    exact kt
  refine own_go (T' := T_7) (g' := (mkF m 68 #[.val (.long q1), .second, .val (.long q2), .second, .val (.long q3), .second, .val (.long q4), .second, .val (.int p5), .val (.int p6), .val (.ref b_1), .val (.ref f_7), .val (.int (p5 &&& (31 : Int32))), .unset] [(.int ((xx ^^^ (p6 ||| (1 : Int32))).toInt8.toInt32)), (.int (p5 &&& (31 : Int32))), (.ref b_1)])) (fun t kt => ?_) ?_
  · show Steps p.tables e below (T_7.setTop (mkF m 62 #[.val (.long q1), .second, .val (.long q2), .second, .val (.long q3), .second, .val (.long q4), .second, .val (.int p5), .val (.int p6), .val (.ref b_1), .val (.ref f_7), .val (.int (p5 &&& (31 : Int32))), .unset] [(.int xx), (.int (p5 &&& (31 : Int32))), (.ref b_1)])) t
    refine XS.iload X_7.here hx rfl (hb hby at_62) rfl ?_
    show Steps p.tables e below (T_7.setTop (mkF m 64 #[.val (.long q1), .second, .val (.long q2), .second, .val (.long q3), .second, .val (.long q4), .second, .val (.int p5), .val (.int p6), .val (.ref b_1), .val (.ref f_7), .val (.int (p5 &&& (31 : Int32))), .unset] [(.int p6), (.int xx), (.int (p5 &&& (31 : Int32))), (.ref b_1)])) t
    refine XS.iconst X_7.here hx rfl (hb hby at_64) ?_
    show Steps p.tables e below (T_7.setTop (mkF m 65 #[.val (.long q1), .second, .val (.long q2), .second, .val (.long q3), .second, .val (.long q4), .second, .val (.int p5), .val (.int p6), .val (.ref b_1), .val (.ref f_7), .val (.int (p5 &&& (31 : Int32))), .unset] [(.int (1 : Int32)), (.int p6), (.int xx), (.int (p5 &&& (31 : Int32))), (.ref b_1)])) t
    refine XS.ior X_7.here hx rfl (hb hby at_65) rfl ?_
    show Steps p.tables e below (T_7.setTop (mkF m 66 #[.val (.long q1), .second, .val (.long q2), .second, .val (.long q3), .second, .val (.long q4), .second, .val (.int p5), .val (.int p6), .val (.ref b_1), .val (.ref f_7), .val (.int (p5 &&& (31 : Int32))), .unset] [(.int (p6 ||| (1 : Int32))), (.int xx), (.int (p5 &&& (31 : Int32))), (.ref b_1)])) t
    refine XS.ixor X_7.here hx rfl (hb hby at_66) rfl ?_
    show Steps p.tables e below (T_7.setTop (mkF m 67 #[.val (.long q1), .second, .val (.long q2), .second, .val (.long q3), .second, .val (.long q4), .second, .val (.int p5), .val (.int p6), .val (.ref b_1), .val (.ref f_7), .val (.int (p5 &&& (31 : Int32))), .unset] [(.int (xx ^^^ (p6 ||| (1 : Int32)))), (.int (p5 &&& (31 : Int32))), (.ref b_1)])) t
    refine XS.i2b X_7.here hx rfl (hb hby at_67) rfl ?_
    exact kt
  obtain ⟨T_10, h_10, X_10, e_10, W_10, st_10⟩ := stB X_7 hx hZ rfl a_9 (j := (p5 &&& (31 : Int32))) hin_9 (g := (mkF m 68 #[.val (.long q1), .second, .val (.long q2), .second, .val (.long q3), .second, .val (.long q4), .second, .val (.int p5), .val (.int p6), .val (.ref b_1), .val (.ref f_7), .val (.int (p5 &&& (31 : Int32))), .unset] [(.int ((xx ^^^ (p6 ||| (1 : Int32))).toInt8.toInt32)), (.int (p5 &&& (31 : Int32))), (.ref b_1)])) rfl rfl (hb hby at_68)
  have Z_10 : n0 ≤ h_10.size := Nat.le_trans Z_7 (Keep.of_wr W_10).1
  have N_10 := Fr.snoc X_10 N_7 g_b_1
  refine own_go (g' := (mkF m 69 #[.val (.long q1), .second, .val (.long q2), .second, .val (.long q3), .second, .val (.long q4), .second, .val (.int p5), .val (.int p6), .val (.ref b_1), .val (.ref f_7), .val (.int (p5 &&& (31 : Int32))), .unset] [])) st_10 ?_
  refine own_go (T' := T_10) (g' := (mkF m 71 #[.val (.long q1), .second, .val (.long q2), .second, .val (.long q3), .second, .val (.long q4), .second, .val (.int p5), .val (.int p6), .val (.ref b_1), .val (.ref f_7), .val (.int (p5 &&& (31 : Int32))), .unset] [(.ref f_7)])) (fun t kt => ?_) ?_
  · show Steps p.tables e below (T_10.setTop (mkF m 69 #[.val (.long q1), .second, .val (.long q2), .second, .val (.long q3), .second, .val (.long q4), .second, .val (.int p5), .val (.int p6), .val (.ref b_1), .val (.ref f_7), .val (.int (p5 &&& (31 : Int32))), .unset] [])) t
    refine XS.aload X_10.here hx rfl (hb hby at_69) rfl rfl ?_
    exact kt
  have f_11 := (V_7.other W_10 (Ne.symm ne_b_1_c_7))
  have f_12 := (F_7.other W_10 (Or.inl (Ne.symm ne_b_1_f_7)))
  have f_13 := (B_7.wr W_10)
  have f_15 := (E_7.wr W_10)
  obtain ⟨cq_14, kq_14, q_14a, q_14b, q_14c⟩ := isOf hZ e_10 f_15
  obtain ⟨_, _, ⟨T_14, L_14, k_14, n_14⟩, -, X_14, ⟨Lc_14, hQ_14, l_14, y_14, z_14⟩, st_14⟩ := X_10.virtualBack hx (y := (⟨"com/example/libidem/libidem/model/Fingerprint", "digest", "()[B"⟩ : MethodName)) (z := (⟨"com/example/libidem/libidem/model/Fingerprint", "digest", "()[B"⟩ : MethodName)) hown (mvT hZ (hw _ (List.mem_of_getElem? (i := 28) rfl))) (mvT hZ (hw _ (List.mem_of_getElem? (i := 29) rfl))) (notFace_of_selects (args := #[]) (mvT hZ (hw _ (List.mem_of_getElem? (i := 31) rfl)))) (mvT hZ (hw _ (List.mem_of_getElem? (i := 31) rfl))) (mvT hZ (hw _ (List.mem_of_getElem? (i := 30) rfl))) (by decide) (backOf (W := 0) (rdig l Z a0 hw [] (f_7) c_7 k_1 (own_put (own_put (own_put (own_put (List.replicate 32 (Value.int (0 : Int32))) 0 q1) 8 q2) 16 q3) 24 q4) h_10 n0 Z_10 f_12 f_11 f_13) hZ (hw _ (List.mem_of_getElem? (i := 32) rfl)) (hw _ (List.mem_of_getElem? (i := 7) rfl)) (by decide) (by decide)) q_14a q_14c (g := (mkF m 71 #[.val (.long q1), .second, .val (.long q2), .second, .val (.long q3), .second, .val (.long q4), .second, .val (.int p5), .val (.int p6), .val (.ref b_1), .val (.ref f_7), .val (.int (p5 &&& (31 : Int32))), .unset] [(.ref f_7)])) rfl (by rw [hml]; rfl) (Steps.refl _) (argsL := []) (rest := []) (lenOf pd_5 rfl) rfl (by show 2 * 0 + _ ≤ _; exact Nat.le_of_eq rfl) (hb hby at_71) (fun _ _ => ⟨rfl, e_10, (by decide : 3 + 1 ≤ _), (by decide : 65 + 32 ≤ _)⟩)
  dsimp only [Pt.U, Pt.locs, Pt.cells, Pt.slots] at X_14 l_14 y_14 z_14 st_14 hQ_14
  subst l_14 y_14 z_14
  obtain ⟨o_14, rfl, N_14q, K_14, so_14, V_14⟩ := hQ_14
  have N_14 := Fr.app N_10 N_14q
  have f_16 := ((f_6.keep K_7).wr W_10)
  have ne_b_1_o_14 : b_1 ≠ o_14 := Nat.ne_of_lt (Nat.lt_of_lt_of_le f_16.lt so_14)
  have ne_f_7_o_14 : f_7 ≠ o_14 := Nat.ne_of_lt (Nat.lt_of_lt_of_le f_15.lt so_14)
  have ne_c_7_o_14 : c_7 ≠ o_14 := Nat.ne_of_lt (Nat.lt_of_lt_of_le f_11.lt so_14)
  have g_o_14 : n0 ≤ o_14 := Nat.le_trans Z_10 so_14
  have Z_14 : n0 ≤ T_14.heap.size := Nat.le_trans Z_10 K_14.1
  refine own_go (g' := (mkF m 74 #[.val (.long q1), .second, .val (.long q2), .second, .val (.long q3), .second, .val (.long q4), .second, .val (.int p5), .val (.int p6), .val (.ref b_1), .val (.ref f_7), .val (.int (p5 &&& (31 : Int32))), .unset] [(.ref o_14)])) (fun t kt => st_14.trans kt) ?_
  refine own_go (T' := T_14) (g' := (mkF m 78 #[.val (.long q1), .second, .val (.long q2), .second, .val (.long q3), .second, .val (.long q4), .second, .val (.int p5), .val (.int p6), .val (.ref b_1), .val (.ref f_7), .val (.int (p5 &&& (31 : Int32))), .val (.ref o_14)] [(.ref o_14)])) (fun t kt => ?_) ?_
  · show Steps p.tables e below (T_14.setTop (mkF m 74 #[.val (.long q1), .second, .val (.long q2), .second, .val (.long q3), .second, .val (.long q4), .second, .val (.int p5), .val (.int p6), .val (.ref b_1), .val (.ref f_7), .val (.int (p5 &&& (31 : Int32))), .unset] [(.ref o_14)])) t
    refine XS.astore X_14.here hx rfl (hb hby at_74) rfl rfl (l' := #[.val (.long q1), .second, .val (.long q2), .second, .val (.long q3), .second, .val (.long q4), .second, .val (.int p5), .val (.int p6), .val (.ref b_1), .val (.ref f_7), .val (.int (p5 &&& (31 : Int32))), .val (.ref o_14)]) rfl ?_
    show Steps p.tables e below (T_14.setTop (mkF m 76 #[.val (.long q1), .second, .val (.long q2), .second, .val (.long q3), .second, .val (.long q4), .second, .val (.int p5), .val (.int p6), .val (.ref b_1), .val (.ref f_7), .val (.int (p5 &&& (31 : Int32))), .val (.ref o_14)] [])) t
    refine XS.aload X_14.here hx rfl (hb hby at_76) rfl rfl ?_
    exact kt
  have vq_17 := V_14
  obtain ⟨c_17, a_17, -, s_17, m_17, -, -⟩ := vq_17
  refine own_go (T' := T_14) (g' := (mkF m 79 #[.val (.long q1), .second, .val (.long q2), .second, .val (.long q3), .second, .val (.long q4), .second, .val (.int p5), .val (.int p6), .val (.ref b_1), .val (.ref f_7), .val (.int (p5 &&& (31 : Int32))), .val (.ref o_14)] [(.int (32 : Int32))])) (fun t kt => ?_) ?_
  · refine X_14.arraylength hx a_17.1 (State.isArrayOf_alike hZ.alike a_17.2.1) (g := (mkF m 78 #[.val (.long q1), .second, .val (.long q2), .second, .val (.long q3), .second, .val (.long q4), .second, .val (.int p5), .val (.int p6), .val (.ref b_1), .val (.ref f_7), .val (.int (p5 &&& (31 : Int32))), .val (.ref o_14)] [(.ref o_14)])) rfl rfl (hb hby at_78) _ ?_
    rw [len_of s_17 m_17]
    exact kt
  refine own_go (T' := T_14) (g' := (mkF m 87 #[.val (.long q1), .second, .val (.long q2), .second, .val (.long q3), .second, .val (.long q4), .second, .val (.int p5), .val (.int p6), .val (.ref b_1), .val (.ref f_7), .val (.int (p5 &&& (31 : Int32))), .val (.ref o_14)] [(.int (0 : Int32)), (.ref o_14)])) (fun t kt => ?_) ?_
  · show Steps p.tables e below (T_14.setTop (mkF m 79 #[.val (.long q1), .second, .val (.long q2), .second, .val (.long q3), .second, .val (.long q4), .second, .val (.int p5), .val (.int p6), .val (.ref b_1), .val (.ref f_7), .val (.int (p5 &&& (31 : Int32))), .val (.ref o_14)] [(.int (32 : Int32))])) t
    refine XS.bipush X_14.here hx rfl (hb hby at_79) ?_
    show Steps p.tables e below (T_14.setTop (mkF m 81 #[.val (.long q1), .second, .val (.long q2), .second, .val (.long q3), .second, .val (.long q4), .second, .val (.int p5), .val (.int p6), .val (.ref b_1), .val (.ref f_7), .val (.int (p5 &&& (31 : Int32))), .val (.ref o_14)] [(.int (32 : Int32)), (.int (32 : Int32))])) t
    refine XS.icmpNo X_14.here hx rfl (hb hby at_81) rfl (teq (by decide : (32 : Int32) = (32 : Int32))).2 ?_
    show Steps p.tables e below (T_14.setTop (mkF m 84 #[.val (.long q1), .second, .val (.long q2), .second, .val (.long q3), .second, .val (.long q4), .second, .val (.int p5), .val (.int p6), .val (.ref b_1), .val (.ref f_7), .val (.int (p5 &&& (31 : Int32))), .val (.ref o_14)] [])) t
    refine XS.aload X_14.here hx rfl (hb hby at_84) rfl rfl ?_
    show Steps p.tables e below (T_14.setTop (mkF m 86 #[.val (.long q1), .second, .val (.long q2), .second, .val (.long q3), .second, .val (.long q4), .second, .val (.int p5), .val (.int p6), .val (.ref b_1), .val (.ref f_7), .val (.int (p5 &&& (31 : Int32))), .val (.ref o_14)] [(.ref o_14)])) t
    refine XS.iconst X_14.here hx rfl (hb hby at_86) ?_
    exact kt
  obtain ⟨_, _, ⟨T_18, L_18, k_18, n_18⟩, -, X_18, ⟨Lc_18, hQ_18, l_18, y_18, z_18⟩, st_18⟩ := Jvm.LawKit.callS X_14 hx (y := (⟨"com/example/libidem/libidem/model/FingerprintFromDigestPinLaw", "pack", "([BI)J"⟩ : MethodName)) hown (mvT hZ (hw _ (List.mem_of_getElem? (i := 33) rfl))) (mvT hZ (hw _ (List.mem_of_getElem? (i := 34) rfl))) (mvT hZ (hw _ (List.mem_of_getElem? (i := 3) rfl))) (mvT hZ (hw _ (List.mem_of_getElem? (i := 35) rfl))) (by decide) (backOf (W := 0) (rpack l Z a0 hw [] (o_14) ((0 : Int32)) k_1 (32 : Int32) (own_put (own_put (own_put (own_put (List.replicate 32 (Value.int (0 : Int32))) 0 q1) 8 q2) 16 q3) 24 q4) 0 (own_by q1 56) (own_by q1 48) (own_by q1 40) (own_by q1 32) (own_by q1 24) (own_by q1 16) (own_by q1 8) (own_b0 q1) T_14.heap n0 Z_14 V_14 rfl (by simp only [own_put_len, List.length_replicate]; decide) (by simp only [own_put_len, List.length_replicate]; rfl) (by simp only [own_put_len, List.length_replicate]; decide) ((own_put_out _ 24 _ _ _ (Or.inl (by decide))).trans ((own_put_out _ 16 _ _ _ (Or.inl (by decide))).trans ((own_put_out _ 8 _ _ _ (Or.inl (by decide))).trans (own_put_0 _ 0 _ _ (by simp only [own_put_len, List.length_replicate]; decide))))) ((own_put_out _ 24 _ _ _ (Or.inl (by decide))).trans ((own_put_out _ 16 _ _ _ (Or.inl (by decide))).trans ((own_put_out _ 8 _ _ _ (Or.inl (by decide))).trans (own_put_1 _ 0 _ _ (by simp only [own_put_len, List.length_replicate]; decide))))) ((own_put_out _ 24 _ _ _ (Or.inl (by decide))).trans ((own_put_out _ 16 _ _ _ (Or.inl (by decide))).trans ((own_put_out _ 8 _ _ _ (Or.inl (by decide))).trans (own_put_2 _ 0 _ _ (by simp only [own_put_len, List.length_replicate]; decide))))) ((own_put_out _ 24 _ _ _ (Or.inl (by decide))).trans ((own_put_out _ 16 _ _ _ (Or.inl (by decide))).trans ((own_put_out _ 8 _ _ _ (Or.inl (by decide))).trans (own_put_3 _ 0 _ _ (by simp only [own_put_len, List.length_replicate]; decide))))) ((own_put_out _ 24 _ _ _ (Or.inl (by decide))).trans ((own_put_out _ 16 _ _ _ (Or.inl (by decide))).trans ((own_put_out _ 8 _ _ _ (Or.inl (by decide))).trans (own_put_4 _ 0 _ _ (by simp only [own_put_len, List.length_replicate]; decide))))) ((own_put_out _ 24 _ _ _ (Or.inl (by decide))).trans ((own_put_out _ 16 _ _ _ (Or.inl (by decide))).trans ((own_put_out _ 8 _ _ _ (Or.inl (by decide))).trans (own_put_5 _ 0 _ _ (by simp only [own_put_len, List.length_replicate]; decide))))) ((own_put_out _ 24 _ _ _ (Or.inl (by decide))).trans ((own_put_out _ 16 _ _ _ (Or.inl (by decide))).trans ((own_put_out _ 8 _ _ _ (Or.inl (by decide))).trans (own_put_6 _ 0 _ _ (by simp only [own_put_len, List.length_replicate]; decide))))) ((own_put_out _ 24 _ _ _ (Or.inl (by decide))).trans ((own_put_out _ 16 _ _ _ (Or.inl (by decide))).trans ((own_put_out _ 8 _ _ _ (Or.inl (by decide))).trans (own_put_7 _ 0 _ _ (by simp only [own_put_len, List.length_replicate]; decide)))))) hZ (hw _ (List.mem_of_getElem? (i := 35) rfl)) (hw _ (List.mem_of_getElem? (i := 3) rfl)) (by decide) (by decide)) (g := (mkF m 87 #[.val (.long q1), .second, .val (.long q2), .second, .val (.long q3), .second, .val (.long q4), .second, .val (.int p5), .val (.int p6), .val (.ref b_1), .val (.ref f_7), .val (.int (p5 &&& (31 : Int32))), .val (.ref o_14)] [(.int (0 : Int32)), (.ref o_14)])) rfl (by rw [hml]; rfl) (argsL := [(.ref o_14), (.int (0 : Int32))]) (rest := []) (lenOf pd_6 rfl) rfl (by show 2 * 0 + _ ≤ _; exact Nat.le_of_eq rfl) (hb hby at_87) (fun _ _ => ⟨rfl, rfl, (by decide : 4 + 0 ≤ _), (by decide : 97 + 0 ≤ _)⟩)
  dsimp only [Pt.U, Pt.locs, Pt.cells, Pt.slots] at X_18 l_18 y_18 z_18 st_18 hQ_18
  subst l_18 y_18 z_18
  obtain ⟨rfl, N_18q, e_18⟩ := hQ_18
  have N_18 := Fr.app N_14 N_18q
  refine own_go (g' := (mkF m 90 #[.val (.long q1), .second, .val (.long q2), .second, .val (.long q3), .second, .val (.long q4), .second, .val (.int p5), .val (.int p6), .val (.ref b_1), .val (.ref f_7), .val (.int (p5 &&& (31 : Int32))), .val (.ref o_14)] [(.long (own_pk (own_by q1 56) (own_by q1 48) (own_by q1 40) (own_by q1 32) (own_by q1 24) (own_by q1 16) (own_by q1 8) (own_b0 q1)))])) st_18 ?_
  refine own_go (T' := T_18) (g' := (mkF m 99 #[.val (.long q1), .second, .val (.long q2), .second, .val (.long q3), .second, .val (.long q4), .second, .val (.int p5), .val (.int p6), .val (.ref b_1), .val (.ref f_7), .val (.int (p5 &&& (31 : Int32))), .val (.ref o_14)] [(.int (8 : Int32)), (.ref o_14)])) (fun t kt => ?_) ?_
  · show Steps p.tables e below (T_18.setTop (mkF m 90 #[.val (.long q1), .second, .val (.long q2), .second, .val (.long q3), .second, .val (.long q4), .second, .val (.int p5), .val (.int p6), .val (.ref b_1), .val (.ref f_7), .val (.int (p5 &&& (31 : Int32))), .val (.ref o_14)] [(.long (own_pk (own_by q1 56) (own_by q1 48) (own_by q1 40) (own_by q1 32) (own_by q1 24) (own_by q1 16) (own_by q1 8) (own_b0 q1)))])) t
    refine XS.lloadN X_18.here hx rfl (hb hby at_90) rfl ?_
    show Steps p.tables e below (T_18.setTop (mkF m 91 #[.val (.long q1), .second, .val (.long q2), .second, .val (.long q3), .second, .val (.long q4), .second, .val (.int p5), .val (.int p6), .val (.ref b_1), .val (.ref f_7), .val (.int (p5 &&& (31 : Int32))), .val (.ref o_14)] [(.long q1), (.long (own_pk (own_by q1 56) (own_by q1 48) (own_by q1 40) (own_by q1 32) (own_by q1 24) (own_by q1 16) (own_by q1 8) (own_b0 q1)))])) t
    refine XS.lcmp X_18.here hx rfl (hb hby at_91) rfl ?_
    show Steps p.tables e below (T_18.setTop (mkF m 92 #[.val (.long q1), .second, .val (.long q2), .second, .val (.long q3), .second, .val (.long q4), .second, .val (.int p5), .val (.int p6), .val (.ref b_1), .val (.ref f_7), .val (.int (p5 &&& (31 : Int32))), .val (.ref o_14)] [(.int (lcmpW (own_pk (own_by q1 56) (own_by q1 48) (own_by q1 40) (own_by q1 32) (own_by q1 24) (own_by q1 16) (own_by q1 8) (own_b0 q1)) q1))])) t
    refine XS.ifNo X_18.here hx rfl (hb hby at_92) rfl ((if0 _ _).trans (teq ((lw_eq _ _).mpr (own_pack q1 : (own_pk (own_by q1 56) (own_by q1 48) (own_by q1 40) (own_by q1 32) (own_by q1 24) (own_by q1 16) (own_by q1 8) (own_b0 q1)) = q1))).2) ?_
    show Steps p.tables e below (T_18.setTop (mkF m 95 #[.val (.long q1), .second, .val (.long q2), .second, .val (.long q3), .second, .val (.long q4), .second, .val (.int p5), .val (.int p6), .val (.ref b_1), .val (.ref f_7), .val (.int (p5 &&& (31 : Int32))), .val (.ref o_14)] [])) t
    refine XS.aload X_18.here hx rfl (hb hby at_95) rfl rfl ?_
    show Steps p.tables e below (T_18.setTop (mkF m 97 #[.val (.long q1), .second, .val (.long q2), .second, .val (.long q3), .second, .val (.long q4), .second, .val (.int p5), .val (.int p6), .val (.ref b_1), .val (.ref f_7), .val (.int (p5 &&& (31 : Int32))), .val (.ref o_14)] [(.ref o_14)])) t
    refine XS.bipush X_18.here hx rfl (hb hby at_97) ?_
    exact kt
  obtain ⟨_, _, ⟨T_19, L_19, k_19, n_19⟩, -, X_19, ⟨Lc_19, hQ_19, l_19, y_19, z_19⟩, st_19⟩ := Jvm.LawKit.callS X_18 hx (y := (⟨"com/example/libidem/libidem/model/FingerprintFromDigestPinLaw", "pack", "([BI)J"⟩ : MethodName)) hown (mvT hZ (hw _ (List.mem_of_getElem? (i := 33) rfl))) (mvT hZ (hw _ (List.mem_of_getElem? (i := 34) rfl))) (mvT hZ (hw _ (List.mem_of_getElem? (i := 3) rfl))) (mvT hZ (hw _ (List.mem_of_getElem? (i := 35) rfl))) (by decide) (backOf (W := 0) (rpack l Z a0 hw [] (o_14) ((8 : Int32)) k_1 (32 : Int32) (own_put (own_put (own_put (own_put (List.replicate 32 (Value.int (0 : Int32))) 0 q1) 8 q2) 16 q3) 24 q4) 8 (own_by q2 56) (own_by q2 48) (own_by q2 40) (own_by q2 32) (own_by q2 24) (own_by q2 16) (own_by q2 8) (own_b0 q2) T_14.heap n0 Z_14 V_14 rfl (by simp only [own_put_len, List.length_replicate]; decide) (by simp only [own_put_len, List.length_replicate]; rfl) (by simp only [own_put_len, List.length_replicate]; decide) ((own_put_out _ 24 _ _ _ (Or.inl (by decide))).trans ((own_put_out _ 16 _ _ _ (Or.inl (by decide))).trans (own_put_0 _ 8 _ _ (by simp only [own_put_len, List.length_replicate]; decide)))) ((own_put_out _ 24 _ _ _ (Or.inl (by decide))).trans ((own_put_out _ 16 _ _ _ (Or.inl (by decide))).trans (own_put_1 _ 8 _ _ (by simp only [own_put_len, List.length_replicate]; decide)))) ((own_put_out _ 24 _ _ _ (Or.inl (by decide))).trans ((own_put_out _ 16 _ _ _ (Or.inl (by decide))).trans (own_put_2 _ 8 _ _ (by simp only [own_put_len, List.length_replicate]; decide)))) ((own_put_out _ 24 _ _ _ (Or.inl (by decide))).trans ((own_put_out _ 16 _ _ _ (Or.inl (by decide))).trans (own_put_3 _ 8 _ _ (by simp only [own_put_len, List.length_replicate]; decide)))) ((own_put_out _ 24 _ _ _ (Or.inl (by decide))).trans ((own_put_out _ 16 _ _ _ (Or.inl (by decide))).trans (own_put_4 _ 8 _ _ (by simp only [own_put_len, List.length_replicate]; decide)))) ((own_put_out _ 24 _ _ _ (Or.inl (by decide))).trans ((own_put_out _ 16 _ _ _ (Or.inl (by decide))).trans (own_put_5 _ 8 _ _ (by simp only [own_put_len, List.length_replicate]; decide)))) ((own_put_out _ 24 _ _ _ (Or.inl (by decide))).trans ((own_put_out _ 16 _ _ _ (Or.inl (by decide))).trans (own_put_6 _ 8 _ _ (by simp only [own_put_len, List.length_replicate]; decide)))) ((own_put_out _ 24 _ _ _ (Or.inl (by decide))).trans ((own_put_out _ 16 _ _ _ (Or.inl (by decide))).trans (own_put_7 _ 8 _ _ (by simp only [own_put_len, List.length_replicate]; decide))))) hZ (hw _ (List.mem_of_getElem? (i := 35) rfl)) (hw _ (List.mem_of_getElem? (i := 3) rfl)) (by decide) (by decide)) (g := (mkF m 99 #[.val (.long q1), .second, .val (.long q2), .second, .val (.long q3), .second, .val (.long q4), .second, .val (.int p5), .val (.int p6), .val (.ref b_1), .val (.ref f_7), .val (.int (p5 &&& (31 : Int32))), .val (.ref o_14)] [(.int (8 : Int32)), (.ref o_14)])) rfl (by rw [hml]; rfl) (argsL := [(.ref o_14), (.int (8 : Int32))]) (rest := []) (lenOf pd_6 rfl) rfl (by show 2 * 0 + _ ≤ _; exact Nat.le_of_eq rfl) (hb hby at_99) (fun _ _ => ⟨rfl, e_18, (by decide : 4 + 0 ≤ _), (by decide : 97 + 0 ≤ _)⟩)
  dsimp only [Pt.U, Pt.locs, Pt.cells, Pt.slots] at X_19 l_19 y_19 z_19 st_19 hQ_19
  subst l_19 y_19 z_19
  obtain ⟨rfl, N_19q, e_19⟩ := hQ_19
  have N_19 := Fr.app N_18 N_19q
  refine own_go (g' := (mkF m 102 #[.val (.long q1), .second, .val (.long q2), .second, .val (.long q3), .second, .val (.long q4), .second, .val (.int p5), .val (.int p6), .val (.ref b_1), .val (.ref f_7), .val (.int (p5 &&& (31 : Int32))), .val (.ref o_14)] [(.long (own_pk (own_by q2 56) (own_by q2 48) (own_by q2 40) (own_by q2 32) (own_by q2 24) (own_by q2 16) (own_by q2 8) (own_b0 q2)))])) st_19 ?_
  refine own_go (T' := T_19) (g' := (mkF m 111 #[.val (.long q1), .second, .val (.long q2), .second, .val (.long q3), .second, .val (.long q4), .second, .val (.int p5), .val (.int p6), .val (.ref b_1), .val (.ref f_7), .val (.int (p5 &&& (31 : Int32))), .val (.ref o_14)] [(.int (16 : Int32)), (.ref o_14)])) (fun t kt => ?_) ?_
  · show Steps p.tables e below (T_19.setTop (mkF m 102 #[.val (.long q1), .second, .val (.long q2), .second, .val (.long q3), .second, .val (.long q4), .second, .val (.int p5), .val (.int p6), .val (.ref b_1), .val (.ref f_7), .val (.int (p5 &&& (31 : Int32))), .val (.ref o_14)] [(.long (own_pk (own_by q2 56) (own_by q2 48) (own_by q2 40) (own_by q2 32) (own_by q2 24) (own_by q2 16) (own_by q2 8) (own_b0 q2)))])) t
    refine XS.lloadN X_19.here hx rfl (hb hby at_102) rfl ?_
    show Steps p.tables e below (T_19.setTop (mkF m 103 #[.val (.long q1), .second, .val (.long q2), .second, .val (.long q3), .second, .val (.long q4), .second, .val (.int p5), .val (.int p6), .val (.ref b_1), .val (.ref f_7), .val (.int (p5 &&& (31 : Int32))), .val (.ref o_14)] [(.long q2), (.long (own_pk (own_by q2 56) (own_by q2 48) (own_by q2 40) (own_by q2 32) (own_by q2 24) (own_by q2 16) (own_by q2 8) (own_b0 q2)))])) t
    refine XS.lcmp X_19.here hx rfl (hb hby at_103) rfl ?_
    show Steps p.tables e below (T_19.setTop (mkF m 104 #[.val (.long q1), .second, .val (.long q2), .second, .val (.long q3), .second, .val (.long q4), .second, .val (.int p5), .val (.int p6), .val (.ref b_1), .val (.ref f_7), .val (.int (p5 &&& (31 : Int32))), .val (.ref o_14)] [(.int (lcmpW (own_pk (own_by q2 56) (own_by q2 48) (own_by q2 40) (own_by q2 32) (own_by q2 24) (own_by q2 16) (own_by q2 8) (own_b0 q2)) q2))])) t
    refine XS.ifNo X_19.here hx rfl (hb hby at_104) rfl ((if0 _ _).trans (teq ((lw_eq _ _).mpr (own_pack q2 : (own_pk (own_by q2 56) (own_by q2 48) (own_by q2 40) (own_by q2 32) (own_by q2 24) (own_by q2 16) (own_by q2 8) (own_b0 q2)) = q2))).2) ?_
    show Steps p.tables e below (T_19.setTop (mkF m 107 #[.val (.long q1), .second, .val (.long q2), .second, .val (.long q3), .second, .val (.long q4), .second, .val (.int p5), .val (.int p6), .val (.ref b_1), .val (.ref f_7), .val (.int (p5 &&& (31 : Int32))), .val (.ref o_14)] [])) t
    refine XS.aload X_19.here hx rfl (hb hby at_107) rfl rfl ?_
    show Steps p.tables e below (T_19.setTop (mkF m 109 #[.val (.long q1), .second, .val (.long q2), .second, .val (.long q3), .second, .val (.long q4), .second, .val (.int p5), .val (.int p6), .val (.ref b_1), .val (.ref f_7), .val (.int (p5 &&& (31 : Int32))), .val (.ref o_14)] [(.ref o_14)])) t
    refine XS.bipush X_19.here hx rfl (hb hby at_109) ?_
    exact kt
  obtain ⟨_, _, ⟨T_20, L_20, k_20, n_20⟩, -, X_20, ⟨Lc_20, hQ_20, l_20, y_20, z_20⟩, st_20⟩ := Jvm.LawKit.callS X_19 hx (y := (⟨"com/example/libidem/libidem/model/FingerprintFromDigestPinLaw", "pack", "([BI)J"⟩ : MethodName)) hown (mvT hZ (hw _ (List.mem_of_getElem? (i := 33) rfl))) (mvT hZ (hw _ (List.mem_of_getElem? (i := 34) rfl))) (mvT hZ (hw _ (List.mem_of_getElem? (i := 3) rfl))) (mvT hZ (hw _ (List.mem_of_getElem? (i := 35) rfl))) (by decide) (backOf (W := 0) (rpack l Z a0 hw [] (o_14) ((16 : Int32)) k_1 (32 : Int32) (own_put (own_put (own_put (own_put (List.replicate 32 (Value.int (0 : Int32))) 0 q1) 8 q2) 16 q3) 24 q4) 16 (own_by q3 56) (own_by q3 48) (own_by q3 40) (own_by q3 32) (own_by q3 24) (own_by q3 16) (own_by q3 8) (own_b0 q3) T_14.heap n0 Z_14 V_14 rfl (by simp only [own_put_len, List.length_replicate]; decide) (by simp only [own_put_len, List.length_replicate]; rfl) (by simp only [own_put_len, List.length_replicate]; decide) ((own_put_out _ 24 _ _ _ (Or.inl (by decide))).trans (own_put_0 _ 16 _ _ (by simp only [own_put_len, List.length_replicate]; decide))) ((own_put_out _ 24 _ _ _ (Or.inl (by decide))).trans (own_put_1 _ 16 _ _ (by simp only [own_put_len, List.length_replicate]; decide))) ((own_put_out _ 24 _ _ _ (Or.inl (by decide))).trans (own_put_2 _ 16 _ _ (by simp only [own_put_len, List.length_replicate]; decide))) ((own_put_out _ 24 _ _ _ (Or.inl (by decide))).trans (own_put_3 _ 16 _ _ (by simp only [own_put_len, List.length_replicate]; decide))) ((own_put_out _ 24 _ _ _ (Or.inl (by decide))).trans (own_put_4 _ 16 _ _ (by simp only [own_put_len, List.length_replicate]; decide))) ((own_put_out _ 24 _ _ _ (Or.inl (by decide))).trans (own_put_5 _ 16 _ _ (by simp only [own_put_len, List.length_replicate]; decide))) ((own_put_out _ 24 _ _ _ (Or.inl (by decide))).trans (own_put_6 _ 16 _ _ (by simp only [own_put_len, List.length_replicate]; decide))) ((own_put_out _ 24 _ _ _ (Or.inl (by decide))).trans (own_put_7 _ 16 _ _ (by simp only [own_put_len, List.length_replicate]; decide)))) hZ (hw _ (List.mem_of_getElem? (i := 35) rfl)) (hw _ (List.mem_of_getElem? (i := 3) rfl)) (by decide) (by decide)) (g := (mkF m 111 #[.val (.long q1), .second, .val (.long q2), .second, .val (.long q3), .second, .val (.long q4), .second, .val (.int p5), .val (.int p6), .val (.ref b_1), .val (.ref f_7), .val (.int (p5 &&& (31 : Int32))), .val (.ref o_14)] [(.int (16 : Int32)), (.ref o_14)])) rfl (by rw [hml]; rfl) (argsL := [(.ref o_14), (.int (16 : Int32))]) (rest := []) (lenOf pd_6 rfl) rfl (by show 2 * 0 + _ ≤ _; exact Nat.le_of_eq rfl) (hb hby at_111) (fun _ _ => ⟨rfl, e_19, (by decide : 4 + 0 ≤ _), (by decide : 97 + 0 ≤ _)⟩)
  dsimp only [Pt.U, Pt.locs, Pt.cells, Pt.slots] at X_20 l_20 y_20 z_20 st_20 hQ_20
  subst l_20 y_20 z_20
  obtain ⟨rfl, N_20q, e_20⟩ := hQ_20
  have N_20 := Fr.app N_19 N_20q
  refine own_go (g' := (mkF m 114 #[.val (.long q1), .second, .val (.long q2), .second, .val (.long q3), .second, .val (.long q4), .second, .val (.int p5), .val (.int p6), .val (.ref b_1), .val (.ref f_7), .val (.int (p5 &&& (31 : Int32))), .val (.ref o_14)] [(.long (own_pk (own_by q3 56) (own_by q3 48) (own_by q3 40) (own_by q3 32) (own_by q3 24) (own_by q3 16) (own_by q3 8) (own_b0 q3)))])) st_20 ?_
  refine own_go (T' := T_20) (g' := (mkF m 124 #[.val (.long q1), .second, .val (.long q2), .second, .val (.long q3), .second, .val (.long q4), .second, .val (.int p5), .val (.int p6), .val (.ref b_1), .val (.ref f_7), .val (.int (p5 &&& (31 : Int32))), .val (.ref o_14)] [(.int (24 : Int32)), (.ref o_14)])) (fun t kt => ?_) ?_
  · show Steps p.tables e below (T_20.setTop (mkF m 114 #[.val (.long q1), .second, .val (.long q2), .second, .val (.long q3), .second, .val (.long q4), .second, .val (.int p5), .val (.int p6), .val (.ref b_1), .val (.ref f_7), .val (.int (p5 &&& (31 : Int32))), .val (.ref o_14)] [(.long (own_pk (own_by q3 56) (own_by q3 48) (own_by q3 40) (own_by q3 32) (own_by q3 24) (own_by q3 16) (own_by q3 8) (own_b0 q3)))])) t
    refine XS.lload X_20.here hx rfl (hb hby at_114) rfl ?_
    show Steps p.tables e below (T_20.setTop (mkF m 116 #[.val (.long q1), .second, .val (.long q2), .second, .val (.long q3), .second, .val (.long q4), .second, .val (.int p5), .val (.int p6), .val (.ref b_1), .val (.ref f_7), .val (.int (p5 &&& (31 : Int32))), .val (.ref o_14)] [(.long q3), (.long (own_pk (own_by q3 56) (own_by q3 48) (own_by q3 40) (own_by q3 32) (own_by q3 24) (own_by q3 16) (own_by q3 8) (own_b0 q3)))])) t
    refine XS.lcmp X_20.here hx rfl (hb hby at_116) rfl ?_
    show Steps p.tables e below (T_20.setTop (mkF m 117 #[.val (.long q1), .second, .val (.long q2), .second, .val (.long q3), .second, .val (.long q4), .second, .val (.int p5), .val (.int p6), .val (.ref b_1), .val (.ref f_7), .val (.int (p5 &&& (31 : Int32))), .val (.ref o_14)] [(.int (lcmpW (own_pk (own_by q3 56) (own_by q3 48) (own_by q3 40) (own_by q3 32) (own_by q3 24) (own_by q3 16) (own_by q3 8) (own_b0 q3)) q3))])) t
    refine XS.ifNo X_20.here hx rfl (hb hby at_117) rfl ((if0 _ _).trans (teq ((lw_eq _ _).mpr (own_pack q3 : (own_pk (own_by q3 56) (own_by q3 48) (own_by q3 40) (own_by q3 32) (own_by q3 24) (own_by q3 16) (own_by q3 8) (own_b0 q3)) = q3))).2) ?_
    show Steps p.tables e below (T_20.setTop (mkF m 120 #[.val (.long q1), .second, .val (.long q2), .second, .val (.long q3), .second, .val (.long q4), .second, .val (.int p5), .val (.int p6), .val (.ref b_1), .val (.ref f_7), .val (.int (p5 &&& (31 : Int32))), .val (.ref o_14)] [])) t
    refine XS.aload X_20.here hx rfl (hb hby at_120) rfl rfl ?_
    show Steps p.tables e below (T_20.setTop (mkF m 122 #[.val (.long q1), .second, .val (.long q2), .second, .val (.long q3), .second, .val (.long q4), .second, .val (.int p5), .val (.int p6), .val (.ref b_1), .val (.ref f_7), .val (.int (p5 &&& (31 : Int32))), .val (.ref o_14)] [(.ref o_14)])) t
    refine XS.bipush X_20.here hx rfl (hb hby at_122) ?_
    exact kt
  obtain ⟨_, _, ⟨T_21, L_21, k_21, n_21⟩, -, X_21, ⟨Lc_21, hQ_21, l_21, y_21, z_21⟩, st_21⟩ := Jvm.LawKit.callS X_20 hx (y := (⟨"com/example/libidem/libidem/model/FingerprintFromDigestPinLaw", "pack", "([BI)J"⟩ : MethodName)) hown (mvT hZ (hw _ (List.mem_of_getElem? (i := 33) rfl))) (mvT hZ (hw _ (List.mem_of_getElem? (i := 34) rfl))) (mvT hZ (hw _ (List.mem_of_getElem? (i := 3) rfl))) (mvT hZ (hw _ (List.mem_of_getElem? (i := 35) rfl))) (by decide) (backOf (W := 0) (rpack l Z a0 hw [] (o_14) ((24 : Int32)) k_1 (32 : Int32) (own_put (own_put (own_put (own_put (List.replicate 32 (Value.int (0 : Int32))) 0 q1) 8 q2) 16 q3) 24 q4) 24 (own_by q4 56) (own_by q4 48) (own_by q4 40) (own_by q4 32) (own_by q4 24) (own_by q4 16) (own_by q4 8) (own_b0 q4) T_14.heap n0 Z_14 V_14 rfl (by simp only [own_put_len, List.length_replicate]; decide) (by simp only [own_put_len, List.length_replicate]; rfl) (by simp only [own_put_len, List.length_replicate]; decide) (own_put_0 _ 24 _ _ (by simp only [own_put_len, List.length_replicate]; decide)) (own_put_1 _ 24 _ _ (by simp only [own_put_len, List.length_replicate]; decide)) (own_put_2 _ 24 _ _ (by simp only [own_put_len, List.length_replicate]; decide)) (own_put_3 _ 24 _ _ (by simp only [own_put_len, List.length_replicate]; decide)) (own_put_4 _ 24 _ _ (by simp only [own_put_len, List.length_replicate]; decide)) (own_put_5 _ 24 _ _ (by simp only [own_put_len, List.length_replicate]; decide)) (own_put_6 _ 24 _ _ (by simp only [own_put_len, List.length_replicate]; decide)) (own_put_7 _ 24 _ _ (by simp only [own_put_len, List.length_replicate]; decide))) hZ (hw _ (List.mem_of_getElem? (i := 35) rfl)) (hw _ (List.mem_of_getElem? (i := 3) rfl)) (by decide) (by decide)) (g := (mkF m 124 #[.val (.long q1), .second, .val (.long q2), .second, .val (.long q3), .second, .val (.long q4), .second, .val (.int p5), .val (.int p6), .val (.ref b_1), .val (.ref f_7), .val (.int (p5 &&& (31 : Int32))), .val (.ref o_14)] [(.int (24 : Int32)), (.ref o_14)])) rfl (by rw [hml]; rfl) (argsL := [(.ref o_14), (.int (24 : Int32))]) (rest := []) (lenOf pd_6 rfl) rfl (by show 2 * 0 + _ ≤ _; exact Nat.le_of_eq rfl) (hb hby at_124) (fun _ _ => ⟨rfl, e_20, (by decide : 4 + 0 ≤ _), (by decide : 97 + 0 ≤ _)⟩)
  dsimp only [Pt.U, Pt.locs, Pt.cells, Pt.slots] at X_21 l_21 y_21 z_21 st_21 hQ_21
  subst l_21 y_21 z_21
  obtain ⟨rfl, N_21q, e_21⟩ := hQ_21
  have N_21 := Fr.app N_20 N_21q
  refine own_go (g' := (mkF m 127 #[.val (.long q1), .second, .val (.long q2), .second, .val (.long q3), .second, .val (.long q4), .second, .val (.int p5), .val (.int p6), .val (.ref b_1), .val (.ref f_7), .val (.int (p5 &&& (31 : Int32))), .val (.ref o_14)] [(.long (own_pk (own_by q4 56) (own_by q4 48) (own_by q4 40) (own_by q4 32) (own_by q4 24) (own_by q4 16) (own_by q4 8) (own_b0 q4)))])) st_21 ?_
  refine own_go (T' := T_21) (g' := (mkF m 138 #[.val (.long q1), .second, .val (.long q2), .second, .val (.long q3), .second, .val (.long q4), .second, .val (.int p5), .val (.int p6), .val (.ref b_1), .val (.ref f_7), .val (.int (p5 &&& (31 : Int32))), .val (.ref o_14)] [(.int (1 : Int32))])) (fun t kt => ?_) ?_
  · show Steps p.tables e below (T_21.setTop (mkF m 127 #[.val (.long q1), .second, .val (.long q2), .second, .val (.long q3), .second, .val (.long q4), .second, .val (.int p5), .val (.int p6), .val (.ref b_1), .val (.ref f_7), .val (.int (p5 &&& (31 : Int32))), .val (.ref o_14)] [(.long (own_pk (own_by q4 56) (own_by q4 48) (own_by q4 40) (own_by q4 32) (own_by q4 24) (own_by q4 16) (own_by q4 8) (own_b0 q4)))])) t
    refine XS.lload X_21.here hx rfl (hb hby at_127) rfl ?_
    show Steps p.tables e below (T_21.setTop (mkF m 129 #[.val (.long q1), .second, .val (.long q2), .second, .val (.long q3), .second, .val (.long q4), .second, .val (.int p5), .val (.int p6), .val (.ref b_1), .val (.ref f_7), .val (.int (p5 &&& (31 : Int32))), .val (.ref o_14)] [(.long q4), (.long (own_pk (own_by q4 56) (own_by q4 48) (own_by q4 40) (own_by q4 32) (own_by q4 24) (own_by q4 16) (own_by q4 8) (own_b0 q4)))])) t
    refine XS.lcmp X_21.here hx rfl (hb hby at_129) rfl ?_
    show Steps p.tables e below (T_21.setTop (mkF m 130 #[.val (.long q1), .second, .val (.long q2), .second, .val (.long q3), .second, .val (.long q4), .second, .val (.int p5), .val (.int p6), .val (.ref b_1), .val (.ref f_7), .val (.int (p5 &&& (31 : Int32))), .val (.ref o_14)] [(.int (lcmpW (own_pk (own_by q4 56) (own_by q4 48) (own_by q4 40) (own_by q4 32) (own_by q4 24) (own_by q4 16) (own_by q4 8) (own_b0 q4)) q4))])) t
    refine XS.ifNo X_21.here hx rfl (hb hby at_130) rfl ((if0 _ _).trans (teq ((lw_eq _ _).mpr (own_pack q4 : (own_pk (own_by q4 56) (own_by q4 48) (own_by q4 40) (own_by q4 32) (own_by q4 24) (own_by q4 16) (own_by q4 8) (own_b0 q4)) = q4))).2) ?_
    show Steps p.tables e below (T_21.setTop (mkF m 133 #[.val (.long q1), .second, .val (.long q2), .second, .val (.long q3), .second, .val (.long q4), .second, .val (.int p5), .val (.int p6), .val (.ref b_1), .val (.ref f_7), .val (.int (p5 &&& (31 : Int32))), .val (.ref o_14)] [])) t
    refine XS.iconst X_21.here hx rfl (hb hby at_133) ?_
    show Steps p.tables e below (T_21.setTop (mkF m 134 #[.val (.long q1), .second, .val (.long q2), .second, .val (.long q3), .second, .val (.long q4), .second, .val (.int p5), .val (.int p6), .val (.ref b_1), .val (.ref f_7), .val (.int (p5 &&& (31 : Int32))), .val (.ref o_14)] [(.int (1 : Int32))])) t
    refine XS.goto X_21.here hx rfl (pc0 := 134) (pc' := 138) rfl (hb hby at_134) (by decide) (by decide) ?_
    exact kt
  obtain ⟨fs, hr, hrun, hended, hW, hsame⟩ := X_21.leave (v := some (.int (1 : Int32))) (fun h => by rw [Bd.returns] at h; cases h) (BodyLoose.notSynchronized Bd)
  refine ⟨_, _, ?_, hrun, hended, _, _, rfl, ?_, ⟨_, rfl⟩, hW, hsame.mono (by decide) (by decide)⟩
  · exact retN X_21 hx (t := .boolean) Bd.returns (by simp) (hb hby at_138) hr
  · show Q_rm0 Z _ _ _ _ _ _ h0 n0 _ T_21.heap _
    rw [e_21]
    exact ⟨rfl, N_21⟩
set_option maxRecDepth 65536 in
set_option maxHeartbeats 40000000 in
theorem comes_1 {Post : Tables → Env → Array Value → State → Outcome → State → Prop} (hpost : ∀ tb e args s v u, (limb_1_1.after args s (.returned v) u = true ∧ limb_1_2.after args s (.returned v) u = true ∧ True) → FrameEnd s (.returned v) u (Jvm.fieldLocs frame_1_writes args s ++ Jvm.arrayLocs frame_1_arrays args s ++ Jvm.staticLocs frame_1_statics s) 16 320 → Post tb e args s (.returned v) u) :
    ArmFor flags0 classFile x code maxLocals ret World_1 tables_1 room_1 Calls_1 rest_1 Pre_1 Post := by
  intro l hfl _ _ p e ha hc hk s m args below hf hA hF happ hP
  obtain ⟨hcalls, hrest, hpre⟩ := hP
  obtain ⟨-, -, -, hnamed, -, -, -, hat⟩ := (Spec.applies_iff hf).mp happ
  obtain ⟨hg, hn⟩ := and_e (Cond.before_iff.mp (show (Jvm.Cond.and given_1 narrow_1).before args s = true from hpre))
  obtain ⟨u0, v0⟩ := and_e hg
  obtain ⟨u1, v1⟩ := and_e v0
  obtain ⟨u2, v2⟩ := and_e v1
  obtain ⟨u3, v3⟩ := and_e v2
  obtain ⟨u4, v4⟩ := and_e v3
  obtain ⟨u5, v5⟩ := and_e v4
  obtain ⟨w0, w1, w2, w3, w4, w5, rfl⟩ : ∃ w0 w1 w2 w3 w4 w5 : Value, args = #[w0, w1, w2, w3, w4, w5] := by
    have hs : args.size = 6 := by simpa [Cond.value, given_1] using u0
    obtain ⟨L⟩ := args
    match L, hs with
    | [w0, w1, w2, w3, w4, w5], _ => exact ⟨w0, w1, w2, w3, w4, w5, rfl⟩
  have hw := fun d (hd : d ∈ tables_1) => atoms_spec (ws := Jvm.Cond.code x code maxLocals ret :: tables_1) hat d (List.mem_cons_of_mem _ hd)
  obtain ⟨i0, ei0⟩ := isL_v u1
  obtain rfl : w0 = (.long i0) := Option.some.inj ei0
  obtain ⟨i1, ei1⟩ := isL_v u2
  obtain rfl : w1 = (.long i1) := Option.some.inj ei1
  obtain ⟨i2, ei2⟩ := isL_v u3
  obtain rfl : w2 = (.long i2) := Option.some.inj ei2
  obtain ⟨i3, ei3⟩ := isL_v u4
  obtain rfl : w3 = (.long i3) := Option.some.inj ei3
  obtain ⟨i4, ei4⟩ := is_v u5
  obtain rfl : w4 = (.int i4) := Option.some.inj ei4
  obtain ⟨i5, ei5⟩ := is_v v5
  obtain rfl : w5 = (.int i5) := Option.some.inj ei5
  obtain ⟨n, o, h1, h2, h3, _, L, rfl, ⟨rfl, N⟩, hq⟩ := rm0 l s _ hw tables_1 i0 i1 i2 i3 i4 i5  s.heap s.heap.size (Nat.le_refl _)  p e ha hc hk s m _ below hf ((Spec.applies_iff_loose hf).mp happ).1 ⟨rfl, State.Warmed39.refl s, rfl⟩ trivial
  refine ⟨n, _, h1, h2, h3, hpost _ _ _ _ _ _ ⟨Cond.after_iff.mpr rfl, Cond.after_iff.mpr (eq_i res_at (Term.int_eval (1)) rfl), trivial⟩ ⟨hq.1, hq.2.1, (hq.2.2.sift fun y hy => Or.inr (N y hy)).mono (by decide) (by decide)⟩⟩
theorem main_1_1 : Claimed_1_1 := comes_1 fun _ _ _ _ _ _ h hF => ⟨h.1, hF⟩
theorem main_1_2 : Claimed_1_2 := comes_1 fun _ _ _ _ _ _ h hF => ⟨h.2.1, hF⟩
end Jvm.Pilot.@@N@@
namespace Jvm.Pilot.@@N@@
open Jvm Jvm.ClassFile Sem Op Lib Jvm.Free Jvm.Stand Jvm.Pilot.@@N@@.Jvm.D
/-! MADE BY PROGRAM (witnessworld.py) out of the Statement's table words and the real class files: 9 classes; the members and pool entries that the words name. The judged class is class 1, her method 3. -/
namespace start1
open Jvm.ClassFile
def u (s : String) : CpInfo := .utf8 (stringToUtf16 s)
/-- a pool by its gaps: so many unusable entries, then the entry; so many at the end -/
def gap : Nat → List CpInfo → List CpInfo
  | 0, r => r
  | n + 1, r => .unusable :: gap n r
def poolList (es : List (Nat × CpInfo)) (last : Nat) : List CpInfo := es.foldr (fun e r => gap e.1 (e.2 :: r)) (gap last [])
def pool (es : List (Nat × CpInfo)) (last : Nat) : Array CpInfo := ⟨poolList es last⟩
def fileOf (pool : Array CpInfo) (this : Nat) (attrs : Array Attribute := #[]) (ms : Array MethodInfo := #[]) (fl : Nat := 33) (sup : Nat := 0) (ifs : Array Nat := #[]) (fds : Array FieldInfo := #[]) : ClassFile where
  minorVersion := 0
  majorVersion := 65
  constantPool := pool
  accessFlags := fl
  thisClass := this
  superClass := sup
  interfaces := ifs
  fields := fds
  methods := ms
  attributes := attrs
def plain (name : String) (sup : Option ClassId) : Class where
  name := name
  kind := .ordinary
  loader := none
  accessFlags := 33
  super := sup
  interfaces := #[]
  cf := none
  fields := #[]
  methods := #[]
  instanceTypes := #[]
  staticTypes := #[]
  resolved := #[]
  callSites := []
  init := .initialized
  statics := none
  mirror := none

def pool0 : Array CpInfo := pool [(5, u "<init>"), (0, u "()V"), (1, .class_ 10), (1, u "java/lang/Object"), (85, u "clone"), (0, u "()Ljava/lang/Object;")] 26

def k0c0 : Code := { maxStack := 0, maxLocals := 1, code := object_method_1_code, exceptionTable := #[], attributes := #[] }
def k0m0 : Method := { name := "<init>", desc := "()V", sig := { parameters := [], returnType := none }, accessFlags := 1, code := some k0c0 }
def k0m1 : Method := { name := "clone", desc := "()Ljava/lang/Object;", sig := { parameters := [], returnType := some (.object "java/lang/Object") }, accessFlags := 260, code := none }
/-- java/lang/Object -/
def k0 : Class := { plain "java/lang/Object" none with
  accessFlags := 33
  interfaces := #[]
  cf := some (fileOf pool0 8 #[] #[{ accessFlags := 1, nameIndex := 5, descriptorIndex := 6, attributes := #[] }, { accessFlags := 260, nameIndex := 96, descriptorIndex := 97, attributes := #[] }] 33 0 #[] #[])
  fields := #[]
  methods := #[k0m0, k0m1]
  instanceTypes := #[]
  staticTypes := #[]
  resolved := Array.replicate 124 none
  statics := none }

def pool1 : Array CpInfo := pool [(2, .class_ 4), (1, u "java/lang/Object"), (0, u "<init>"), (0, u "()V"), (0, .methodref 8 9), (0, .class_ 10), (0, .nameAndType 11 12), (0, u "com/example/libidem/libidem/model/FingerprintFromDigestPinLaw"), (0, u "put"), (0, u "([BIJ)V"), (0, .methodref 14 15), (0, .class_ 16), (0, .nameAndType 17 18), (0, u "com/example/libidem/libidem/model/Fingerprint"), (0, u "fromDigest"), (0, u "([B)Lcom/example/libidem/libidem/model/Fingerprint;"), (0, .methodref 14 20), (0, .nameAndType 21 22), (0, u "digest"), (0, u "()[B"), (0, .methodref 8 24), (0, .nameAndType 25 26), (0, u "pack"), (0, u "([BI)J"), (2, u "law"), (0, u "(JJJJII)Z")] 5

def k1m0 : Method := { name := "<init>", desc := "()V", sig := { parameters := [], returnType := none }, accessFlags := 1, code := none }
def k1c1 : Code := { maxStack := 5, maxLocals := 4, code := method_2_code, exceptionTable := #[], attributes := #[] }
def k1m1 : Method := { name := "put", desc := "([BIJ)V", sig := { parameters := [(.array .byte), .int, .long], returnType := none }, accessFlags := 10, code := some k1c1 }
def k1c2 : Code := { maxStack := 5, maxLocals := 2, code := method_3_code, exceptionTable := #[], attributes := #[] }
def k1m2 : Method := { name := "pack", desc := "([BI)J", sig := { parameters := [(.array .byte), .int], returnType := some .long }, accessFlags := 10, code := some k1c2 }
def k1c3 : Code := { maxStack := 5, maxLocals := 14, code := code, exceptionTable := #[], attributes := #[] }
def k1m3 : Method := { name := "law", desc := "(JJJJII)Z", sig := { parameters := [.long, .long, .long, .long, .int, .int], returnType := some .boolean }, accessFlags := 9, code := some k1c3 }
/-- com/example/libidem/libidem/model/FingerprintFromDigestPinLaw -/
def k1 : Class := { plain "com/example/libidem/libidem/model/FingerprintFromDigestPinLaw" (some 0) with
  accessFlags := 49
  interfaces := #[]
  cf := some (fileOf pool1 8 #[] #[{ accessFlags := 1, nameIndex := 5, descriptorIndex := 6, attributes := #[] }, { accessFlags := 10, nameIndex := 11, descriptorIndex := 12, attributes := #[] }, { accessFlags := 10, nameIndex := 25, descriptorIndex := 26, attributes := #[] }, { accessFlags := 9, nameIndex := 29, descriptorIndex := 30, attributes := #[] }] 49 2 #[] #[])
  fields := #[]
  methods := #[k1m0, k1m1, k1m2, k1m3]
  instanceTypes := #[]
  staticTypes := #[]
  resolved := Array.replicate 36 none
  statics := none }

def pool2 : Array CpInfo := pool [(1, .methodref 2 3), (0, .class_ 4), (0, .nameAndType 5 6), (0, u "java/lang/Object"), (0, u "<init>"), (0, u "()V"), (0, .fieldref 8 9), (0, .class_ 10), (0, .nameAndType 11 12), (0, u "com/example/libidem/libidem/model/Fingerprint"), (0, u "digest"), (0, u "[B"), (24, u "()[B"), (0, .methodref 8 39), (0, .nameAndType 5 40), (0, u "([B)V"), (9, .methodref 51 52), (0, .class_ 12), (0, .nameAndType 53 54), (0, u "clone"), (0, u "()Ljava/lang/Object;"), (42, u "DIGEST_BYTES"), (0, u "I"), (7, u "fromDigest"), (0, u "([B)Lcom/example/libidem/libidem/model/Fingerprint;")] 20

def k2c0 : Code := { maxStack := 2, maxLocals := 2, code := prog_9_method_1_code, exceptionTable := #[], attributes := #[] }
def k2m0 : Method := { name := "<init>", desc := "([B)V", sig := { parameters := [(.array .byte)], returnType := none }, accessFlags := 2, code := some k2c0 }
def k2c1 : Code := { maxStack := 3, maxLocals := 1, code := prog_9_method_3_code, exceptionTable := #[], attributes := #[] }
def k2m1 : Method := { name := "fromDigest", desc := "([B)Lcom/example/libidem/libidem/model/Fingerprint;", sig := { parameters := [(.array .byte)], returnType := some (.object "com/example/libidem/libidem/model/Fingerprint") }, accessFlags := 9, code := some k2c1 }
def k2c2 : Code := { maxStack := 1, maxLocals := 1, code := prog_9_method_4_code, exceptionTable := #[], attributes := #[] }
def k2m2 : Method := { name := "digest", desc := "()[B", sig := { parameters := [], returnType := some (.array .byte) }, accessFlags := 1, code := some k2c2 }
/-- com/example/libidem/libidem/model/Fingerprint -/
def k2 : Class := { plain "com/example/libidem/libidem/model/Fingerprint" (some 0) with
  accessFlags := 33
  interfaces := #[]
  cf := some (fileOf pool2 8 #[] #[{ accessFlags := 2, nameIndex := 5, descriptorIndex := 40, attributes := #[] }, { accessFlags := 9, nameIndex := 106, descriptorIndex := 107, attributes := #[] }, { accessFlags := 1, nameIndex := 11, descriptorIndex := 37, attributes := #[] }] 33 2 #[] #[{ accessFlags := 26, nameIndex := 97, descriptorIndex := 98, attributes := #[] }, { accessFlags := 18, nameIndex := 11, descriptorIndex := 12, attributes := #[] }])
  fields := #[{ name := "DIGEST_BYTES", type := .int, accessFlags := 26, slot := 0, constantValue := 0 }, { name := "digest", type := (.array .byte), accessFlags := 18, slot := 0, constantValue := 0 }]
  methods := #[k2m0, k2m1, k2m2]
  instanceTypes := #[(.array .byte)]
  staticTypes := #[.int]
  resolved := Array.replicate 128 none
  statics := none }

def pool3 : Array CpInfo := pool [(1, .class_ 2), (0, u "java/lang/Cloneable"), (0, .class_ 4), (0, u "java/lang/Object")] 2

/-- java/lang/Cloneable -/
def k3 : Class := { plain "java/lang/Cloneable" (some 0) with
  accessFlags := 1537
  interfaces := #[]
  cf := some (fileOf pool3 1 #[] #[] 1537 3 #[] #[])
  fields := #[]
  methods := #[]
  instanceTypes := #[]
  staticTypes := #[]
  resolved := Array.replicate 7 none
  statics := none }

def pool4 : Array CpInfo := pool [(1, u "java/io/Serializable"), (0, .class_ 1), (0, u "java/lang/Object"), (0, .class_ 3)] 3

/-- java/io/Serializable -/
def k4 : Class := { plain "java/io/Serializable" (some 0) with
  accessFlags := 1537
  interfaces := #[]
  cf := some (fileOf pool4 2 #[] #[] 1537 4 #[] #[])
  fields := #[]
  methods := #[]
  instanceTypes := #[]
  staticTypes := #[]
  resolved := Array.replicate 8 none
  statics := none }

/-- the primitive byte -/
def k5 : Class := { plain "byte" none with kind := .primitive 'B', accessFlags := 0x411 }
/-- [B -/
def k6 : Class := { plain "[B" (some 0) with kind := .array 5 .byte, interfaces := #[3, 4], accessFlags := 1041 }

/-- the primitive int -/
def k7 : Class := { plain "int" none with kind := .primitive 'I', accessFlags := 0x411 }
/-- [I -/
def k8 : Class := { plain "[I" (some 0) with kind := .array 7 .int, interfaces := #[3, 4], accessFlags := 1041 }

def heap : Heap := #[]
def classes : Array Class := #[k0, k1, k2, k3, k4, k5, k6, k7, k8]
def interned : List (Array UInt16 × Addr) := []
def slotsUsed : Nat := 0
def theMethod : MethodId := ⟨1, 3⟩
def args0 : Array Value := #[.long 5, .long 6, .long 7, .long 8, .int 1, .int 2]
def aboutOver (below : List Frame) : State where
  vm := { classes := classes, interned := interned.toArray }
  heap := heap
  slotsUsed := slotsUsed
  threads := #[{ frames := .invoking theMethod args0 :: below }]
def below0 : List Frame := [.native { method := ⟨0, 0⟩, args := #[] }]
def about1 : State := aboutOver below0
def p0 : Program := .bare "" "" ""
def e0 : Env := launch0.env 0 0 0
theorem w_frames : about1.frames = Frame.invoking theMethod args0 :: below0 := rfl
set_option maxRecDepth 65536 in
theorem w_args : argsFit about1.vm theMethod args0 = true := by decide +kernel
set_option maxRecDepth 65536 in
theorem w_heap : heapFits about1 = true := by decide +kernel
set_option maxRecDepth 65536 in
theorem w_runnable : about1.curStatus? = some .runnable := by decide +kernel
set_option maxRecDepth 65536 in
theorem w_alone : about1.alone = true := by decide +kernel
set_option maxRecDepth 65536 in
theorem w_named : about1.methodNamed? x = some theMethod := by decide +kernel
set_option maxRecDepth 65536 in
theorem w_hears : about1.hears theMethod below0 = true := by decide +kernel
set_option maxRecDepth 65536 in
theorem w_ripe : about1.ripe theMethod args0 below0 = true := by decide +kernel
theorem w_running : about1.status = .running := rfl
set_option maxRecDepth 65536 in
theorem w_room : about1.hasRoom e0.platform room_1 = true :=
  launch0.hasRoom_least _ room_1 (by decide +kernel) (by decide +kernel) (by decide +kernel) (by decide +kernel) (by decide +kernel) (by decide +kernel)
theorem allAtoms_all (ts : List Jvm.Cond) (a : Array Jvm.Value) (st : Jvm.State) : (allAtoms ts).before a st = ts.all (fun c => c.before a st) := by
  induction ts with
  | nil => rfl
  | cons c t ih =>
    show (Jvm.Cond.and c (allAtoms t)).before a st = _
    rw [Jvm.Cond.before_and, ih, List.all_cons]
def words1 : List Jvm.Cond := Jvm.Cond.code x code maxLocals ret :: tables_1
/-- a 'code' word, met by the world's own term for the bytes: nothing is compared byte by byte -/
theorem code_word {y : MethodName} {bytes : ByteArray} {mx : Nat} {rt : Option FieldType} {a : Array Value} {s : State} {m : MethodId} {meth : Method} {c : Code} (h1 : s.methodNamed? y = some m) (h2 : s.vm.method? m = some meth) (h3 : meth.code = some c) (h4 : c.code = bytes)
    (h5 : (c.maxLocals == mx && c.exceptionTable.isEmpty && decide (c.maxStack ≤ mostOperands) && decide (meth.sig.returnType = rt) && !meth.locks && decide (parseMethodDescriptor y.desc = some meth.sig)) = true) : (Jvm.Cond.code y bytes mx rt).before a s = true := by
  simp only [Bool.and_eq_true, beq_iff_eq, Bool.not_eq_true', decide_eq_true_eq] at h5
  obtain ⟨⟨⟨⟨⟨g1, g2⟩, g3⟩, g4⟩, g5⟩, g6⟩ := h5
  simp [Cond.before, Cond.holds, Cond.value, h1, h2, h3, h4, g1, g2, g3, g4, g5, g6]
def isCode : Jvm.Cond → Bool
  | .code _ _ _ _ => true
  | _ => false
theorem all_split {L : List Jvm.Cond} {P : Jvm.Cond → Bool} (h1 : L.all (fun c => isCode c || P c) = true) (h2 : ∀ c ∈ L.filter isCode, P c = true) : L.all P = true := by
  refine List.all_eq_true.mpr fun c hc => ?_
  have h := List.all_eq_true.mp h1 c hc
  rcases Bool.eq_false_or_eq_true (isCode c) with hi | hi
  · exact h2 c (List.mem_filter.mpr ⟨hc, hi⟩)
  · simpa [hi] using h
set_option maxRecDepth 65536 in
theorem w_c0 : (Jvm.Cond.code x code maxLocals ret).before args0 about1 = true := code_word (m := ⟨1, 3⟩) (meth := k1m3) (c := k1c3) (by decide +kernel) rfl rfl rfl (by decide +kernel)
set_option maxRecDepth 65536 in
theorem w_c1 : (Jvm.Cond.code ({ cls := "com/example/libidem/libidem/model/FingerprintFromDigestPinLaw", name := "put", desc := "([BIJ)V" } : Jvm.MethodName) method_2_code (4 : Nat) (Option.none : Option Jvm.ClassFile.FieldType)).before args0 about1 = true := code_word (m := ⟨1, 1⟩) (meth := k1m1) (c := k1c1) (by decide +kernel) rfl rfl rfl (by decide +kernel)
set_option maxRecDepth 65536 in
theorem w_c2 : (Jvm.Cond.code ({ cls := "com/example/libidem/libidem/model/Fingerprint", name := "fromDigest", desc := "([B)Lcom/example/libidem/libidem/model/Fingerprint;" } : Jvm.MethodName) prog_9_method_3_code (1 : Nat) (Option.some (Jvm.ClassFile.FieldType.object "com/example/libidem/libidem/model/Fingerprint"))).before args0 about1 = true := code_word (m := ⟨2, 1⟩) (meth := k2m1) (c := k2c1) (by decide +kernel) rfl rfl rfl (by decide +kernel)
set_option maxRecDepth 65536 in
theorem w_c3 : (Jvm.Cond.code ({ cls := "com/example/libidem/libidem/model/Fingerprint", name := "<init>", desc := "([B)V" } : Jvm.MethodName) prog_9_method_1_code (2 : Nat) (Option.none : Option Jvm.ClassFile.FieldType)).before args0 about1 = true := code_word (m := ⟨2, 0⟩) (meth := k2m0) (c := k2c0) (by decide +kernel) rfl rfl rfl (by decide +kernel)
set_option maxRecDepth 65536 in
theorem w_c4 : (Jvm.Cond.code ({ cls := "java/lang/Object", name := "<init>", desc := "()V" } : Jvm.MethodName) object_method_1_code (1 : Nat) (Option.none : Option Jvm.ClassFile.FieldType)).before args0 about1 = true := code_word (m := ⟨0, 0⟩) (meth := k0m0) (c := k0c0) (by decide +kernel) rfl rfl rfl (by decide +kernel)
set_option maxRecDepth 65536 in
theorem w_c5 : (Jvm.Cond.code ({ cls := "com/example/libidem/libidem/model/Fingerprint", name := "digest", desc := "()[B" } : Jvm.MethodName) prog_9_method_4_code (1 : Nat) (Option.some (Jvm.ClassFile.FieldType.array Jvm.ClassFile.FieldType.byte))).before args0 about1 = true := code_word (m := ⟨2, 2⟩) (meth := k2m2) (c := k2c2) (by decide +kernel) rfl rfl rfl (by decide +kernel)
set_option maxRecDepth 65536 in
theorem w_c6 : (Jvm.Cond.code ({ cls := "com/example/libidem/libidem/model/FingerprintFromDigestPinLaw", name := "pack", desc := "([BI)J" } : Jvm.MethodName) method_3_code (2 : Nat) (Option.some Jvm.ClassFile.FieldType.long)).before args0 about1 = true := code_word (m := ⟨1, 2⟩) (meth := k1m2) (c := k1c2) (by decide +kernel) rfl rfl rfl (by decide +kernel)
def codes1 : List Jvm.Cond := [Jvm.Cond.code x code maxLocals ret, Jvm.Cond.code ({ cls := "com/example/libidem/libidem/model/FingerprintFromDigestPinLaw", name := "put", desc := "([BIJ)V" } : Jvm.MethodName) method_2_code (4 : Nat) (Option.none : Option Jvm.ClassFile.FieldType), Jvm.Cond.code ({ cls := "com/example/libidem/libidem/model/Fingerprint", name := "fromDigest", desc := "([B)Lcom/example/libidem/libidem/model/Fingerprint;" } : Jvm.MethodName) prog_9_method_3_code (1 : Nat) (Option.some (Jvm.ClassFile.FieldType.object "com/example/libidem/libidem/model/Fingerprint")), Jvm.Cond.code ({ cls := "com/example/libidem/libidem/model/Fingerprint", name := "<init>", desc := "([B)V" } : Jvm.MethodName) prog_9_method_1_code (2 : Nat) (Option.none : Option Jvm.ClassFile.FieldType), Jvm.Cond.code ({ cls := "java/lang/Object", name := "<init>", desc := "()V" } : Jvm.MethodName) object_method_1_code (1 : Nat) (Option.none : Option Jvm.ClassFile.FieldType), Jvm.Cond.code ({ cls := "com/example/libidem/libidem/model/Fingerprint", name := "digest", desc := "()[B" } : Jvm.MethodName) prog_9_method_4_code (1 : Nat) (Option.some (Jvm.ClassFile.FieldType.array Jvm.ClassFile.FieldType.byte)), Jvm.Cond.code ({ cls := "com/example/libidem/libidem/model/FingerprintFromDigestPinLaw", name := "pack", desc := "([BI)J" } : Jvm.MethodName) method_3_code (2 : Nat) (Option.some Jvm.ClassFile.FieldType.long)]
set_option maxRecDepth 65536 in
theorem codes_eq : words1.filter isCode = codes1 := rfl
theorem w_codes : ∀ c ∈ words1.filter isCode, c.before args0 about1 = true := by
  rw [codes_eq]
  intro c hc
  simp only [codes1, List.mem_cons, List.not_mem_nil, or_false] at hc
  rcases hc with rfl | rfl | rfl | rfl | rfl | rfl | rfl
  · exact w_c0
  · exact w_c1
  · exact w_c2
  · exact w_c3
  · exact w_c4
  · exact w_c5
  · exact w_c6
set_option maxRecDepth 65536 in
theorem w_t1 : (words1.take 24).all (fun c => isCode c || c.before args0 about1) = true := by decide +kernel
set_option maxRecDepth 65536 in
theorem w_t2 : (words1.drop 24).all (fun c => isCode c || c.before args0 about1) = true := by decide +kernel
theorem w_tables : (allAtoms (Jvm.Cond.code x code maxLocals ret :: tables_1)).before args0 about1 = true := by
  rw [allAtoms_all]
  show words1.all (fun c => c.before args0 about1) = true
  refine all_split ?_ w_codes
  rw [← List.take_append_drop 24 words1, List.all_append, w_t1, w_t2]
  rfl
set_option maxRecDepth 65536 in
theorem w_case : (Jvm.Cond.and given_1 narrow_1).before args0 about1 = true := by decide +kernel
theorem w_applies : (headSpec (Jvm.Cond.code x code maxLocals ret :: tables_1) room_1).applies x e0.platform about1 = true :=
  (Spec.applies_iff w_frames).mpr ⟨w_running, w_runnable, w_alone, w_named, w_hears, w_ripe, w_room, w_tables⟩
theorem atStart : AtStart classFile x code maxLocals ret World_1 tables_1 room_1 Calls_1 rest_1 Pre_1 launch0 p0 e0 about1 theMethod args0 below0 :=
  ⟨lists_1, trivial, launch0.admits_env _ _ _, launch0.least_env, fairChoices_fair.cas, fairChoices_fair.clock, w_frames, w_args, w_heap, w_applies, trivial, trivial, w_case⟩
end start1
theorem witness_1 : WitnessClaimed_1 := ⟨start1.p0, start1.e0, start1.about1, start1.theMethod, start1.args0, start1.below0, start1.atStart⟩
end Jvm.Pilot.@@N@@
